import JvmDerived
import JvmDerived.Pilot.@@N@@Statement
import JvmDerived.Pilot.@@N@@Code
set_option linter.unusedVariables false
set_option linter.unusedSimpArgs false
namespace Jvm.RoadKit
open Sem ClassFile Op Lib Jvm.Stand Jvm.Free Jvm.LawKit
abbrev sI_ (x : Int32) : Slot := .val (.int x)
abbrev sJ_ (x : Int64) : Slot := .val (.long x)
abbrev sR_ (x : Addr) : Slot := .val (.ref x)
abbrev sU_ : Slot := .unset
abbrev sS_ : Slot := .second
theorem catR (a : Addr) : (Value.ref a).category = 1 := rfl
theorem catN : Value.null.category = 1 := rfl
theorem catI (x : Int32) : (Value.int x).category = 1 := rfl
theorem catJ (x : Int64) : (Value.long x).category = 2 := rfl
section Own
variable {p : Program} {l : Launch} {e : Env} {R : Room} {s : State} {m : MethodId} {args : Array Value} {below : List Frame} {meth : Method} {c : Code} {T U U' : State} {locs : List Loc} {cells slots : Nat} {Z : State} {a0 : Array Value} {h : Heap} {Q : Option Value → Heap → List Loc → Prop} {C S : Nat}
/-- what is left to show at a point of a walk: from U the body comes to its end, and Q holds there -/
def Goes (p : Program) (e : Env) (s : State) (below : List Frame) (Q : Option Value → Heap → List Loc → Prop) (C S : Nat) (U : State) : Prop :=
  ∃ s₂ o, Steps p.tables e below U s₂ ∧ s₂.status = .running ∧ Ended s₂ below o ∧ ∃ v L, o = .returned v ∧ Q v s₂.heap L ∧ FrameEnd s o s₂ L C S
theorem Goes.go (st : ∀ t, Steps p.tables e below U' t → Steps p.tables e below U t) (k : Goes p e s below Q C S U') : Goes p e s below Q C S U := by
  obtain ⟨s₂, o, h1, h2⟩ := k
  exact ⟨s₂, o, st _ h1, h2⟩
theorem Goes.leave {v : Option Value} (X : Stand p l e R s m args below meth c T locs cells slots) (hlk : meth.locks = false) (hv : meth.sig.returnType = none → v = none) (hQ : Q v T.heap locs) (hc : cells ≤ C) (hs : slots ≤ S)
    (st : ∀ fs, (∀ (f : JFrame) (acts : List Action), f.method = m → f.locked = none → f.entered = [] → (doReturn e (T.setTop f) acts v).1 = T.setFrames fs) → Steps p.tables e below U (T.setFrames fs)) : Goes p e s below Q C S U := by
  obtain ⟨fs, hr, hrun, hended, hW, hsame⟩ := X.leave (v := v) hv hlk
  exact ⟨_, _, st fs hr, hrun, hended, _, _, rfl, hQ, ⟨_, rfl⟩, hW, hsame.mono hc hs⟩
theorem Goes.retB {pc : Nat} {Ls : Array Slot} {z : Int32} {rest : List Value} (X : Stand p l e R s m args below meth c T locs cells slots) (hx : p.tables.exec = Jvm.exec) (hlk : meth.locks = false) (hret : meth.sig.returnType = some .boolean) (hd : decode c.code pc = .ok (.ireturn, 1)) (hc : cells ≤ C) (hs : slots ≤ S) (hQ : Q (some (.int (nar .boolean z))) T.heap locs) : Goes p e s below Q C S (T.setTop (mkF m pc Ls (.int z :: rest))) :=
  Goes.leave X hlk (fun h => by rw [hret] at h; cases h) hQ hc hs fun fs hr => retN X hx (t := .boolean) hret (by simp) hd hr
theorem Goes.retC {pc : Nat} {Ls : Array Slot} {z : Int32} {rest : List Value} (X : Stand p l e R s m args below meth c T locs cells slots) (hx : p.tables.exec = Jvm.exec) (hlk : meth.locks = false) (hret : meth.sig.returnType = some .char) (hd : decode c.code pc = .ok (.ireturn, 1)) (hc : cells ≤ C) (hs : slots ≤ S) (hQ : Q (some (.int (nar .char z))) T.heap locs) : Goes p e s below Q C S (T.setTop (mkF m pc Ls (.int z :: rest))) :=
  Goes.leave X hlk (fun h => by rw [hret] at h; cases h) hQ hc hs fun fs hr => retN X hx (t := .char) hret (by simp) hd hr
theorem Goes.retI {pc : Nat} {Ls : Array Slot} {z : Int32} {rest : List Value} (X : Stand p l e R s m args below meth c T locs cells slots) (hx : p.tables.exec = Jvm.exec) (hlk : meth.locks = false) (hret : meth.sig.returnType = some .int) (hd : decode c.code pc = .ok (.ireturn, 1)) (hc : cells ≤ C) (hs : slots ≤ S) (hQ : Q (some (.int z)) T.heap locs) : Goes p e s below Q C S (T.setTop (mkF m pc Ls (.int z :: rest))) :=
  Goes.leave X hlk (fun h => by rw [hret] at h; cases h) hQ hc hs fun fs hr => retOut X hx hret rfl (Or.inl ⟨rfl, Or.inl rfl, _, rfl⟩) hd hr
theorem Goes.retJ {pc : Nat} {Ls : Array Slot} {z : Int64} {rest : List Value} (X : Stand p l e R s m args below meth c T locs cells slots) (hx : p.tables.exec = Jvm.exec) (hlk : meth.locks = false) (hret : meth.sig.returnType = some .long) (hd : decode c.code pc = .ok (.lreturn, 1)) (hc : cells ≤ C) (hs : slots ≤ S) (hQ : Q (some (.long z)) T.heap locs) : Goes p e s below Q C S (T.setTop (mkF m pc Ls (.long z :: rest))) :=
  Goes.leave X hlk (fun h => by rw [hret] at h; cases h) hQ hc hs fun fs hr => retOut X hx hret rfl (Or.inr (Or.inl ⟨rfl, rfl, _, rfl⟩)) hd hr
theorem ownNarrow {t : FieldType} {v : Value} (hv : v.isRef = true) (ht : t.isReference = true) : narrow t v = v := by
  rcases ref_cases hv with rfl | ⟨a, rfl⟩ <;> cases t <;> first | rfl | cases ht
theorem Goes.retA {pc : Nat} {Ls : Array Slot} {v : Value} {t : FieldType} {rest : List Value} (X : Stand p l e R s m args below meth c T locs cells slots) (hx : p.tables.exec = Jvm.exec) (hlk : meth.locks = false) (hret : meth.sig.returnType = some t) (ht : t.isReference = true) (hv : v.isRef = true) (hd : decode c.code pc = .ok (.areturn, 1)) (hc : cells ≤ C) (hs : slots ≤ S) (hQ : Q (some v) T.heap locs) : Goes p e s below Q C S (T.setTop (mkF m pc Ls (v :: rest))) :=
  Goes.leave X hlk (fun h => by rw [hret] at h; cases h) hQ hc hs fun fs hr => retOut X hx hret (ownNarrow hv ht) (Or.inr (Or.inr (Or.inr (Or.inr ⟨rfl, ht, hv⟩)))) hd hr
theorem Goes.retV {pc : Nat} {Ls : Array Slot} (X : Stand p l e R s m args below meth c T locs cells slots) (hx : p.tables.exec = Jvm.exec) (hlk : meth.locks = false) (hret : meth.sig.returnType = none) (hd : decode c.code pc = .ok (.return_, 1)) (hc : cells ≤ C) (hs : slots ≤ S) (hQ : Q none T.heap locs) : Goes p e s below Q C S (T.setTop (mkF m pc Ls [])) :=
  Goes.leave X hlk (fun _ => rfl) hQ hc hs fun fs hr => X.returnOut hx hret hd hr
/-- a body's contract: with these arguments over this heap it returns, and Q holds -/
def Pays (l : Launch) (Z : State) (y : MethodName) (bytes : ByteArray) (maxL : Nat) (ret : Option FieldType) (ws : List Jvm.Cond) (rm : Room) (as' : Array Value) (h : Heap) (Q : Option Value → Heap → List Loc → Prop) : Prop :=
  MetFree l y (head1 (Jvm.Cond.code y bytes maxL ret :: ws) rm) (fun a U => a = as' ∧ Z.Warmed39 U.vm ∧ U.heap = h) (fun _ _ _ _ _ => True) (fun _ U o U' => ∃ v L, o = .returned v ∧ Q v U'.heap L ∧ FrameEnd U o U' L rm.cells rm.slots)
theorem Pays.of {y : MethodName} {bytes : ByteArray} {maxL : Nat} {ret : Option FieldType} {ws : List Jvm.Cond} {rm : Room} {as' : Array Value} (hpl : plainFor y = true)
    (body : ∀ (p : Program) (e : Env) (s : State) (m : MethodId) (below : List Frame) (meth : Method) (c : Code) (s₁ : State), p.tables.exec = Jvm.exec → c.code = bytes → c.maxLocals = maxL → s.vm.findClass y.cls = some m.cls → meth.name = y.name → meth.sig.returnType = ret → meth.locks = false → Z.Warmed39 s.vm → s₁.heap = h → Stand p l e rm s m as' below meth c s₁ [] 0 0 → Goes p e s below Q rm.cells rm.slots (s₁.setTop (entryFrame m as' maxL))) :
    Pays l Z y bytes maxL ret ws rm as' h Q := by
  refine MetFree.of_bodySF hpl hisR ?_
  intro p e s m args below meth c s₁ Bd hml hP hK
  obtain ⟨rfl, hZ, hh⟩ := hP
  obtain ⟨s₂, o, h1, h2, h3, h4⟩ := body p e s m below meth c s₁ Bd.exec Bd.bytes hml (findClass_of_methodNamed Bd.named) (name_of_methodNamed Bd.named Bd.method).1 Bd.returns Bd.notSynchronized hZ (by rw [← hh, Bd.state]; rfl) (Stand.of_body Bd)
  exact ⟨s₂, o, h1, h2, h3, h4⟩
theorem callStatic (X : Stand p l e R s m args below meth c T locs cells slots) (hx : p.tables.exec = Jvm.exec) (hZ : Z.Warmed39 s.vm) {own : String} {index : Nat} {y : MethodName} {bytes : ByteArray} {maxL W : Nat} {ret : Option FieldType} {rm : Room} {as' : Array Value}
    (hown : s.vm.findClass own = some m.cls) (w1 : (Jvm.Cond.methodLink own index y).before a0 Z = true) (w2 : (Jvm.Cond.static y).before a0 Z = true) (w3 : (Jvm.Cond.initialized y.cls).before a0 Z = true) (w4 : (Jvm.Cond.code y bytes maxL ret).before a0 Z = true) (hy : y.cls ≠ "java/lang/invoke/MethodHandle" ∧ y.cls ≠ "java/lang/invoke/VarHandle")
    (M : Pays l Z y bytes maxL ret [] rm as' h Q) (hf : rm.frames + 1 ≤ R.frames) (hl : W + (maxL + 11) + rm.locals ≤ R.locals) (hc : cells + rm.cells ≤ R.cells) (hs : slots + rm.slots ≤ R.slots) (eT : T.heap = h)
    {g : JFrame} (hg : g.method = m) (hsize : g.locals.size = c.maxLocals) {argsL rest : List Value} (hlen : ∀ sig, parseMethodDescriptor y.desc = some sig → argsL.length = sig.parameters.length) (hstack : g.stack = argsL.reverse ++ rest) (has : argsL.toArray = as') (hW : 2 * g.monitorRoom + (rest.map fun v => v.category).sum ≤ W) (hdg : decode c.code g.pc = .ok (.invokestatic index, 3)) :
    ∃ (v : Option Value) (T' : State) (L : List Loc), Stand p l e R s m args below meth c T' (locs ++ L) (cells + rm.cells) (slots + rm.slots) ∧ Q v T'.heap L ∧ ∀ t, Steps p.tables e below (T'.setTop { g with pc := g.pc + 3, stack := v.toList ++ rest }) t → Steps p.tables e below (T.setTop g) t := by
  obtain ⟨v, vm1, ⟨T', L', k', n'⟩, -, X', ⟨Lc, hQ, l1, y1, z1⟩, st⟩ := Jvm.LawKit.callS X hx (y := y) hown (mvT hZ w1) (mvT hZ w2) (mvT hZ w3) (mvT hZ w4) hy (backOf (W := W) M hZ w4 w3 hf hl) hg hsize (argsL := argsL) (rest := rest) hlen hstack hW hdg (fun _ _ => ⟨has, eT, hc, hs⟩)
  dsimp only [Pt.U, Pt.locs, Pt.cells, Pt.slots] at X' l1 y1 z1 st hQ
  subst l1 y1 z1
  exact ⟨v, T', Lc, X', hQ, st⟩
theorem callVirtual (X : Stand p l e R s m args below meth c T locs cells slots) (hx : p.tables.exec = Jvm.exec) (hZ : Z.Warmed39 s.vm) {own K : String} {index : Nat} {y z : MethodName} {bytes : ByteArray} {maxL W : Nat} {ret : Option FieldType} {rm : Room} {as' : Array Value}
    (hown : s.vm.findClass own = some m.cls) (w1 : (Jvm.Cond.methodLink own index y).before a0 Z = true) (w2 : (Jvm.Cond.declares y).before a0 Z = true) (nf : NotFace s y) (w3 : (Jvm.Cond.selects K y z).before a0 Z = true) (w5 : (Jvm.Cond.instanceMethod z).before a0 Z = true) (w6 : (Jvm.Cond.initialized z.cls).before a0 Z = true) (w4 : (Jvm.Cond.code z bytes maxL ret).before a0 Z = true) (hy : y.cls ≠ "java/lang/invoke/MethodHandle" ∧ y.cls ≠ "java/lang/invoke/VarHandle")
    (M : Pays l Z z bytes maxL ret [] rm as' h Q) (hf : rm.frames + 1 ≤ R.frames) (hl : W + (maxL + 11) + rm.locals ≤ R.locals) (hc : cells + rm.cells ≤ R.cells) (hs : slots + rm.slots ≤ R.slots) (eT : T.heap = h) {b : Addr} (E : Exa Z h b K)
    {g : JFrame} (hg : g.method = m) (hsize : g.locals.size = c.maxLocals) {argsL rest : List Value} (hlen : ∀ sig, parseMethodDescriptor y.desc = some sig → argsL.length = sig.parameters.length) (hstack : g.stack = argsL.reverse ++ .ref b :: rest) (has : (.ref b :: argsL).toArray = as') (hW : 2 * g.monitorRoom + (rest.map fun v => v.category).sum ≤ W) (hdg : decode c.code g.pc = .ok (.invokevirtual index, 3)) :
    ∃ (v : Option Value) (T' : State) (L : List Loc), Stand p l e R s m args below meth c T' (locs ++ L) (cells + rm.cells) (slots + rm.slots) ∧ Q v T'.heap L ∧ ∀ t, Steps p.tables e below (T'.setTop { g with pc := g.pc + 3, stack := v.toList ++ rest }) t → Steps p.tables e below (T.setTop g) t := by
  obtain ⟨cq, kq, qa, -, qc⟩ := isOf (T := T) hZ eT E
  obtain ⟨v, vm1, ⟨T', L', k', n'⟩, -, X', ⟨Lc, hQ, l1, y1, z1⟩, st⟩ := X.virtualBack hx (y := y) (z := z) hown (mvT hZ w1) (mvT hZ w2) nf (mvT hZ w3) (mvT hZ w5) hy (backOf (W := W) M hZ w4 w6 hf hl) qa qc hg hsize (Steps.refl _) (argsL := argsL) (rest := rest) hlen hstack hW hdg (fun _ _ => ⟨has, eT, hc, hs⟩)
  dsimp only [Pt.U, Pt.locs, Pt.cells, Pt.slots] at X' l1 y1 z1 st hQ
  subst l1 y1 z1
  exact ⟨v, T', Lc, X', hQ, fun t k => st.trans k⟩
theorem callInit (X : Stand p l e R s m args below meth c T locs cells slots) (hx : p.tables.exec = Jvm.exec) (hZ : Z.Warmed39 s.vm) {own : String} {index : Nat} {y : MethodName} {bytes : ByteArray} {maxL W : Nat} {rm : Room} {as' : Array Value}
    (hy1 : y.name = "<init>") (hown : s.vm.findClass own = some m.cls) (w1 : (Jvm.Cond.methodLink own index y).before a0 Z = true) (w5 : (Jvm.Cond.instanceMethod y).before a0 Z = true) (w6 : (Jvm.Cond.initialized y.cls).before a0 Z = true) (w4 : (Jvm.Cond.code y bytes maxL none).before a0 Z = true) (hy : y.cls ≠ "java/lang/invoke/MethodHandle" ∧ y.cls ≠ "java/lang/invoke/VarHandle")
    (M : Pays l Z y bytes maxL none [] rm as' h Q) (hf : rm.frames + 1 ≤ R.frames) (hl : W + (maxL + 11) + rm.locals ≤ R.locals) (hc : cells + rm.cells ≤ R.cells) (hs : slots + rm.slots ≤ R.slots) (eT : T.heap = h) {b : Addr}
    {g : JFrame} (hg : g.method = m) (hsize : g.locals.size = c.maxLocals) {argsL rest : List Value} (hlen : ∀ sig, parseMethodDescriptor y.desc = some sig → argsL.length = sig.parameters.length) (hstack : g.stack = argsL.reverse ++ .ref b :: rest) (has : (.ref b :: argsL).toArray = as') (hW : 2 * g.monitorRoom + (rest.map fun v => v.category).sum ≤ W) (hdg : decode c.code g.pc = .ok (.invokespecial index, 3)) :
    ∃ (v : Option Value) (T' : State) (L : List Loc), Stand p l e R s m args below meth c T' (locs ++ L) (cells + rm.cells) (slots + rm.slots) ∧ Q v T'.heap L ∧ ∀ t, Steps p.tables e below (T'.setTop { g with pc := g.pc + 3, stack := v.toList ++ rest }) t → Steps p.tables e below (T.setTop g) t := by
  obtain ⟨v, vm1, ⟨T', L', k', n'⟩, -, X', ⟨Lc, hQ, l1, y1, z1⟩, st⟩ := X.specialBack hx (y := y) hy1 hown (mvT hZ w1) (mvT hZ w5) (mvT hZ w4) hy (backOf (W := W) M hZ w4 w6 hf hl) hg hsize (Steps.refl _) (a := b) (argsL := argsL) (rest := rest) hlen hstack hW hdg (fun _ _ => ⟨has, eT, hc, hs⟩)
  dsimp only [Pt.U, Pt.locs, Pt.cells, Pt.slots] at X' l1 y1 z1 st hQ
  subst l1 y1 z1
  exact ⟨v, T', Lc, X', hQ, fun t k => st.trans k⟩
theorem callPrivate (X : Stand p l e R s m args below meth c T locs cells slots) (hx : p.tables.exec = Jvm.exec) (hZ : Z.Warmed39 s.vm) {own K : String} {index kk : Nat} {y : MethodName} {bytes : ByteArray} {maxL W : Nat} {ret : Option FieldType} {rm : Room} {as' : Array Value}
    (hown : s.vm.findClass own = some m.cls) (w1 : (Jvm.Cond.methodLink own index y).before a0 Z = true) (w5 : (Jvm.Cond.instanceMethod y).before a0 Z = true) (wp : (Jvm.Cond.privateMethod y).before a0 Z = true) (wi : (Jvm.Cond.instantiable y.cls kk).before a0 Z = true) (w6 : (Jvm.Cond.initialized y.cls).before a0 Z = true) (w4 : (Jvm.Cond.code y bytes maxL ret).before a0 Z = true) (hy : y.cls ≠ "java/lang/invoke/MethodHandle" ∧ y.cls ≠ "java/lang/invoke/VarHandle")
    (M : Pays l Z y bytes maxL ret [] rm as' h Q) (hf : rm.frames + 1 ≤ R.frames) (hl : W + (maxL + 11) + rm.locals ≤ R.locals) (hc : cells + rm.cells ≤ R.cells) (hs : slots + rm.slots ≤ R.slots) (eT : T.heap = h) {b : Addr} (E : Exa Z h b K)
    {g : JFrame} (hg : g.method = m) (hsize : g.locals.size = c.maxLocals) {argsL rest : List Value} (hlen : ∀ sig, parseMethodDescriptor y.desc = some sig → argsL.length = sig.parameters.length) (hstack : g.stack = argsL.reverse ++ .ref b :: rest) (has : (.ref b :: argsL).toArray = as') (hW : 2 * g.monitorRoom + (rest.map fun v => v.category).sum ≤ W) (hdg : decode c.code g.pc = .ok (.invokevirtual index, 3)) :
    ∃ (v : Option Value) (T' : State) (L : List Loc), Stand p l e R s m args below meth c T' (locs ++ L) (cells + rm.cells) (slots + rm.slots) ∧ Q v T'.heap L ∧ ∀ t, Steps p.tables e below (T'.setTop { g with pc := g.pc + 3, stack := v.toList ++ rest }) t → Steps p.tables e below (T.setTop g) t := by
  obtain ⟨cc, kc, i1, i2, -, i4, -⟩ := Cond.instantiable_spec (mvT (args := args) hZ wi)
  have i5 : kc.isInterface = false := by cases hq : kc.isInterface <;> simp_all
  have hpr := Cond.privateMethod_at (mvP (args := #[]) hZ wp)
  obtain ⟨cell, c1, c2⟩ := E.cell
  obtain ⟨v, vm1, ⟨T', L', k', n'⟩, -, X', ⟨Lc, hQ, l1, y1, z1⟩, st⟩ := X.privateBack hx (y := y) hown (mvT hZ w1) (mvT hZ w5) (selects_self_of_private i1 i2 i5 hpr (mvT hZ w5) hy) hpr (mvT hZ w4) hy (backOf (W := W) M hZ w4 w6 hf hl) hg hsize (Steps.refl _) (a := b) (cell := cell) (by rw [eT]; exact c1) c2 (argsL := argsL) (rest := rest) hlen hstack hW hdg (fun _ _ => ⟨has, eT, hc, hs⟩)
  dsimp only [Pt.U, Pt.locs, Pt.cells, Pt.slots] at X' l1 y1 z1 st hQ
  subst l1 y1 z1
  exact ⟨v, T', Lc, X', hQ, fun t k => st.trans k⟩
theorem callFace (X : Stand p l e R s m args below meth c T locs cells slots) (hx : p.tables.exec = Jvm.exec) (hZ : Z.Warmed39 s.vm) {own K : String} {index count : Nat} {y z : MethodName} {bytes : ByteArray} {maxL W : Nat} {ret : Option FieldType} {rm : Room} {as' : Array Value}
    (hown : s.vm.findClass own = some m.cls) (w1 : (Jvm.Cond.methodLink own index y).before a0 Z = true) (w2 : (Jvm.Cond.declares y).before a0 Z = true) (wf : (Jvm.Cond.interfaceMethod y.cls y.cls y.name y.desc).before args s = true) (w3 : (Jvm.Cond.selects K y z).before a0 Z = true) (w5 : (Jvm.Cond.instanceMethod z).before a0 Z = true) (wp : (Jvm.Cond.publicMethod z).before a0 Z = true) (wu : (Jvm.Cond.unhidden K y.name y.desc).before a0 Z = true) (wc : (Jvm.Cond.castable K y.cls).before a0 Z = true) (w6 : (Jvm.Cond.initialized z.cls).before a0 Z = true) (w4 : (Jvm.Cond.code z bytes maxL ret).before a0 Z = true) (hy : y.cls ≠ "java/lang/invoke/MethodHandle" ∧ y.cls ≠ "java/lang/invoke/VarHandle")
    (M : Pays l Z z bytes maxL ret [] rm as' h Q) (hf : rm.frames + 1 ≤ R.frames) (hl : W + (maxL + 11) + rm.locals ≤ R.locals) (hc : cells + rm.cells ≤ R.cells) (hs : slots + rm.slots ≤ R.slots) (eT : T.heap = h) {b : Addr} (E : Exa Z h b K)
    {g : JFrame} (hg : g.method = m) (hsize : g.locals.size = c.maxLocals) {argsL rest : List Value} (hlen : ∀ sig, parseMethodDescriptor y.desc = some sig → argsL.length = sig.parameters.length) (hstack : g.stack = argsL.reverse ++ .ref b :: rest) (has : (.ref b :: argsL).toArray = as') (hW : 2 * g.monitorRoom + (rest.map fun v => v.category).sum ≤ W) (hdg : decode c.code g.pc = .ok (.invokeinterface index count, 5)) :
    ∃ (v : Option Value) (T' : State) (L : List Loc), Stand p l e R s m args below meth c T' (locs ++ L) (cells + rm.cells) (slots + rm.slots) ∧ Q v T'.heap L ∧ ∀ t, Steps p.tables e below (T'.setTop { g with pc := g.pc + 5, stack := v.toList ++ rest }) t → Steps p.tables e below (T.setTop g) t := by
  obtain ⟨cq, kq, qa, qb, qc⟩ := isOf (T := T) hZ eT E
  obtain ⟨v, vm1, ⟨T', L', k', n'⟩, -, X', ⟨Lc, hQ, l1, y1, z1⟩, st⟩ := X.interfaceBack hx (xi := y) (y := z) hown (mvT hZ w1) (mvT hZ w2) wf (mvT hZ w3) (mvT hZ w5) (mvT hZ wp) (mvT hZ wu) (mvT hZ wc) hy (backOf (W := W) M hZ w4 w6 hf hl) qa qb qc hg hsize (Steps.refl _) (argsL := argsL) (rest := rest) hlen hstack hW hdg (fun _ _ => ⟨has, eT, hc, hs⟩)
  dsimp only [Pt.U, Pt.locs, Pt.cells, Pt.slots] at X' l1 y1 z1 st hQ
  subst l1 y1 z1
  exact ⟨v, T', Lc, X', hQ, fun t k => st.trans k⟩
theorem castV (X : Stand p l e R s m args below meth c T locs cells slots) (hx : p.tables.exec = Jvm.exec) (hZ : Z.Warmed39 s.vm) {own K : String} {index : Nat} (hown : s.vm.findClass own = some m.cls) (w : (Jvm.Cond.classLink own index K).before a0 Z = true) (eT : T.heap = h) {v : Value} (F : v = .null ∨ ∃ a, v = .ref a ∧ Ins Z h a K true)
    {g : JFrame} (hg : g.method = m) {rest : List Value} (hs : g.stack = v :: rest) (hd : decode c.code g.pc = .ok (.checkcast index, 3)) : ∃ T', Stand p l e R s m args below meth c T' locs cells slots ∧ T'.heap = h ∧ ∀ target, Steps p.tables e below (T'.setTop { g with pc := g.pc + 3 }) target → Steps p.tables e below (T.setTop g) target := by
  rcases F with rfl | ⟨a, rfl, I⟩
  · exact ⟨T, X, eT, fun t k => X.checkcastNull hx (g := g) hg hs hd t k⟩
  · exact castY X hx hZ hown w eT I hg hs hd
theorem moreRoom {cells' slots' : Nat} (X : Stand p l e R s m args below meth c T locs cells slots) (h1 : cells ≤ cells') (h2 : slots ≤ slots') : Stand p l e R s m args below meth c T locs cells' slots' :=
  { X with same := X.same.mono h1 h2 }
theorem wdOf {ts : List Jvm.Cond} (hw : ∀ d ∈ ts, d.before a0 Z = true) {d : Jvm.Cond} (k : Nat) (hk : ts[k]? = some d) : d.before a0 Z = true := hw _ (List.mem_of_getElem? hk)
end Own
end Jvm.RoadKit
namespace Jvm.RoadKit
open Sem ClassFile Op Lib Jvm.Stand Jvm.Free Jvm.LawKit
section OwnWords
variable {args : Array Value} {first s : State} {o : Option Outcome} {idx : List Nat} {t : Term}
theorem eqInt_v {k : Int32} (h : (Jvm.Cond.eq t (.int k)).value args first o s idx = some true) : t.eval args first o idx s = some (.int k) := by
  simp only [Jvm.Cond.value, Term.eval] at h
  cases ht : t.eval args first o idx s with
  | none => simp [ht] at h
  | some x => cases x <;> simp [ht] at h ⊢; exact h
theorem ownFits {ty : FieldType} {v : Value} (hv : v.isRef = true) (ht : ty.isReference = true) : fits ty v = true := by
  rcases ref_cases hv with rfl | ⟨a, rfl⟩ <;> cases ty <;> first | rfl | cases ht
theorem Sta.keepN {Z : State} {h h' : Heap} {C n d : String} {v : Value} {ws : List Addr} (F : Sta Z h C n d v) (K : Keep h h' ws) (hn : ∀ a ∈ ws, ∃ c : Cell, h[a]? = some c ∧ ∀ q, c.vm ≠ .statics q) : Sta Z h' C n d v := by
  obtain ⟨cf, i, k, f, st, cell, h1, h2, h3, h4, h5, h6, h7⟩ := F
  refine ⟨cf, i, k, f, st, cell, h1, h2, h3, h4, K.2.1 _ _ h5 fun hm => ?_, h6, h7⟩
  obtain ⟨c, g1, g2⟩ := hn st hm
  cases h5.symm.trans g1
  cases hq : cell.vm <;> first | (rw [hq] at h6; exact Bool.noConfusion h6) | exact g2 _ hq
theorem NSr {Z : State} {a0 : Array Value} {O K : String} {n : Nat} (w : (Jvm.Cond.noSuperclass O).before a0 Z = true) (wi : (Jvm.Cond.instantiable K n).before a0 Z = true) (hn : O ≠ K) : NS Z O K := by
  obtain ⟨c, k, h1, h2, h3, -, -⟩ := Cond.noSuperclass_spec w
  obtain ⟨t, kt, g1, -⟩ := Cond.instantiable_spec wi
  refine ⟨c, t, h1, g1, fun fuel => ?_⟩
  cases fuel with
  | zero => rfl
  | succ f => simp [Vm.isSubclassAux, ids_ne h1 g1 hn, h2, h3]
theorem NSno {Z : State} {a0 : Array Value} {C S K : String} {n : Nat} (w : (Jvm.Cond.superclass C S).before a0 Z = true) (wi : (Jvm.Cond.instantiable K n).before a0 Z = true) (q : NS Z C K) (hn : C ≠ K) : ∃ c t, Z.vm.findClass C = some c ∧ Z.vm.findClass K = some t ∧ Z.vm.assignable c t = false := by
  obtain ⟨c, t, h0, g0, n3⟩ := q
  obtain ⟨_, k, _, -, h2, -, -, h5, -, -⟩ := Cond.superclass_spec h0 w
  obtain ⟨t', k', g1, g2, g5, g7, -⟩ := Cond.instantiable_spec wi
  cases g0.symm.trans g1
  have g8 : k'.isInterface = false := by cases hq : k'.isInterface <;> simp_all
  refine ⟨c, t, h0, g0, ?_⟩
  show Z.vm.assignableAux (255 + 1) c t = false
  simp [Vm.assignableAux, ids_ne h0 g0 hn, h2, g2, h5, g5, g8, Vm.isSubclass, n3]
theorem Ext.of_keep {h h' : Heap} (K : Keep h h' []) : Ext h h' := ⟨K.1, fun a c q => K.2.1 a c q nin0⟩
theorem Keep.of_ext {h h' : Heap} (E : Ext h h') (ws : List Addr) : Keep h h' ws := (Keep.refl h ws).ext E
theorem ofInt {x : Int32} (n : Int32) (h : x.toInt = n.toInt) : x = n := Int32.toInt_inj.mp h
end OwnWords
end Jvm.RoadKit
namespace Jvm.RoadKit
open Sem ClassFile Op Lib Jvm.Stand Jvm.Free Jvm.LawKit
section OwnBox
theorem eqVal_v {args : Array Value} {first s : State} {o : Option Outcome} {idx : List Nat} {t u : Term} {w : Value} (h : (Jvm.Cond.eq t u).value args first o s idx = some true) (hu : u.eval args first o idx s = some w) (hw : (∃ n, w = .int n) ∨ ∃ n, w = .long n) : t.eval args first o idx s = some w := by
  rcases hw with ⟨n, rfl⟩ | ⟨n, rfl⟩ <;>
  · simp only [Jvm.Cond.value, hu] at h
    cases ht : t.eval args first o idx s with
    | none => simp [ht] at h
    | some x => cases x <;> simp [ht] at h ⊢; exact h
/-- a cache of 256 boxes, as it stands in the heap of Z: the i-th holds val i -/
def BoxC (Z : State) (K D B vd : String) (val : Nat → Value) : Prop := ∃ (ca : Addr) (cl : Cell), Sta Z Z.heap K "cache" D (.ref ca) ∧ Arr Z Z.heap ca cl (.object B) ∧ cl.slots.size = 256 ∧ ∀ i, i < 256 → ∃ r, cl.slots[i]? = some (.ref r) ∧ Exa Z Z.heap r B ∧ Fld Z Z.heap r B "value" vd (val i)
theorem clamp256 {i : Nat} (h : i < 256) : i.toInt32.toNatClampNeg = i := by
  have : i.toInt32.toInt = i := Int32.toInt_ofNat_small (by omega)
  simp [Int32.toNatClampNeg, this]
theorem BoxC.start {s : State} {args : Array Value} {K D B vd : String} {u : Term} {val : Nat → Value} (hi : (Jvm.Cond.initialized K).before args s = true) (hl : (Jvm.Cond.laysStatic K "cache" D).before args s = true)
    (ha : (Jvm.Cond.arrayOf (.static K "cache" D) (.object B)).before args s = true) (hn : (Jvm.Cond.eq (.length (.static K "cache" D)) (.int 256)).before args s = true)
    (hall : (Jvm.Cond.all (.static K "cache" D) (.and (.exactly (.elem (.static K "cache" D) (.index 0)) B) (.eq (.field (.elem (.static K "cache" D) (.index 0)) B "value" vd) u))).before args s = true)
    (hu : ∀ i : Nat, u.eval args s none [i] s = some (val i)) (hv : ∀ i, (∃ n, val i = .int n) ∨ ∃ n, val i = .long n) : BoxC s K D B vd val := by
  have ha' := Cond.before_iff.mp ha
  obtain ⟨ca, ev⟩ := arr_v ha'
  obtain ⟨cl, A⟩ := Arr.start ev ha'
  have hat : s.arrayAt? ca = some cl := A.fin (Vm.Alike.refl _)
  have hsz : cl.slots.size = 256 := by
    have h1 := eqInt_v (Cond.before_iff.mp hn)
    simp only [Term.eval, hat] at h1
    have ev' := ev
    simp only [Term.eval] at ev'
    rw [ev'] at h1
    by_cases hq : cl.slots.size < 2 ^ 31
    · simp [hat, hq] at h1
      have h2 : cl.slots.size.toInt32.toInt = 256 := by rw [h1]; rfl
      rw [Int32.toInt_ofNat_small hq] at h2
      omega
    · simp [hat, hq] at h1
  refine ⟨ca, cl, Sta.start ev (Or.inr ⟨hi, hl⟩), A, hsz, fun i hi => ?_⟩
  obtain ⟨h1, h2⟩ := and_e (Cond.all_elim ev hat (Cond.before_iff.mp hall) i (by omega))
  obtain ⟨r, er⟩ := exa_v h1
  have ev1 : (Term.static K "cache" D).eval args s none [i] s = some (.ref ca) := ev
  obtain ⟨-, q⟩ := elem_in er ev1 (Term.index_eval (idx := []) i) A.1
  rw [clamp256 hi] at q
  refine ⟨r, q, exa_at er h1, Fld.start ?_⟩
  rw [← fld_at er]
  exact eqVal_v h2 (hu i) (hv i)
end OwnBox
end Jvm.RoadKit
namespace Jvm.Pilot.@@N@@
open Jvm Jvm.ClassFile Sem Op Lib Jvm.Free Jvm.Stand Jvm.LawKit Jvm.RoadKit Bundle Jvm.Pilot.@@N@@.Jvm.D
theorem pd_0 : parseMethodDescriptor "()V" = some ⟨[], none⟩ := by decide +kernel
theorem pd_1 : parseMethodDescriptor "(J)V" = some ⟨[.long], none⟩ := by decide +kernel
theorem pd_2 : parseMethodDescriptor "()J" = some ⟨[], some .long⟩ := by decide +kernel
theorem pd_3 : parseMethodDescriptor "()I" = some ⟨[], some .int⟩ := by decide +kernel
theorem pd_4 : parseMethodDescriptor "(J)Ljava/lang/Long;" = some ⟨[.long], some (.object "java/lang/Long")⟩ := by decide +kernel
theorem pd_5 : parseMethodDescriptor "()Ljava/lang/Long;" = some ⟨[], some (.object "java/lang/Long")⟩ := by decide +kernel
theorem pd_6 : parseMethodDescriptor "(Ljava/lang/Object;)Z" = some ⟨[(.object "java/lang/Object")], some .boolean⟩ := by decide +kernel
theorem pd_7 : parseMethodDescriptor "(Lcom/example/dead_letter_replay/deadletterreplay/queue/Carries$Carried;)I" = some ⟨[(.object "com/example/dead_letter_replay/deadletterreplay/queue/Carries$Carried")], some .int⟩ := by decide +kernel
theorem pd_8 : parseMethodDescriptor "(JJ)J" = some ⟨[.long, .long], some .long⟩ := by decide +kernel
theorem pd_9 : parseMethodDescriptor "(Lcom/example/dead_letter_replay/deadletterreplay/queue/Carries$Carried;)V" = some ⟨[(.object "com/example/dead_letter_replay/deadletterreplay/queue/Carries$Carried")], none⟩ := by decide +kernel
theorem pd_10 : parseMethodDescriptor "(Ljava/lang/Long;ZJ)Z" = some ⟨[(.object "java/lang/Long"), .boolean, .long], some .boolean⟩ := by decide +kernel
theorem pd_11 : parseMethodDescriptor "(Ljava/lang/Long;JJI)V" = some ⟨[(.object "java/lang/Long"), .long, .long, .int], none⟩ := by decide +kernel
section OwnCar
/-- from, era, transaction, backend -/
abbrev OwnC := Option Int64 × Int64 × Int64 × Int32
variable {Z : State} {h h' : Heap} {v : Value} {a : Addr}
def LongV (Z : State) (h : Heap) (v : Value) : Option Int64 → Prop
  | none => v = .null
  | some x => ∃ r, v = .ref r ∧ Exa Z h r "java/lang/Long" ∧ Fld Z h r "java/lang/Long" "value" "J" (.long x)
theorem LongV.ext {o : Option Int64} (F : LongV Z h v o) (E : Ext h h') : LongV Z h' v o := by
  cases o with
  | none => exact F
  | some x => obtain ⟨r, e, E1, F1⟩ := F; exact ⟨r, e, E1.ext E, F1.ext E⟩
theorem LongV.keepX {o : Option Int64} {C : String} (F : LongV Z h v o) (K : Keep h h' [a]) (E : Exa Z h a C) (hc : "java/lang/Long" ≠ C) : LongV Z h' v o := by
  cases o with
  | none => exact F
  | some x => obtain ⟨r, e, E1, F1⟩ := F; exact ⟨r, e, E1.keep K, F1.keep K (ninS (ne_exa E1 E hc) nin0)⟩
theorem LongV.isRef {o : Option Int64} (F : LongV Z h v o) : v.isRef = true := by
  cases o with
  | none => rw [show v = .null from F]; rfl
  | some x => obtain ⟨r, rfl, -⟩ := F; rfl
def CarV (Z : State) (h : Heap) (v : Value) : Option OwnC → Prop
  | none => v = .null
  | some (f, e, t, b) => ∃ r fv, v = .ref r ∧ Exa Z h r "com/example/dead_letter_replay/deadletterreplay/queue/Carries$Carried" ∧ Fld Z h r "com/example/dead_letter_replay/deadletterreplay/queue/Carries$Carried" "from" "Ljava/lang/Long;" fv ∧ Fld Z h r "com/example/dead_letter_replay/deadletterreplay/queue/Carries$Carried" "era" "J" (.long e) ∧ Fld Z h r "com/example/dead_letter_replay/deadletterreplay/queue/Carries$Carried" "transaction" "J" (.long t) ∧ Fld Z h r "com/example/dead_letter_replay/deadletterreplay/queue/Carries$Carried" "backend" "I" (.int b) ∧ LongV Z h fv f
theorem CarV.ext {o : Option OwnC} (F : CarV Z h v o) (E : Ext h h') : CarV Z h' v o := by
  rcases o with _ | ⟨f, e, t, b⟩
  · exact F
  · obtain ⟨r, fv, q, E1, F1, F2, F3, F4, L⟩ := F; exact ⟨r, fv, q, E1.ext E, F1.ext E, F2.ext E, F3.ext E, F4.ext E, L.ext E⟩
theorem CarV.keepX {o : Option OwnC} {C : String} (F : CarV Z h v o) (K : Keep h h' [a]) (E : Exa Z h a C) (hc : "java/lang/Long" ≠ C) (hd : "com/example/dead_letter_replay/deadletterreplay/queue/Carries$Carried" ≠ C) : CarV Z h' v o := by
  rcases o with _ | ⟨f, e, t, b⟩
  · exact F
  · obtain ⟨r, fv, q, E1, F1, F2, F3, F4, L⟩ := F
    have n := ninS (ne_exa E1 E hd) nin0
    exact ⟨r, fv, q, E1.keep K, F1.keep K n, F2.keep K n, F3.keep K n, F4.keep K n, L.keepX K E hc⟩
theorem CarV.keepN {o : Option OwnC} {n : Nat} (F : CarV Z h v o) (K : Keep h h' [a]) (hn : h.size ≤ a) : CarV Z h' v o := by
  have nn : ∀ {b : Addr}, b < h.size → b ∉ [a] := fun q => ninS (Nat.ne_of_lt (Nat.lt_of_lt_of_le q hn)) nin0
  rcases o with _ | ⟨f, e, t, b⟩
  · exact F
  · obtain ⟨r, fv, q, E1, F1, F2, F3, F4, L⟩ := F
    refine ⟨r, fv, q, E1.keep K, F1.keep K (nn E1.lt), F2.keep K (nn E1.lt), F3.keep K (nn E1.lt), F4.keep K (nn E1.lt), ?_⟩
    cases f with
    | none => exact L
    | some x => obtain ⟨r, e, E1, F1⟩ := L; exact ⟨r, e, E1.keep K, F1.keep K (nn E1.lt)⟩
theorem CarV.isRef {o : Option OwnC} (F : CarV Z h v o) : v.isRef = true := by
  rcases o with _ | ⟨f, e, t, b⟩
  · rw [show v = .null from F]; rfl
  · obtain ⟨r, fv, rfl, -⟩ := F; rfl
def CarS (Z : State) (h : Heap) (a : Addr) (lo : Option OwnC) (fo : Option Int64) (hd : Int32) : Prop := ∃ (sv rv : Int32) (lv fv : Value), Exa Z h a "com/example/dead_letter_replay/deadletterreplay/queue/Carries" ∧ Fld Z h a "com/example/dead_letter_replay/deadletterreplay/queue/Carries" "since" "I" (.int sv) ∧ Fld Z h a "com/example/dead_letter_replay/deadletterreplay/queue/Carries" "last" "Lcom/example/dead_letter_replay/deadletterreplay/queue/Carries$Carried;" lv ∧ Fld Z h a "com/example/dead_letter_replay/deadletterreplay/queue/Carries" "risk" "I" (.int rv) ∧ Fld Z h a "com/example/dead_letter_replay/deadletterreplay/queue/Carries" "first" "Ljava/lang/Long;" fv ∧ Fld Z h a "com/example/dead_letter_replay/deadletterreplay/queue/Carries" "held" "Z" (.int hd) ∧ CarV Z h lv lo ∧ LongV Z h fv fo
theorem CarS.exa {lo : Option OwnC} {fo : Option Int64} {hd : Int32} (S : CarS Z h a lo fo hd) : Exa Z h a "com/example/dead_letter_replay/deadletterreplay/queue/Carries" := by obtain ⟨_, _, _, _, E, -⟩ := S; exact E
/-- the carry c comes in the last one's session, under another transaction, from the last one's era -/
def OwnHit : Option OwnC → OwnC → Prop
  | none, _ => False
  | some (_, le, lt, lb), (f, _, t, b) => b = lb ∧ ¬ t = lt ∧ f = some le
def OwnHitB : Option OwnC → OwnC → Prop
  | none, _ => False
  | some (_, le, _, lb), (f, _, _, b) => b = lb ∧ f = some le
end OwnCar

def OwnFst : Option Int64 → Option OwnC → Option Int64
  | some x, _ => some x
  | none, some (_, e, _, _) => some e
  | none, none => none
theorem own_succ (b : Int32) : ¬ b + 1 = b := fun q => by
  have h := congrArg Int32.toInt q
  have := c_iadd b 1
  have e : (1 : Int32).toInt = 1 := rfl
  omega
theorem own_succL (b : Int64) : ¬ b + 1 = b := fun q => by
  have h := congrArg Int64.toInt q
  have := c_ladd b 1
  have e : (1 : Int64).toInt = 1 := rfl
  omega
theorem own_hd0 {hd' : Int32} {o : Option OwnC} (hq : ∀ c, o = some c → (OwnHit none c → hd' = (1 : Int32)) ∧ (¬ OwnHit none c → hd' = 0)) (hn : o = none → hd' = 0) : hd' = 0 := by
  cases o with
  | none => exact hn rfl
  | some c => exact (hq c rfl).2 (fun q => q)
theorem own_hd {hd hd' hx : Int32} {lo o : Option OwnC} (hq : ∀ c, o = some c → (OwnHit lo c → hd' = (1 : Int32)) ∧ (¬ OwnHit lo c → hd' = hd)) (hn : o = none → hd' = hd) (H : ¬ hx = 0 ↔ (¬ hd = 0 ∨ ∃ c, o = some c ∧ OwnHit lo c)) : hd' = 0 ↔ hx = 0 := by
  cases o with
  | none =>
    rw [hn rfl]
    by_cases q : hx = 0
    · have : ¬ (¬ hd = 0 ∨ ∃ c, (none : Option OwnC) = some c ∧ OwnHit lo c) := fun r => H.mpr r q
      simp only [q, iff_true]
      exact Classical.byContradiction fun r => this (Or.inl r)
    · rcases H.mp q with r | ⟨c, r, -⟩
      · simp [q, r]
      · cases r
  | some c =>
    obtain ⟨h1, h2⟩ := hq c rfl
    by_cases hit : OwnHit lo c
    · rw [h1 hit]
      have : ¬ hx = 0 := H.mpr (Or.inr ⟨c, rfl, hit⟩)
      simp [this]
    · rw [h2 hit]
      by_cases q : hx = 0
      · simp only [q, iff_true]
        exact Classical.byContradiction fun r => H.mpr (Or.inl r) q
      · rcases H.mp q with r | ⟨c', r, r'⟩
        · simp [q, r]
        · cases r; exact absurd r' hit
theorem own_H2 {p1 p2 s2b s2t hf2 b2 h2 : Int32} {t2 v2 e1 e2 : Int64} {o1 o2 : Option Int64} {d1 d2 : Option OwnC} (hD1 : (p1 = 0 → d1 = none) ∧ (¬ p1 = 0 → d1 = some (o1, e1, (0 : Int64), (0 : Int32)))) (hD2 : (p2 = 0 → d2 = none) ∧ (¬ p2 = 0 → d2 = some (o2, e2, t2, b2))) (hb2 : b2 = (0 : Int32) ↔ ¬ s2b = 0) (ht2 : t2 = (0 : Int64) ↔ ¬ s2t = 0) (ho2 : (hf2 = 0 → o2 = none) ∧ (¬ hf2 = 0 → o2 = some v2))
    (q : ¬ h2 = 0 ↔ (¬ p1 = 0 ∧ ¬ p2 = 0 ∧ ¬ s2b = 0 ∧ s2t = 0 ∧ ¬ hf2 = 0 ∧ v2 = e1)) : ¬ h2 = 0 ↔ (¬ (0 : Int32) = 0 ∨ ∃ c, d2 = some c ∧ OwnHit d1 c) := by
  rw [q]
  by_cases c1 : p1 = 0
  · simp [c1, hD1.1 c1, OwnHit]
  by_cases c2 : p2 = 0
  · simp [c2, hD2.1 c2]
  by_cases c5 : hf2 = 0
  · simp [c5, hD1.2 c1, hD2.2 c2, ho2.1 c5, OwnHit]
  · simp [c1, c2, c5, hD1.2 c1, hD2.2 c2, ho2.2 c5, OwnHit, hb2, ht2]
theorem own_H3 {p2 p3 s3b s3t hf3 b2 b3 h3 hd2 : Int32} {t2 t3 v3 e2 e3 : Int64} {o2 o3 : Option Int64} {d2 d3 : Option OwnC} (hD2 : (p2 = 0 → d2 = none) ∧ (¬ p2 = 0 → d2 = some (o2, e2, t2, b2))) (hD3 : (p3 = 0 → d3 = none) ∧ (¬ p3 = 0 → d3 = some (o3, e3, t3, b3))) (hb3 : b3 = b2 ↔ ¬ s3b = 0) (ht3 : t3 = t2 ↔ ¬ s3t = 0) (ho3 : (hf3 = 0 → o3 = none) ∧ (¬ hf3 = 0 → o3 = some v3)) (hz : hd2 = 0)
    (q : ¬ h3 = 0 ↔ (¬ p2 = 0 ∧ ¬ p3 = 0 ∧ ¬ s3b = 0 ∧ s3t = 0 ∧ ¬ hf3 = 0 ∧ v3 = e2)) : ¬ h3 = 0 ↔ (¬ hd2 = 0 ∨ ∃ c, d3 = some c ∧ OwnHit d2 c) := by
  rw [q, hz]
  by_cases c1 : p2 = 0
  · simp [c1, hD2.1 c1, OwnHit]
  by_cases c2 : p3 = 0
  · simp [c2, hD3.1 c2]
  by_cases c5 : hf3 = 0
  · simp [c5, hD2.2 c1, hD3.2 c2, ho3.1 c5, OwnHit]
  · simp [c1, c2, c5, hD2.2 c1, hD3.2 c2, ho3.2 c5, OwnHit, hb3, ht3]
theorem d_rm_vo_num_0 : decode jdk_18_method_1_code 0 = .ok (.aload_n 0, 1) := by decide +kernel
theorem d_rm_vo_num_1 : decode jdk_18_method_1_code 1 = .ok (.invokespecial 1, 3) := by decide +kernel
theorem d_rm_vo_num_4 : decode jdk_18_method_1_code 4 = .ok (.return_, 1) := by decide +kernel
set_option maxHeartbeats 4000000 in
theorem ef_rm_vo_num (m : MethodId) (x0 : Addr)  : entryFrame m #[(.ref x0)] 1 = mkF m 0 #[.val (.ref x0)] [] := by first | (simp [entryFrame, mkF, argsToLocals, catR, catN, catI, catJ]; done) | rfl
set_option maxRecDepth 65536 in
set_option maxHeartbeats 40000000 in
theorem rm_vo_num (l : Launch) (Z : State) (a0 : Array Value) (hw : ∀ d ∈ tables_1, d.before a0 Z = true) (ws : List Jvm.Cond) (ax : Addr) (h0 : Heap) (n0 : Nat) (Z0 : n0 ≤ h0.size)  :
    Pays l Z (⟨"java/lang/Number", "<init>", "()V"⟩ : MethodName) jdk_18_method_1_code 1 none ws ({ frames := 1, cells := 0, slots := 0, locals := 12 } : Room) #[(.ref ax)] h0 (fun v h L => v = none ∧ Fr n0 L ∧ h = h0) := by
  refine Pays.of (plainFor_of_name (by first | (simp [plainName, overriddenIn]; done) | decide +kernel)) ?_
  intro p e s m below meth c s₁ hx hby hml hown hnm hret hlk hZ e0 X0
  have N0 := Fr.nil n0
  have K0 : Keep h0 h0 [] := Keep.refl _ _
  refine Goes.go (U' := (s₁.setTop (mkF m 0 #[sR_ ax] []))) (fun t kt => castTop (ef_rm_vo_num m ax) kt) ?_
  refine Goes.go (U' := (s₁.setTop (mkF m 1 #[sR_ ax] [(.ref ax)]))) (fun t kt => ?_) ?_
  · skip
    refine XS.aloadN X0.here hx rfl (hb hby d_rm_vo_num_0) rfl rfl ?_
    exact kt
  obtain ⟨T_1, X_1, e_1, st_1⟩ := initO X0 hx hZ hown (wdOf hw 50 rfl) (wdOf hw 7 rfl) (wdOf hw 8 rfl) e0 (g := (mkF m 1 #[sR_ ax] [(.ref ax)])) rfl (by rw [hml]; rfl) rfl (hb hby d_rm_vo_num_1) (by decide) (W := 0) (Nat.le_refl _) (by decide)
  refine Goes.go (U' := (T_1.setTop (mkF m 4 #[sR_ ax] []))) st_1 ?_
  refine Goes.retV X_1 hx hlk hret (hb hby d_rm_vo_num_4) (by decide) (by decide) ?_
  try rw [e_1]
  exact ⟨rfl, N0, rfl⟩
theorem d_rm_vo_init_0 : decode jdk_35_method_26_code 0 = .ok (.aload_n 0, 1) := by decide +kernel
theorem d_rm_vo_init_1 : decode jdk_35_method_26_code 1 = .ok (.invokespecial 270, 3) := by decide +kernel
theorem d_rm_vo_init_4 : decode jdk_35_method_26_code 4 = .ok (.aload_n 0, 1) := by decide +kernel
theorem d_rm_vo_init_5 : decode jdk_35_method_26_code 5 = .ok (.lload_n 1, 1) := by decide +kernel
theorem d_rm_vo_init_6 : decode jdk_35_method_26_code 6 = .ok (.putfield 273, 3) := by decide +kernel
theorem d_rm_vo_init_9 : decode jdk_35_method_26_code 9 = .ok (.return_, 1) := by decide +kernel
set_option maxHeartbeats 4000000 in
theorem ef_rm_vo_init (m : MethodId) (x0 : Addr) (x1 : Int64)  : entryFrame m #[(.ref x0), (.long x1)] 3 = mkF m 0 #[.val (.ref x0), .val (.long x1), .second] [] := by first | (simp [entryFrame, mkF, argsToLocals, catR, catN, catI, catJ]; done) | rfl
set_option maxRecDepth 65536 in
set_option maxHeartbeats 40000000 in
theorem rm_vo_init (l : Launch) (Z : State) (a0 : Array Value) (hw : ∀ d ∈ tables_1, d.before a0 Z = true) (ws : List Jvm.Cond) (ax : Addr) (xv : Int64) (h0 : Heap) (n0 : Nat) (Z0 : n0 ≤ h0.size) (o0 : n0 ≤ ax) (E0 : Exa Z h0 ax "java/lang/Long") (F0 : Fld Z h0 ax "java/lang/Long" "value" "J" (.long (0 : Int64))) :
    Pays l Z (⟨"java/lang/Long", "<init>", "(J)V"⟩ : MethodName) jdk_35_method_26_code 3 none ws ({ frames := 2, cells := 0, slots := 0, locals := 24 } : Room) #[(.ref ax), (.long xv)] h0 (fun v h L => v = none ∧ Fr n0 L ∧ Keep h0 h [ax] ∧ Exa Z h ax "java/lang/Long" ∧ Fld Z h ax "java/lang/Long" "value" "J" (.long xv)) := by
  refine Pays.of (plainFor_of_name (by first | (simp [plainName, overriddenIn]; done) | decide +kernel)) ?_
  intro p e s m below meth c s₁ hx hby hml hown hnm hret hlk hZ e0 X0
  have N0 := Fr.nil n0
  have K0 : Keep h0 h0 [ax] := Keep.refl _ _
  refine Goes.go (U' := (s₁.setTop (mkF m 0 #[sR_ ax, sJ_ xv, sS_] []))) (fun t kt => castTop (ef_rm_vo_init m ax xv) kt) ?_
  refine Goes.go (U' := (s₁.setTop (mkF m 1 #[sR_ ax, sJ_ xv, sS_] [(.ref ax)]))) (fun t kt => ?_) ?_
  · skip
    refine XS.aloadN X0.here hx rfl (hb hby d_rm_vo_init_0) rfl rfl ?_
    exact kt
  obtain ⟨v_1, T_1, L_1, X_1, q_1, st_1⟩ := callInit X0 hx hZ (y := (⟨"java/lang/Number", "<init>", "()V"⟩ : MethodName)) (W := 0) rfl hown (wdOf hw 44 rfl) (wdOf hw 45 rfl) (wdOf hw 48 rfl) (wdOf hw 49 rfl) (by decide) (rm_vo_num l Z a0 hw [] ax h0 n0 Z0) (by decide) (by decide) (by decide) (by decide) e0 (b := ax) (g := (mkF m 1 #[sR_ ax, sJ_ xv, sS_] [(.ref ax)])) rfl (by rw [hml]; rfl) (argsL := []) (rest := []) (lenOf pd_0 rfl) rfl rfl (Nat.le_refl _) (hb hby d_rm_vo_init_1)
  obtain ⟨rfl, n_1, K_1⟩ := q_1
  have N_1 := Fr.app N0 n_1
  refine Goes.go (U' := (T_1.setTop (mkF m 4 #[sR_ ax, sJ_ xv, sS_] []))) st_1 ?_
  refine Goes.go (U' := (T_1.setTop (mkF m 6 #[sR_ ax, sJ_ xv, sS_] [(.long xv), (.ref ax)]))) (fun t kt => ?_) ?_
  · skip
    refine XS.aloadN X_1.here hx rfl (hb hby d_rm_vo_init_4) rfl rfl ?_
    refine XS.lloadN X_1.here hx rfl (hb hby d_rm_vo_init_5) rfl ?_
    exact kt
  obtain ⟨T_2, h_2, X_2, e_2, W_2, st_2⟩ := putF X_1 hx hZ hown (host := "") (Or.inl (wdOf hw 51 rfl)) Via.refl K_1 F0 E0 (Or.inr ⟨wdOf hw 52 rfl, rfl, hnm⟩) (wdOf hw 39 rfl) (ty := .long) (by decide) rfl rfl (g := (mkF m 6 #[sR_ ax, sJ_ xv, sS_] [(.long xv), (.ref ax)])) rfl rfl (hb hby d_rm_vo_init_6)
  have N_2 := Fr.snoc X_2 N_1 o0
  have f_3 : Exa Z h_2 ax "java/lang/Long" := E0.wr W_2
  have f_4 : Fld Z h_2 ax "java/lang/Long" "value" "J" (.long xv) := F0.same W_2
  have K_5 : Keep h0 h_2 [ax] := K0.wr W_2 (Or.inl (List.mem_of_getElem? (i := 0) rfl))
  have y_5 : n0 ≤ h_2.size := Nat.le_trans Z0 K_5.1
  refine Goes.go (U' := (T_2.setTop (mkF m 9 #[sR_ ax, sJ_ xv, sS_] []))) st_2 ?_
  refine Goes.retV X_2 hx hlk hret (hb hby d_rm_vo_init_9) (by decide) (by decide) ?_
  try rw [e_2]
  exact ⟨rfl, N_2, K_5, f_3, f_4⟩
theorem own_ixL {i : Int64} (h1 : ¬ i < (-128 : Int64)) (h2 : ¬ (127 : Int64) < i) : ¬ (i.toInt32 + (128 : Int32)) < 0 ∧ (i.toInt32 + (128 : Int32)).toNatClampNeg < 256 ∧ (Value.long ((i.toInt32 + (128 : Int32)).toNatClampNeg.toInt32 - 128).toInt64) = .long i := by
  rw [Int64.lt_iff_toInt_lt] at h1 h2
  have e1 : (-128 : Int64).toInt = -128 := rfl
  have e2 : (127 : Int64).toInt = 127 := rfl
  have e3 : (128 : Int32).toInt = 128 := rfl
  have q0 := c_l2i i
  have r0 := rng32 i.toInt32
  have q := c_iadd i.toInt32 128
  have r := rng32 (i.toInt32 + 128)
  have h3 : (i.toInt32 + (128 : Int32)).toInt = i.toInt + 128 := by omega
  have h0 : ¬ (i.toInt32 + (128 : Int32)) < 0 := by rw [Int32.lt_iff_toInt_lt]; show ¬ _ < (0 : Int); omega
  refine ⟨h0, by simp only [Int32.toNatClampNeg]; omega, ?_⟩
  rw [(back32 h0).1]
  congr 1
  apply Int64.toInt_inj.mp
  rw [c_i2l]
  have q2 := c_isub (i.toInt32 + 128) 128
  have r2 := rng32 (i.toInt32 + 128 - 128)
  omega
theorem d_rm_vo_0 : decode jdk_35_method_24_code 0 = .ok (.sipush 128, 3) := by decide +kernel
theorem d_rm_vo_3 : decode jdk_35_method_24_code 3 = .ok (.istore_n 2, 1) := by decide +kernel
theorem d_rm_vo_4 : decode jdk_35_method_24_code 4 = .ok (.lload_n 0, 1) := by decide +kernel
theorem d_rm_vo_5 : decode jdk_35_method_24_code 5 = .ok (.ldc2_w 230, 3) := by decide +kernel
theorem d_rm_vo_8 : decode jdk_35_method_24_code 8 = .ok (.lcmp, 1) := by decide +kernel
theorem d_rm_vo_9 : decode jdk_35_method_24_code 9 = .ok (.ifCond .lt 22, 3) := by decide +kernel
theorem d_rm_vo_12 : decode jdk_35_method_24_code 12 = .ok (.lload_n 0, 1) := by decide +kernel
theorem d_rm_vo_13 : decode jdk_35_method_24_code 13 = .ok (.ldc2_w 232, 3) := by decide +kernel
theorem d_rm_vo_16 : decode jdk_35_method_24_code 16 = .ok (.lcmp, 1) := by decide +kernel
theorem d_rm_vo_17 : decode jdk_35_method_24_code 17 = .ok (.ifCond .gt 14, 3) := by decide +kernel
theorem d_rm_vo_20 : decode jdk_35_method_24_code 20 = .ok (.getstatic 234, 3) := by decide +kernel
theorem d_rm_vo_23 : decode jdk_35_method_24_code 23 = .ok (.lload_n 0, 1) := by decide +kernel
theorem d_rm_vo_24 : decode jdk_35_method_24_code 24 = .ok (.l2i, 1) := by decide +kernel
theorem d_rm_vo_25 : decode jdk_35_method_24_code 25 = .ok (.sipush 128, 3) := by decide +kernel
theorem d_rm_vo_28 : decode jdk_35_method_24_code 28 = .ok (.iadd, 1) := by decide +kernel
theorem d_rm_vo_29 : decode jdk_35_method_24_code 29 = .ok (.aaload, 1) := by decide +kernel
theorem d_rm_vo_30 : decode jdk_35_method_24_code 30 = .ok (.areturn, 1) := by decide +kernel
theorem d_rm_vo_31 : decode jdk_35_method_24_code 31 = .ok (.new 1, 3) := by decide +kernel
theorem d_rm_vo_34 : decode jdk_35_method_24_code 34 = .ok (.dup, 1) := by decide +kernel
theorem d_rm_vo_35 : decode jdk_35_method_24_code 35 = .ok (.lload_n 0, 1) := by decide +kernel
theorem d_rm_vo_36 : decode jdk_35_method_24_code 36 = .ok (.invokespecial 240, 3) := by decide +kernel
theorem d_rm_vo_39 : decode jdk_35_method_24_code 39 = .ok (.areturn, 1) := by decide +kernel
set_option maxHeartbeats 4000000 in
theorem ef_rm_vo (m : MethodId) (x0 : Int64)  : entryFrame m #[(.long x0)] 3 = mkF m 0 #[.val (.long x0), .second, .unset] [] := by first | (simp [entryFrame, mkF, argsToLocals, catR, catN, catI, catJ]; done) | rfl
set_option maxRecDepth 65536 in
set_option maxHeartbeats 40000000 in
theorem rm_vo (l : Launch) (Z : State) (a0 : Array Value) (hw : ∀ d ∈ tables_1, d.before a0 Z = true) (ws : List Jvm.Cond) (iv : Int64) (h0 : Heap) (n0 : Nat) (Z0 : n0 ≤ h0.size) (O : Old Z n0 h0) (BC : BoxC Z "java/lang/Long$LongCache" "[Ljava/lang/Long;" "java/lang/Long" "J" (fun i => .long (i.toInt32 - 128).toInt64))  :
    Pays l Z (⟨"java/lang/Long", "valueOf", "(J)Ljava/lang/Long;"⟩ : MethodName) jdk_35_method_24_code 3 (some (.object "java/lang/Long")) ws ({ frames := 3, cells := 1, slots := 1, locals := 39 } : Room) #[(.long iv)] h0 (fun v h L => ∃ r, v = some (.ref r) ∧ Fr n0 L ∧ Ext h0 h ∧ Exa Z h r "java/lang/Long" ∧ Fld Z h r "java/lang/Long" "value" "J" (.long iv)) := by
  refine Pays.of (plainFor_of_name (by first | (simp [plainName, overriddenIn]; done) | decide +kernel)) ?_
  intro p e s m below meth c s₁ hx hby hml hown hnm hret hlk hZ e0 X0
  have N0 := Fr.nil n0
  have K0 : Keep h0 h0 [] := Keep.refl _ _
  refine Goes.go (U' := (s₁.setTop (mkF m 0 #[sJ_ iv, sS_, sU_] []))) (fun t kt => castTop (ef_rm_vo m iv) kt) ?_
  refine Goes.go (U' := (s₁.setTop (mkF m 9 #[sJ_ iv, sS_, sI_ (128 : Int32)] [(.int (XT.cmpL iv (-128 : Int64)))]))) (fun t kt => ?_) ?_
  · skip
    refine XS.sipush X0.here hx rfl (hb hby d_rm_vo_0) ?_
    refine XS.istoreN X0.here hx rfl (hb hby d_rm_vo_3) rfl (l' := #[sJ_ iv, sS_, sI_ (128 : Int32)]) rfl ?_
    refine XS.lloadN X0.here hx rfl (hb hby d_rm_vo_4) rfl ?_
    refine Jvm.Stand.ldc2J X0 hx hown (mvT hZ (wdOf hw 37 rfl)) rfl (hb hby d_rm_vo_5) ?_
    refine XT.lcmp X0.here hx rfl (hb hby d_rm_vo_8) rfl ?_
    exact kt
  by_cases ci : iv < (-128 : Int64)
  · -- iv < (-128 : Int64)
    refine Goes.go (U' := (s₁.setTop (mkF m 31 #[sJ_ iv, sS_, sI_ (128 : Int32)] []))) (fun t kt => ?_) ?_
    · skip
      refine XS.ifYes X0.here hx rfl (pc0 := 9) (pc' := 31) rfl (hb hby d_rm_vo_9) rfl (XT.ll_lt_t ci) (by decide) (by decide) ?_
      exact kt
    obtain ⟨T_1, h_1, X_1, e_1, E_1, A_1, D_1, -, st_1⟩ := newO X0 hx hZ hown (wdOf hw 38 rfl) (wdOf hw 39 rfl) (wdOf hw 35 rfl) e0 (g := (mkF m 31 #[sJ_ iv, sS_, sI_ (128 : Int32)] [])) rfl (hb hby d_rm_vo_31) (by decide) (by decide)
    obtain ⟨b_1, g_1⟩ : ∃ z, z = h0.size := ⟨_, rfl⟩
    rw [← g_1] at A_1 D_1 st_1
    have o_1 : n0 ≤ b_1 := Nat.le_trans Z0 (Nat.le_of_eq g_1.symm)
    have z_1 : h0.size ≤ b_1 := Nat.le_trans K0.1 (Nat.le_of_eq g_1.symm)
    have f_2 : Fld Z h_1 b_1 "java/lang/Long" "value" "J" (.long (0 : Int64)) := D_1 (Or.inr (wdOf hw 52 rfl)) (ty := .long) (by decide)
    have K_3 : Keep h0 h_1 [] := K0.ext E_1
    have y_3 : n0 ≤ h_1.size := Nat.le_trans Z0 K_3.1
    refine Goes.go (U' := (T_1.setTop (mkF m 34 #[sJ_ iv, sS_, sI_ (128 : Int32)] [(.ref b_1)]))) st_1 ?_
    refine Goes.go (U' := (T_1.setTop (mkF m 36 #[sJ_ iv, sS_, sI_ (128 : Int32)] [(.long iv), (.ref b_1), (.ref b_1)]))) (fun t kt => ?_) ?_
    · skip
      refine XS.dup X_1.here hx rfl (hb hby d_rm_vo_34) rfl rfl ?_
      refine XS.lloadN X_1.here hx rfl (hb hby d_rm_vo_35) rfl ?_
      exact kt
    obtain ⟨v_4, T_4, L_4, X_4, q_4, st_4⟩ := callInit X_1 hx hZ (y := (⟨"java/lang/Long", "<init>", "(J)V"⟩ : MethodName)) (W := 1) rfl hown (wdOf hw 40 rfl) (wdOf hw 41 rfl) (wdOf hw 35 rfl) (wdOf hw 43 rfl) (by decide) (rm_vo_init l Z a0 hw [] b_1 iv h_1 n0 y_3 o_1 A_1 f_2) (by decide) (by decide) (by decide) (by decide) e_1 (b := b_1) (g := (mkF m 36 #[sJ_ iv, sS_, sI_ (128 : Int32)] [(.long iv), (.ref b_1), (.ref b_1)])) rfl (by rw [hml]; rfl) (argsL := [(.long iv)]) (rest := [(.ref b_1)]) (lenOf pd_1 rfl) rfl rfl (Nat.le_refl _) (hb hby d_rm_vo_36)
    obtain ⟨rfl, n_4, K_4, E_4, F_4⟩ := q_4
    have N_4 := Fr.app N0 n_4
    have f_5 : Exa Z T_4.heap b_1 "java/lang/Long" := A_1.keep K_4
    have K_7 : Keep h0 T_4.heap [] := K_3.trans K_4 (allS (P := fun x => x ∈ [] ∨ h0.size ≤ x) (Or.inr z_1) all0)
    have y_7 : n0 ≤ T_4.heap.size := Nat.le_trans Z0 K_7.1
    refine Goes.go (U' := (T_4.setTop (mkF m 39 #[sJ_ iv, sS_, sI_ (128 : Int32)] [(.ref b_1)]))) st_4 ?_
    refine Goes.retA X_4 hx hlk hret rfl rfl (hb hby d_rm_vo_39) (by decide) (by decide) ?_
    try rw [(rfl : T_4.heap = T_4.heap)]
    exact ⟨_, rfl, N_4, Ext.of_keep K_7, f_5, F_4⟩
  · -- not iv < (-128 : Int64)
    refine Goes.go (U' := (s₁.setTop (mkF m 17 #[sJ_ iv, sS_, sI_ (128 : Int32)] [(.int (XT.cmpL iv (127 : Int64)))]))) (fun t kt => ?_) ?_
    · skip
      refine XS.ifNo X0.here hx rfl (hb hby d_rm_vo_9) rfl (XT.ll_lt_f ci) ?_
      refine XS.lloadN X0.here hx rfl (hb hby d_rm_vo_12) rfl ?_
      refine Jvm.Stand.ldc2J X0 hx hown (mvT hZ (wdOf hw 102 rfl)) rfl (hb hby d_rm_vo_13) ?_
      refine XT.lcmp X0.here hx rfl (hb hby d_rm_vo_16) rfl ?_
      exact kt
    by_cases cj : (127 : Int64) < iv
    · -- (127 : Int64) < iv
      refine Goes.go (U' := (s₁.setTop (mkF m 31 #[sJ_ iv, sS_, sI_ (128 : Int32)] []))) (fun t kt => ?_) ?_
      · skip
        refine XS.ifYes X0.here hx rfl (pc0 := 17) (pc' := 31) rfl (hb hby d_rm_vo_17) rfl (XT.ll_gt_t cj) (by decide) (by decide) ?_
        exact kt
      obtain ⟨T_8, h_8, X_8, e_8, E_8, A_8, D_8, -, st_8⟩ := newO X0 hx hZ hown (wdOf hw 38 rfl) (wdOf hw 39 rfl) (wdOf hw 35 rfl) e0 (g := (mkF m 31 #[sJ_ iv, sS_, sI_ (128 : Int32)] [])) rfl (hb hby d_rm_vo_31) (by decide) (by decide)
      obtain ⟨b_8, g_8⟩ : ∃ z, z = h0.size := ⟨_, rfl⟩
      rw [← g_8] at A_8 D_8 st_8
      have o_8 : n0 ≤ b_8 := Nat.le_trans Z0 (Nat.le_of_eq g_8.symm)
      have z_8 : h0.size ≤ b_8 := Nat.le_trans K0.1 (Nat.le_of_eq g_8.symm)
      have f_9 : Fld Z h_8 b_8 "java/lang/Long" "value" "J" (.long (0 : Int64)) := D_8 (Or.inr (wdOf hw 52 rfl)) (ty := .long) (by decide)
      have K_10 : Keep h0 h_8 [] := K0.ext E_8
      have y_10 : n0 ≤ h_8.size := Nat.le_trans Z0 K_10.1
      refine Goes.go (U' := (T_8.setTop (mkF m 34 #[sJ_ iv, sS_, sI_ (128 : Int32)] [(.ref b_8)]))) st_8 ?_
      refine Goes.go (U' := (T_8.setTop (mkF m 36 #[sJ_ iv, sS_, sI_ (128 : Int32)] [(.long iv), (.ref b_8), (.ref b_8)]))) (fun t kt => ?_) ?_
      · skip
        refine XS.dup X_8.here hx rfl (hb hby d_rm_vo_34) rfl rfl ?_
        refine XS.lloadN X_8.here hx rfl (hb hby d_rm_vo_35) rfl ?_
        exact kt
      obtain ⟨v_11, T_11, L_11, X_11, q_11, st_11⟩ := callInit X_8 hx hZ (y := (⟨"java/lang/Long", "<init>", "(J)V"⟩ : MethodName)) (W := 1) rfl hown (wdOf hw 40 rfl) (wdOf hw 41 rfl) (wdOf hw 35 rfl) (wdOf hw 43 rfl) (by decide) (rm_vo_init l Z a0 hw [] b_8 iv h_8 n0 y_10 o_8 A_8 f_9) (by decide) (by decide) (by decide) (by decide) e_8 (b := b_8) (g := (mkF m 36 #[sJ_ iv, sS_, sI_ (128 : Int32)] [(.long iv), (.ref b_8), (.ref b_8)])) rfl (by rw [hml]; rfl) (argsL := [(.long iv)]) (rest := [(.ref b_8)]) (lenOf pd_1 rfl) rfl rfl (Nat.le_refl _) (hb hby d_rm_vo_36)
      obtain ⟨rfl, n_11, K_11, E_11, F_11⟩ := q_11
      have N_11 := Fr.app N0 n_11
      have f_12 : Exa Z T_11.heap b_8 "java/lang/Long" := A_8.keep K_11
      have K_14 : Keep h0 T_11.heap [] := K_10.trans K_11 (allS (P := fun x => x ∈ [] ∨ h0.size ≤ x) (Or.inr z_8) all0)
      have y_14 : n0 ≤ T_11.heap.size := Nat.le_trans Z0 K_14.1
      refine Goes.go (U' := (T_11.setTop (mkF m 39 #[sJ_ iv, sS_, sI_ (128 : Int32)] [(.ref b_8)]))) st_11 ?_
      refine Goes.retA X_11 hx hlk hret rfl rfl (hb hby d_rm_vo_39) (by decide) (by decide) ?_
      try rw [(rfl : T_11.heap = T_11.heap)]
      exact ⟨_, rfl, N_11, Ext.of_keep K_14, f_12, F_11⟩
    · -- not (127 : Int64) < iv
      refine Goes.go (U' := (s₁.setTop (mkF m 20 #[sJ_ iv, sS_, sI_ (128 : Int32)] []))) (fun t kt => ?_) ?_
      · skip
        refine XS.ifNo X0.here hx rfl (hb hby d_rm_vo_17) rfl (XT.ll_gt_f cj) ?_
        exact kt
      obtain ⟨ca, cl, Sc, Ac, hsz, hel⟩ := BC
      have A1 := Ac.ext O.2
      obtain ⟨hj0, hj1, hj2⟩ := own_ixL ci cj
      obtain ⟨rr, hat, Er, Fr1⟩ := hel _ hj1
      replace Fr1 := Eq.subst (motive := fun q => Fld Z Z.heap rr "java/lang/Long" "value" "J" q) hj2 Fr1
      obtain ⟨T_15, X_15, e_15, st_15⟩ := getS X0 hx hZ hown (host := "") (wdOf hw 114 rfl) Via.refl e0 (Sc.ext O.2) (g := (mkF m 20 #[sJ_ iv, sS_, sI_ (128 : Int32)] [])) rfl (hb hby d_rm_vo_20)
      refine Goes.go (U' := (T_15.setTop (mkF m 23 #[sJ_ iv, sS_, sI_ (128 : Int32)] [(.ref ca)]))) st_15 ?_
      refine Goes.go (U' := (T_15.setTop (mkF m 30 #[sJ_ iv, sS_, sI_ (128 : Int32)] [(.ref rr)]))) (fun t kt => ?_) ?_
      · skip
        refine XS.lloadN X_15.here hx rfl (hb hby d_rm_vo_23) rfl ?_
        refine XS.l2i X_15.here hx rfl (hb hby d_rm_vo_24) rfl ?_
        refine XS.sipush X_15.here hx rfl (hb hby d_rm_vo_25) ?_
        refine XS.iadd X_15.here hx rfl (hb hby d_rm_vo_28) rfl ?_
        refine X_15.aaload hx (j := ((iv.toInt32) + (128 : Int32))) (v := (.ref rr)) (by rw [e_15]; exact A1.1) (State.isArrayOf_alike hZ.alike A1.2.1) rfl A1.2.2 (fun q => q.elim hj0 (fun q => absurd hj1 (Nat.not_lt.mpr (hsz ▸ q)))) hat (g := (mkF m 29 #[sJ_ iv, sS_, sI_ (128 : Int32)] [(.int ((iv.toInt32) + (128 : Int32))), (.ref ca)])) rfl rfl (hb hby d_rm_vo_29) _ ?_
        exact kt
      refine Goes.retA X_15 hx hlk hret rfl rfl (hb hby d_rm_vo_30) (by decide) (by decide) ?_
      try rw [e_15]
      exact ⟨_, rfl, N0, ⟨Nat.le_refl _, fun _ _ q => q⟩, Er.ext O.2, Fr1.ext O.2⟩
theorem d_rm_rec_0 : decode jdk_30_method_1_code 0 = .ok (.aload_n 0, 1) := by decide +kernel
theorem d_rm_rec_1 : decode jdk_30_method_1_code 1 = .ok (.invokespecial 1, 3) := by decide +kernel
theorem d_rm_rec_4 : decode jdk_30_method_1_code 4 = .ok (.return_, 1) := by decide +kernel
set_option maxHeartbeats 4000000 in
theorem ef_rm_rec (m : MethodId) (x0 : Addr)  : entryFrame m #[(.ref x0)] 1 = mkF m 0 #[.val (.ref x0)] [] := by first | (simp [entryFrame, mkF, argsToLocals, catR, catN, catI, catJ]; done) | rfl
set_option maxRecDepth 65536 in
set_option maxHeartbeats 40000000 in
theorem rm_rec (l : Launch) (Z : State) (a0 : Array Value) (hw : ∀ d ∈ tables_1, d.before a0 Z = true) (ws : List Jvm.Cond) (ax : Addr) (h0 : Heap) (n0 : Nat) (Z0 : n0 ≤ h0.size)  :
    Pays l Z (⟨"java/lang/Record", "<init>", "()V"⟩ : MethodName) jdk_30_method_1_code 1 none ws ({ frames := 1, cells := 0, slots := 0, locals := 12 } : Room) #[(.ref ax)] h0 (fun v h L => v = none ∧ Fr n0 L ∧ h = h0) := by
  refine Pays.of (plainFor_of_name (by first | (simp [plainName, overriddenIn]; done) | decide +kernel)) ?_
  intro p e s m below meth c s₁ hx hby hml hown hnm hret hlk hZ e0 X0
  have N0 := Fr.nil n0
  have K0 : Keep h0 h0 [] := Keep.refl _ _
  refine Goes.go (U' := (s₁.setTop (mkF m 0 #[sR_ ax] []))) (fun t kt => castTop (ef_rm_rec m ax) kt) ?_
  refine Goes.go (U' := (s₁.setTop (mkF m 1 #[sR_ ax] [(.ref ax)]))) (fun t kt => ?_) ?_
  · skip
    refine XS.aloadN X0.here hx rfl (hb hby d_rm_rec_0) rfl rfl ?_
    exact kt
  obtain ⟨T_1, X_1, e_1, st_1⟩ := initO X0 hx hZ hown (wdOf hw 64 rfl) (wdOf hw 7 rfl) (wdOf hw 8 rfl) e0 (g := (mkF m 1 #[sR_ ax] [(.ref ax)])) rfl (by rw [hml]; rfl) rfl (hb hby d_rm_rec_1) (by decide) (W := 0) (Nat.le_refl _) (by decide)
  refine Goes.go (U' := (T_1.setTop (mkF m 4 #[sR_ ax] []))) st_1 ?_
  refine Goes.retV X_1 hx hlk hret (hb hby d_rm_rec_4) (by decide) (by decide) ?_
  try rw [e_1]
  exact ⟨rfl, N0, rfl⟩
theorem d_rm_ca_0 : decode prog_11_method_1_code 0 = .ok (.aload_n 0, 1) := by decide +kernel
theorem d_rm_ca_1 : decode prog_11_method_1_code 1 = .ok (.invokespecial 1, 3) := by decide +kernel
theorem d_rm_ca_4 : decode prog_11_method_1_code 4 = .ok (.return_, 1) := by decide +kernel
set_option maxHeartbeats 4000000 in
theorem ef_rm_ca (m : MethodId) (x0 : Addr)  : entryFrame m #[(.ref x0)] 1 = mkF m 0 #[.val (.ref x0)] [] := by first | (simp [entryFrame, mkF, argsToLocals, catR, catN, catI, catJ]; done) | rfl
set_option maxRecDepth 65536 in
set_option maxHeartbeats 40000000 in
theorem rm_ca (l : Launch) (Z : State) (a0 : Array Value) (hw : ∀ d ∈ tables_1, d.before a0 Z = true) (ws : List Jvm.Cond) (ax : Addr) (h0 : Heap) (n0 : Nat) (Z0 : n0 ≤ h0.size)  :
    Pays l Z (⟨"com/example/dead_letter_replay/deadletterreplay/queue/Carries", "<init>", "()V"⟩ : MethodName) prog_11_method_1_code 1 none ws ({ frames := 1, cells := 0, slots := 0, locals := 12 } : Room) #[(.ref ax)] h0 (fun v h L => v = none ∧ Fr n0 L ∧ h = h0) := by
  refine Pays.of (plainFor_of_name (by first | (simp [plainName, overriddenIn]; done) | decide +kernel)) ?_
  intro p e s m below meth c s₁ hx hby hml hown hnm hret hlk hZ e0 X0
  have N0 := Fr.nil n0
  have K0 : Keep h0 h0 [] := Keep.refl _ _
  refine Goes.go (U' := (s₁.setTop (mkF m 0 #[sR_ ax] []))) (fun t kt => castTop (ef_rm_ca m ax) kt) ?_
  refine Goes.go (U' := (s₁.setTop (mkF m 1 #[sR_ ax] [(.ref ax)]))) (fun t kt => ?_) ?_
  · skip
    refine XS.aloadN X0.here hx rfl (hb hby d_rm_ca_0) rfl rfl ?_
    exact kt
  obtain ⟨T_1, X_1, e_1, st_1⟩ := initO X0 hx hZ hown (wdOf hw 6 rfl) (wdOf hw 7 rfl) (wdOf hw 8 rfl) e0 (g := (mkF m 1 #[sR_ ax] [(.ref ax)])) rfl (by rw [hml]; rfl) rfl (hb hby d_rm_ca_1) (by decide) (W := 0) (Nat.le_refl _) (by decide)
  refine Goes.go (U' := (T_1.setTop (mkF m 4 #[sR_ ax] []))) st_1 ?_
  refine Goes.retV X_1 hx hlk hret (hb hby d_rm_ca_4) (by decide) (by decide) ?_
  try rw [e_1]
  exact ⟨rfl, N0, rfl⟩
theorem d_rm_cd_0 : decode prog_12_method_1_code 0 = .ok (.aload_n 0, 1) := by decide +kernel
theorem d_rm_cd_1 : decode prog_12_method_1_code 1 = .ok (.invokespecial 1, 3) := by decide +kernel
theorem d_rm_cd_4 : decode prog_12_method_1_code 4 = .ok (.aload_n 0, 1) := by decide +kernel
theorem d_rm_cd_5 : decode prog_12_method_1_code 5 = .ok (.aload_n 1, 1) := by decide +kernel
theorem d_rm_cd_6 : decode prog_12_method_1_code 6 = .ok (.putfield 7, 3) := by decide +kernel
theorem d_rm_cd_9 : decode prog_12_method_1_code 9 = .ok (.aload_n 0, 1) := by decide +kernel
theorem d_rm_cd_10 : decode prog_12_method_1_code 10 = .ok (.lload_n 2, 1) := by decide +kernel
theorem d_rm_cd_11 : decode prog_12_method_1_code 11 = .ok (.putfield 13, 3) := by decide +kernel
theorem d_rm_cd_14 : decode prog_12_method_1_code 14 = .ok (.aload_n 0, 1) := by decide +kernel
theorem d_rm_cd_15 : decode prog_12_method_1_code 15 = .ok (.lload 4, 2) := by decide +kernel
theorem d_rm_cd_17 : decode prog_12_method_1_code 17 = .ok (.putfield 17, 3) := by decide +kernel
theorem d_rm_cd_20 : decode prog_12_method_1_code 20 = .ok (.aload_n 0, 1) := by decide +kernel
theorem d_rm_cd_21 : decode prog_12_method_1_code 21 = .ok (.iload 6, 2) := by decide +kernel
theorem d_rm_cd_23 : decode prog_12_method_1_code 23 = .ok (.putfield 20, 3) := by decide +kernel
theorem d_rm_cd_26 : decode prog_12_method_1_code 26 = .ok (.return_, 1) := by decide +kernel
set_option maxHeartbeats 4000000 in
theorem ef_rm_cd (m : MethodId) (x0 : Addr) (x1 : Value) (x2 : Int64) (x3 : Int64) (x4 : Int32) (rx1 : x1.isRef = true) : entryFrame m #[(.ref x0), x1, (.long x2), (.long x3), (.int x4)] 7 = mkF m 0 #[.val (.ref x0), .val x1, .val (.long x2), .second, .val (.long x3), .second, .val (.int x4)] [] := by simp [entryFrame, mkF, argsToLocals, catR, catN, catI, catJ, XT.cat1 rx1]
set_option maxRecDepth 65536 in
set_option maxHeartbeats 40000000 in
theorem rm_cd (l : Launch) (Z : State) (a0 : Array Value) (hw : ∀ d ∈ tables_1, d.before a0 Z = true) (ws : List Jvm.Cond) (ax : Addr) (xf : Value) (rxf : xf.isRef = true) (xe xt : Int64) (xb : Int32) (h0 : Heap) (n0 : Nat) (Z0 : n0 ≤ h0.size) (o0 : n0 ≤ ax) (E0 : Exa Z h0 ax "com/example/dead_letter_replay/deadletterreplay/queue/Carries$Carried") (F0_from : Fld Z h0 ax "com/example/dead_letter_replay/deadletterreplay/queue/Carries$Carried" "from" "Ljava/lang/Long;" .null) (F0_era : Fld Z h0 ax "com/example/dead_letter_replay/deadletterreplay/queue/Carries$Carried" "era" "J" (.long (0 : Int64))) (F0_transaction : Fld Z h0 ax "com/example/dead_letter_replay/deadletterreplay/queue/Carries$Carried" "transaction" "J" (.long (0 : Int64))) (F0_backend : Fld Z h0 ax "com/example/dead_letter_replay/deadletterreplay/queue/Carries$Carried" "backend" "I" (.int (0 : Int32))) :
    Pays l Z (⟨"com/example/dead_letter_replay/deadletterreplay/queue/Carries$Carried", "<init>", "(Ljava/lang/Long;JJI)V"⟩ : MethodName) prog_12_method_1_code 7 none ws ({ frames := 2, cells := 0, slots := 0, locals := 24 } : Room) #[(.ref ax), xf, (.long xe), (.long xt), (.int xb)] h0 (fun v h L => v = none ∧ Fr n0 L ∧ Keep h0 h [ax] ∧ Exa Z h ax "com/example/dead_letter_replay/deadletterreplay/queue/Carries$Carried" ∧ Fld Z h ax "com/example/dead_letter_replay/deadletterreplay/queue/Carries$Carried" "from" "Ljava/lang/Long;" xf ∧ Fld Z h ax "com/example/dead_letter_replay/deadletterreplay/queue/Carries$Carried" "era" "J" (.long xe) ∧ Fld Z h ax "com/example/dead_letter_replay/deadletterreplay/queue/Carries$Carried" "transaction" "J" (.long xt) ∧ Fld Z h ax "com/example/dead_letter_replay/deadletterreplay/queue/Carries$Carried" "backend" "I" (.int xb)) := by
  refine Pays.of (plainFor_of_name (by first | (simp [plainName, overriddenIn]; done) | decide +kernel)) ?_
  intro p e s m below meth c s₁ hx hby hml hown hnm hret hlk hZ e0 X0
  have N0 := Fr.nil n0
  have K0 : Keep h0 h0 [ax] := Keep.refl _ _
  refine Goes.go (U' := (s₁.setTop (mkF m 0 #[sR_ ax, .val xf, sJ_ xe, sS_, sJ_ xt, sS_, sI_ xb] []))) (fun t kt => castTop (ef_rm_cd m ax xf xe xt xb rxf) kt) ?_
  refine Goes.go (U' := (s₁.setTop (mkF m 1 #[sR_ ax, .val xf, sJ_ xe, sS_, sJ_ xt, sS_, sI_ xb] [(.ref ax)]))) (fun t kt => ?_) ?_
  · skip
    refine XS.aloadN X0.here hx rfl (hb hby d_rm_cd_0) rfl rfl ?_
    exact kt
  obtain ⟨v_1, T_1, L_1, X_1, q_1, st_1⟩ := callInit X0 hx hZ (y := (⟨"java/lang/Record", "<init>", "()V"⟩ : MethodName)) (W := 0) rfl hown (wdOf hw 59 rfl) (wdOf hw 60 rfl) (wdOf hw 62 rfl) (wdOf hw 63 rfl) (by decide) (rm_rec l Z a0 hw [] ax h0 n0 Z0) (by decide) (by decide) (by decide) (by decide) e0 (b := ax) (g := (mkF m 1 #[sR_ ax, .val xf, sJ_ xe, sS_, sJ_ xt, sS_, sI_ xb] [(.ref ax)])) rfl (by rw [hml]; rfl) (argsL := []) (rest := []) (lenOf pd_0 rfl) rfl rfl (Nat.le_refl _) (hb hby d_rm_cd_1)
  obtain ⟨rfl, n_1, K_1⟩ := q_1
  have N_1 := Fr.app N0 n_1
  refine Goes.go (U' := (T_1.setTop (mkF m 4 #[sR_ ax, .val xf, sJ_ xe, sS_, sJ_ xt, sS_, sI_ xb] []))) st_1 ?_
  refine Goes.go (U' := (T_1.setTop (mkF m 6 #[sR_ ax, .val xf, sJ_ xe, sS_, sJ_ xt, sS_, sI_ xb] [xf, (.ref ax)]))) (fun t kt => ?_) ?_
  · skip
    refine XS.aloadN X_1.here hx rfl (hb hby d_rm_cd_4) rfl rfl ?_
    refine XS.aloadN X_1.here hx rfl (hb hby d_rm_cd_5) rfl rxf ?_
    exact kt
  obtain ⟨T_2, h_2, X_2, e_2, W_2, st_2⟩ := putF X_1 hx hZ hown (host := "") (Or.inl (wdOf hw 65 rfl)) Via.refl K_1 F0_from E0 (Or.inr ⟨wdOf hw 66 rfl, rfl, hnm⟩) (wdOf hw 54 rfl) (ty := (.object "java/lang/Long")) (by decide) (ownNarrow rxf rfl) (ownFits rxf rfl) (g := (mkF m 6 #[sR_ ax, .val xf, sJ_ xe, sS_, sJ_ xt, sS_, sI_ xb] [xf, (.ref ax)])) rfl rfl (hb hby d_rm_cd_6)
  have N_2 := Fr.snoc X_2 N_1 o0
  have f_3 : Exa Z h_2 ax "com/example/dead_letter_replay/deadletterreplay/queue/Carries$Carried" := E0.wr W_2
  have f_4 : Fld Z h_2 ax "com/example/dead_letter_replay/deadletterreplay/queue/Carries$Carried" "from" "Ljava/lang/Long;" xf := F0_from.same W_2
  have f_5 : Fld Z h_2 ax "com/example/dead_letter_replay/deadletterreplay/queue/Carries$Carried" "era" "J" (.long (0 : Int64)) := F0_era.other W_2 (Or.inr (slot_ne (Or.inr (wdOf hw 68 rfl)) (Or.inr (wdOf hw 66 rfl)) (by decide) (t := .long) (t' := (.object "java/lang/Long")) (by decide) (by decide)))
  have f_6 : Fld Z h_2 ax "com/example/dead_letter_replay/deadletterreplay/queue/Carries$Carried" "transaction" "J" (.long (0 : Int64)) := F0_transaction.other W_2 (Or.inr (slot_ne (Or.inr (wdOf hw 70 rfl)) (Or.inr (wdOf hw 66 rfl)) (by decide) (t := .long) (t' := (.object "java/lang/Long")) (by decide) (by decide)))
  have f_7 : Fld Z h_2 ax "com/example/dead_letter_replay/deadletterreplay/queue/Carries$Carried" "backend" "I" (.int (0 : Int32)) := F0_backend.other W_2 (Or.inr (slot_ne (Or.inr (wdOf hw 72 rfl)) (Or.inr (wdOf hw 66 rfl)) (by decide) (t := .int) (t' := (.object "java/lang/Long")) (by decide) (by decide)))
  have K_8 : Keep h0 h_2 [ax] := K0.wr W_2 (Or.inl (List.mem_of_getElem? (i := 0) rfl))
  have y_8 : n0 ≤ h_2.size := Nat.le_trans Z0 K_8.1
  refine Goes.go (U' := (T_2.setTop (mkF m 9 #[sR_ ax, .val xf, sJ_ xe, sS_, sJ_ xt, sS_, sI_ xb] []))) st_2 ?_
  refine Goes.go (U' := (T_2.setTop (mkF m 11 #[sR_ ax, .val xf, sJ_ xe, sS_, sJ_ xt, sS_, sI_ xb] [(.long xe), (.ref ax)]))) (fun t kt => ?_) ?_
  · skip
    refine XS.aloadN X_2.here hx rfl (hb hby d_rm_cd_9) rfl rfl ?_
    refine XS.lloadN X_2.here hx rfl (hb hby d_rm_cd_10) rfl ?_
    exact kt
  obtain ⟨T_9, h_9, X_9, e_9, W_9, st_9⟩ := putF X_2 hx hZ hown (host := "") (Or.inl (wdOf hw 67 rfl)) Via.refl e_2 f_5 f_3 (Or.inr ⟨wdOf hw 68 rfl, rfl, hnm⟩) (wdOf hw 54 rfl) (ty := .long) (by decide) rfl rfl (g := (mkF m 11 #[sR_ ax, .val xf, sJ_ xe, sS_, sJ_ xt, sS_, sI_ xb] [(.long xe), (.ref ax)])) rfl rfl (hb hby d_rm_cd_11)
  have N_9 := Fr.snoc X_9 N_2 o0
  have f_10 : Exa Z h_9 ax "com/example/dead_letter_replay/deadletterreplay/queue/Carries$Carried" := f_3.wr W_9
  have f_11 : Fld Z h_9 ax "com/example/dead_letter_replay/deadletterreplay/queue/Carries$Carried" "from" "Ljava/lang/Long;" xf := f_4.other W_9 (Or.inr (slot_ne (Or.inr (wdOf hw 66 rfl)) (Or.inr (wdOf hw 68 rfl)) (by decide) (t := (.object "java/lang/Long")) (t' := .long) (by decide) (by decide)))
  have f_12 : Fld Z h_9 ax "com/example/dead_letter_replay/deadletterreplay/queue/Carries$Carried" "era" "J" (.long xe) := f_5.same W_9
  have f_13 : Fld Z h_9 ax "com/example/dead_letter_replay/deadletterreplay/queue/Carries$Carried" "transaction" "J" (.long (0 : Int64)) := f_6.other W_9 (Or.inr (slot_ne (Or.inr (wdOf hw 70 rfl)) (Or.inr (wdOf hw 68 rfl)) (by decide) (t := .long) (t' := .long) (by decide) (by decide)))
  have f_14 : Fld Z h_9 ax "com/example/dead_letter_replay/deadletterreplay/queue/Carries$Carried" "backend" "I" (.int (0 : Int32)) := f_7.other W_9 (Or.inr (slot_ne (Or.inr (wdOf hw 72 rfl)) (Or.inr (wdOf hw 68 rfl)) (by decide) (t := .int) (t' := .long) (by decide) (by decide)))
  have K_15 : Keep h0 h_9 [ax] := K_8.wr W_9 (Or.inl (List.mem_of_getElem? (i := 0) rfl))
  have y_15 : n0 ≤ h_9.size := Nat.le_trans Z0 K_15.1
  refine Goes.go (U' := (T_9.setTop (mkF m 14 #[sR_ ax, .val xf, sJ_ xe, sS_, sJ_ xt, sS_, sI_ xb] []))) st_9 ?_
  refine Goes.go (U' := (T_9.setTop (mkF m 17 #[sR_ ax, .val xf, sJ_ xe, sS_, sJ_ xt, sS_, sI_ xb] [(.long xt), (.ref ax)]))) (fun t kt => ?_) ?_
  · skip
    refine XS.aloadN X_9.here hx rfl (hb hby d_rm_cd_14) rfl rfl ?_
    refine XS.lload X_9.here hx rfl (hb hby d_rm_cd_15) rfl ?_
    exact kt
  obtain ⟨T_16, h_16, X_16, e_16, W_16, st_16⟩ := putF X_9 hx hZ hown (host := "") (Or.inl (wdOf hw 69 rfl)) Via.refl e_9 f_13 f_10 (Or.inr ⟨wdOf hw 70 rfl, rfl, hnm⟩) (wdOf hw 54 rfl) (ty := .long) (by decide) rfl rfl (g := (mkF m 17 #[sR_ ax, .val xf, sJ_ xe, sS_, sJ_ xt, sS_, sI_ xb] [(.long xt), (.ref ax)])) rfl rfl (hb hby d_rm_cd_17)
  have N_16 := Fr.snoc X_16 N_9 o0
  have f_17 : Exa Z h_16 ax "com/example/dead_letter_replay/deadletterreplay/queue/Carries$Carried" := f_10.wr W_16
  have f_18 : Fld Z h_16 ax "com/example/dead_letter_replay/deadletterreplay/queue/Carries$Carried" "from" "Ljava/lang/Long;" xf := f_11.other W_16 (Or.inr (slot_ne (Or.inr (wdOf hw 66 rfl)) (Or.inr (wdOf hw 70 rfl)) (by decide) (t := (.object "java/lang/Long")) (t' := .long) (by decide) (by decide)))
  have f_19 : Fld Z h_16 ax "com/example/dead_letter_replay/deadletterreplay/queue/Carries$Carried" "era" "J" (.long xe) := f_12.other W_16 (Or.inr (slot_ne (Or.inr (wdOf hw 68 rfl)) (Or.inr (wdOf hw 70 rfl)) (by decide) (t := .long) (t' := .long) (by decide) (by decide)))
  have f_20 : Fld Z h_16 ax "com/example/dead_letter_replay/deadletterreplay/queue/Carries$Carried" "transaction" "J" (.long xt) := f_13.same W_16
  have f_21 : Fld Z h_16 ax "com/example/dead_letter_replay/deadletterreplay/queue/Carries$Carried" "backend" "I" (.int (0 : Int32)) := f_14.other W_16 (Or.inr (slot_ne (Or.inr (wdOf hw 72 rfl)) (Or.inr (wdOf hw 70 rfl)) (by decide) (t := .int) (t' := .long) (by decide) (by decide)))
  have K_22 : Keep h0 h_16 [ax] := K_15.wr W_16 (Or.inl (List.mem_of_getElem? (i := 0) rfl))
  have y_22 : n0 ≤ h_16.size := Nat.le_trans Z0 K_22.1
  refine Goes.go (U' := (T_16.setTop (mkF m 20 #[sR_ ax, .val xf, sJ_ xe, sS_, sJ_ xt, sS_, sI_ xb] []))) st_16 ?_
  refine Goes.go (U' := (T_16.setTop (mkF m 23 #[sR_ ax, .val xf, sJ_ xe, sS_, sJ_ xt, sS_, sI_ xb] [(.int xb), (.ref ax)]))) (fun t kt => ?_) ?_
  · skip
    refine XS.aloadN X_16.here hx rfl (hb hby d_rm_cd_20) rfl rfl ?_
    refine XS.iload X_16.here hx rfl (hb hby d_rm_cd_21) rfl ?_
    exact kt
  obtain ⟨T_23, h_23, X_23, e_23, W_23, st_23⟩ := putF X_16 hx hZ hown (host := "") (Or.inl (wdOf hw 71 rfl)) Via.refl e_16 f_21 f_17 (Or.inr ⟨wdOf hw 72 rfl, rfl, hnm⟩) (wdOf hw 54 rfl) (ty := .int) (by decide) rfl rfl (g := (mkF m 23 #[sR_ ax, .val xf, sJ_ xe, sS_, sJ_ xt, sS_, sI_ xb] [(.int xb), (.ref ax)])) rfl rfl (hb hby d_rm_cd_23)
  have N_23 := Fr.snoc X_23 N_16 o0
  have f_24 : Exa Z h_23 ax "com/example/dead_letter_replay/deadletterreplay/queue/Carries$Carried" := f_17.wr W_23
  have f_25 : Fld Z h_23 ax "com/example/dead_letter_replay/deadletterreplay/queue/Carries$Carried" "from" "Ljava/lang/Long;" xf := f_18.other W_23 (Or.inr (slot_ne (Or.inr (wdOf hw 66 rfl)) (Or.inr (wdOf hw 72 rfl)) (by decide) (t := (.object "java/lang/Long")) (t' := .int) (by decide) (by decide)))
  have f_26 : Fld Z h_23 ax "com/example/dead_letter_replay/deadletterreplay/queue/Carries$Carried" "era" "J" (.long xe) := f_19.other W_23 (Or.inr (slot_ne (Or.inr (wdOf hw 68 rfl)) (Or.inr (wdOf hw 72 rfl)) (by decide) (t := .long) (t' := .int) (by decide) (by decide)))
  have f_27 : Fld Z h_23 ax "com/example/dead_letter_replay/deadletterreplay/queue/Carries$Carried" "transaction" "J" (.long xt) := f_20.other W_23 (Or.inr (slot_ne (Or.inr (wdOf hw 70 rfl)) (Or.inr (wdOf hw 72 rfl)) (by decide) (t := .long) (t' := .int) (by decide) (by decide)))
  have f_28 : Fld Z h_23 ax "com/example/dead_letter_replay/deadletterreplay/queue/Carries$Carried" "backend" "I" (.int xb) := f_21.same W_23
  have K_29 : Keep h0 h_23 [ax] := K_22.wr W_23 (Or.inl (List.mem_of_getElem? (i := 0) rfl))
  have y_29 : n0 ≤ h_23.size := Nat.le_trans Z0 K_29.1
  refine Goes.go (U' := (T_23.setTop (mkF m 26 #[sR_ ax, .val xf, sJ_ xe, sS_, sJ_ xt, sS_, sI_ xb] []))) st_23 ?_
  refine Goes.retV X_23 hx hlk hret (hb hby d_rm_cd_26) (by decide) (by decide) ?_
  try rw [e_23]
  exact ⟨rfl, N_23, K_29, f_24, f_25, f_26, f_27, f_28⟩
theorem d_rm_min_0 : decode jdk_29_method_70_code 0 = .ok (.lload_n 0, 1) := by decide +kernel
theorem d_rm_min_1 : decode jdk_29_method_70_code 1 = .ok (.lload_n 2, 1) := by decide +kernel
theorem d_rm_min_2 : decode jdk_29_method_70_code 2 = .ok (.lcmp, 1) := by decide +kernel
theorem d_rm_min_3 : decode jdk_29_method_70_code 3 = .ok (.ifCond .gt 7, 3) := by decide +kernel
theorem d_rm_min_6 : decode jdk_29_method_70_code 6 = .ok (.lload_n 0, 1) := by decide +kernel
theorem d_rm_min_7 : decode jdk_29_method_70_code 7 = .ok (.goto 4, 3) := by decide +kernel
theorem d_rm_min_10 : decode jdk_29_method_70_code 10 = .ok (.lload_n 2, 1) := by decide +kernel
theorem d_rm_min_11 : decode jdk_29_method_70_code 11 = .ok (.lreturn, 1) := by decide +kernel
set_option maxHeartbeats 4000000 in
theorem ef_rm_min (m : MethodId) (x0 : Int64) (x1 : Int64)  : entryFrame m #[(.long x0), (.long x1)] 4 = mkF m 0 #[.val (.long x0), .second, .val (.long x1), .second] [] := by first | (simp [entryFrame, mkF, argsToLocals, catR, catN, catI, catJ]; done) | rfl
set_option maxRecDepth 65536 in
set_option maxHeartbeats 40000000 in
theorem rm_min (l : Launch) (Z : State) (a0 : Array Value) (hw : ∀ d ∈ tables_1, d.before a0 Z = true) (ws : List Jvm.Cond) (xa xb : Int64) (h0 : Heap) (n0 : Nat) (Z0 : n0 ≤ h0.size)  :
    Pays l Z (⟨"java/lang/Math", "min", "(JJ)J"⟩ : MethodName) jdk_29_method_70_code 4 (some .long) ws ({ frames := 0, cells := 0, slots := 0, locals := 0 } : Room) #[(.long xa), (.long xb)] h0 (fun v h L => ∃ z, v = some (.long z) ∧ Fr n0 L ∧ h = h0 ∧ ¬ xa < z ∧ ¬ xb < z ∧ (z = xa ∨ z = xb)) := by
  refine Pays.of (by decide +kernel) ?_
  intro p e s m below meth c s₁ hx hby hml hown hnm hret hlk hZ e0 X0
  have N0 := Fr.nil n0
  have K0 : Keep h0 h0 [] := Keep.refl _ _
  refine Goes.go (U' := (s₁.setTop (mkF m 0 #[sJ_ xa, sS_, sJ_ xb, sS_] []))) (fun t kt => castTop (ef_rm_min m xa xb) kt) ?_
  refine Goes.go (U' := (s₁.setTop (mkF m 3 #[sJ_ xa, sS_, sJ_ xb, sS_] [(.int (XT.cmpL xa xb))]))) (fun t kt => ?_) ?_
  · skip
    refine XS.lloadN X0.here hx rfl (hb hby d_rm_min_0) rfl ?_
    refine XS.lloadN X0.here hx rfl (hb hby d_rm_min_1) rfl ?_
    refine XT.lcmp X0.here hx rfl (hb hby d_rm_min_2) rfl ?_
    exact kt
  by_cases c_1 : xb < xa
  · -- xb < xa
    refine Goes.go (U' := (s₁.setTop (mkF m 11 #[sJ_ xa, sS_, sJ_ xb, sS_] [(.long xb)]))) (fun t kt => ?_) ?_
    · skip
      refine XS.ifYes X0.here hx rfl (pc0 := 3) (pc' := 10) rfl (hb hby d_rm_min_3) rfl (XT.ll_gt_t c_1) (by decide) (by decide) ?_
      refine XS.lloadN X0.here hx rfl (hb hby d_rm_min_10) rfl ?_
      exact kt
    refine Goes.retJ X0 hx hlk hret (hb hby d_rm_min_11) (by decide) (by decide) ?_
    try rw [e0]
    exact ⟨_, rfl, N0, rfl, by first | (refine ⟨?_, ?_, ?_⟩ <;> first | exact Int64.lt_irrefl | assumption | exact Or.inl rfl | exact Or.inr rfl | (intro q; exact absurd (Int64.lt_trans q c_1) Int64.lt_irrefl))⟩
  · -- not xb < xa
    refine Goes.go (U' := (s₁.setTop (mkF m 11 #[sJ_ xa, sS_, sJ_ xb, sS_] [(.long xa)]))) (fun t kt => ?_) ?_
    · skip
      refine XS.ifNo X0.here hx rfl (hb hby d_rm_min_3) rfl (XT.ll_gt_f c_1) ?_
      refine XS.lloadN X0.here hx rfl (hb hby d_rm_min_6) rfl ?_
      refine XS.goto X0.here hx rfl (pc0 := 7) (pc' := 11) rfl (hb hby d_rm_min_7) (by decide) (by decide) ?_
      exact kt
    refine Goes.retJ X0 hx hlk hret (hb hby d_rm_min_11) (by decide) (by decide) ?_
    try rw [e0]
    exact ⟨_, rfl, N0, rfl, by first | (refine ⟨?_, ?_, ?_⟩ <;> first | exact Int64.lt_irrefl | assumption | exact Or.inl rfl | exact Or.inr rfl | (intro q; exact absurd (Int64.lt_trans q c_1) Int64.lt_irrefl))⟩
theorem d_rm_lv_0 : decode jdk_35_method_31_code 0 = .ok (.aload_n 0, 1) := by decide +kernel
theorem d_rm_lv_1 : decode jdk_35_method_31_code 1 = .ok (.getfield 273, 3) := by decide +kernel
theorem d_rm_lv_4 : decode jdk_35_method_31_code 4 = .ok (.lreturn, 1) := by decide +kernel
set_option maxHeartbeats 4000000 in
theorem ef_rm_lv (m : MethodId) (x0 : Addr)  : entryFrame m #[(.ref x0)] 1 = mkF m 0 #[.val (.ref x0)] [] := by first | (simp [entryFrame, mkF, argsToLocals, catR, catN, catI, catJ]; done) | rfl
set_option maxRecDepth 65536 in
set_option maxHeartbeats 40000000 in
theorem rm_lv (l : Launch) (Z : State) (a0 : Array Value) (hw : ∀ d ∈ tables_1, d.before a0 Z = true) (ws : List Jvm.Cond) (ax : Addr) (xv : Int64) (h0 : Heap) (n0 : Nat) (Z0 : n0 ≤ h0.size) (F0 : Fld Z h0 ax "java/lang/Long" "value" "J" (.long xv)) :
    Pays l Z (⟨"java/lang/Long", "longValue", "()J"⟩ : MethodName) jdk_35_method_31_code 1 (some .long) ws ({ frames := 0, cells := 0, slots := 0, locals := 0 } : Room) #[(.ref ax)] h0 (fun v h L => v = some (.long xv) ∧ Fr n0 L ∧ h = h0) := by
  refine Pays.of (plainFor_of_name (by first | (simp [plainName, overriddenIn]; done) | decide +kernel)) ?_
  intro p e s m below meth c s₁ hx hby hml hown hnm hret hlk hZ e0 X0
  have N0 := Fr.nil n0
  have K0 : Keep h0 h0 [] := Keep.refl _ _
  refine Goes.go (U' := (s₁.setTop (mkF m 0 #[sR_ ax] []))) (fun t kt => castTop (ef_rm_lv m ax) kt) ?_
  refine Goes.go (U' := (s₁.setTop (mkF m 1 #[sR_ ax] [(.ref ax)]))) (fun t kt => ?_) ?_
  · skip
    refine XS.aloadN X0.here hx rfl (hb hby d_rm_lv_0) rfl rfl ?_
    exact kt
  obtain ⟨T_1, X_1, e_1, st_1⟩ := getF X0 hx hZ hown (host := "") (Or.inl (wdOf hw 51 rfl)) Via.refl e0 F0 (g := (mkF m 1 #[sR_ ax] [(.ref ax)])) rfl rfl (hb hby d_rm_lv_1)
  refine Goes.go (U' := (T_1.setTop (mkF m 4 #[sR_ ax] [(.long xv)]))) st_1 ?_
  refine Goes.retJ X_1 hx hlk hret (hb hby d_rm_lv_4) (by decide) (by decide) ?_
  try rw [e_1]
  exact ⟨rfl, N0, rfl⟩
theorem d_rm_from_0 : decode prog_12_method_5_code 0 = .ok (.aload_n 0, 1) := by decide +kernel
theorem d_rm_from_1 : decode prog_12_method_5_code 1 = .ok (.getfield 7, 3) := by decide +kernel
theorem d_rm_from_4 : decode prog_12_method_5_code 4 = .ok (.areturn, 1) := by decide +kernel
set_option maxHeartbeats 4000000 in
theorem ef_rm_from (m : MethodId) (x0 : Addr)  : entryFrame m #[(.ref x0)] 1 = mkF m 0 #[.val (.ref x0)] [] := by first | (simp [entryFrame, mkF, argsToLocals, catR, catN, catI, catJ]; done) | rfl
set_option maxRecDepth 65536 in
set_option maxHeartbeats 40000000 in
theorem rm_from (l : Launch) (Z : State) (a0 : Array Value) (hw : ∀ d ∈ tables_1, d.before a0 Z = true) (ws : List Jvm.Cond) (ax : Addr) (xl : Value) (rxl : xl.isRef = true) (h0 : Heap) (n0 : Nat) (Z0 : n0 ≤ h0.size) (F0 : Fld Z h0 ax "com/example/dead_letter_replay/deadletterreplay/queue/Carries$Carried" "from" "Ljava/lang/Long;" xl) :
    Pays l Z (⟨"com/example/dead_letter_replay/deadletterreplay/queue/Carries$Carried", "from", "()Ljava/lang/Long;"⟩ : MethodName) prog_12_method_5_code 1 (some (.object "java/lang/Long")) ws ({ frames := 0, cells := 0, slots := 0, locals := 0 } : Room) #[(.ref ax)] h0 (fun v h L => v = some xl ∧ Fr n0 L ∧ h = h0) := by
  refine Pays.of (plainFor_of_name (by first | (simp [plainName, overriddenIn]; done) | decide +kernel)) ?_
  intro p e s m below meth c s₁ hx hby hml hown hnm hret hlk hZ e0 X0
  have N0 := Fr.nil n0
  have K0 : Keep h0 h0 [] := Keep.refl _ _
  refine Goes.go (U' := (s₁.setTop (mkF m 0 #[sR_ ax] []))) (fun t kt => castTop (ef_rm_from m ax) kt) ?_
  refine Goes.go (U' := (s₁.setTop (mkF m 1 #[sR_ ax] [(.ref ax)]))) (fun t kt => ?_) ?_
  · skip
    refine XS.aloadN X0.here hx rfl (hb hby d_rm_from_0) rfl rfl ?_
    exact kt
  obtain ⟨T_1, X_1, e_1, st_1⟩ := getF X0 hx hZ hown (host := "") (Or.inl (wdOf hw 65 rfl)) Via.refl e0 F0 (g := (mkF m 1 #[sR_ ax] [(.ref ax)])) rfl rfl (hb hby d_rm_from_1)
  refine Goes.go (U' := (T_1.setTop (mkF m 4 #[sR_ ax] [xl]))) st_1 ?_
  refine Goes.retA X_1 hx hlk hret rfl rxl (hb hby d_rm_from_4) (by decide) (by decide) ?_
  try rw [e_1]
  exact ⟨rfl, N0, rfl⟩
theorem d_rm_era_0 : decode prog_12_method_6_code 0 = .ok (.aload_n 0, 1) := by decide +kernel
theorem d_rm_era_1 : decode prog_12_method_6_code 1 = .ok (.getfield 13, 3) := by decide +kernel
theorem d_rm_era_4 : decode prog_12_method_6_code 4 = .ok (.lreturn, 1) := by decide +kernel
set_option maxHeartbeats 4000000 in
theorem ef_rm_era (m : MethodId) (x0 : Addr)  : entryFrame m #[(.ref x0)] 1 = mkF m 0 #[.val (.ref x0)] [] := by first | (simp [entryFrame, mkF, argsToLocals, catR, catN, catI, catJ]; done) | rfl
set_option maxRecDepth 65536 in
set_option maxHeartbeats 40000000 in
theorem rm_era (l : Launch) (Z : State) (a0 : Array Value) (hw : ∀ d ∈ tables_1, d.before a0 Z = true) (ws : List Jvm.Cond) (ax : Addr) (xe : Int64) (h0 : Heap) (n0 : Nat) (Z0 : n0 ≤ h0.size) (F0 : Fld Z h0 ax "com/example/dead_letter_replay/deadletterreplay/queue/Carries$Carried" "era" "J" (.long xe)) :
    Pays l Z (⟨"com/example/dead_letter_replay/deadletterreplay/queue/Carries$Carried", "era", "()J"⟩ : MethodName) prog_12_method_6_code 1 (some .long) ws ({ frames := 0, cells := 0, slots := 0, locals := 0 } : Room) #[(.ref ax)] h0 (fun v h L => v = some (.long xe) ∧ Fr n0 L ∧ h = h0) := by
  refine Pays.of (plainFor_of_name (by first | (simp [plainName, overriddenIn]; done) | decide +kernel)) ?_
  intro p e s m below meth c s₁ hx hby hml hown hnm hret hlk hZ e0 X0
  have N0 := Fr.nil n0
  have K0 : Keep h0 h0 [] := Keep.refl _ _
  refine Goes.go (U' := (s₁.setTop (mkF m 0 #[sR_ ax] []))) (fun t kt => castTop (ef_rm_era m ax) kt) ?_
  refine Goes.go (U' := (s₁.setTop (mkF m 1 #[sR_ ax] [(.ref ax)]))) (fun t kt => ?_) ?_
  · skip
    refine XS.aloadN X0.here hx rfl (hb hby d_rm_era_0) rfl rfl ?_
    exact kt
  obtain ⟨T_1, X_1, e_1, st_1⟩ := getF X0 hx hZ hown (host := "") (Or.inl (wdOf hw 67 rfl)) Via.refl e0 F0 (g := (mkF m 1 #[sR_ ax] [(.ref ax)])) rfl rfl (hb hby d_rm_era_1)
  refine Goes.go (U' := (T_1.setTop (mkF m 4 #[sR_ ax] [(.long xe)]))) st_1 ?_
  refine Goes.retJ X_1 hx hlk hret (hb hby d_rm_era_4) (by decide) (by decide) ?_
  try rw [e_1]
  exact ⟨rfl, N0, rfl⟩
theorem d_rm_trx_0 : decode prog_12_method_7_code 0 = .ok (.aload_n 0, 1) := by decide +kernel
theorem d_rm_trx_1 : decode prog_12_method_7_code 1 = .ok (.getfield 17, 3) := by decide +kernel
theorem d_rm_trx_4 : decode prog_12_method_7_code 4 = .ok (.lreturn, 1) := by decide +kernel
set_option maxHeartbeats 4000000 in
theorem ef_rm_trx (m : MethodId) (x0 : Addr)  : entryFrame m #[(.ref x0)] 1 = mkF m 0 #[.val (.ref x0)] [] := by first | (simp [entryFrame, mkF, argsToLocals, catR, catN, catI, catJ]; done) | rfl
set_option maxRecDepth 65536 in
set_option maxHeartbeats 40000000 in
theorem rm_trx (l : Launch) (Z : State) (a0 : Array Value) (hw : ∀ d ∈ tables_1, d.before a0 Z = true) (ws : List Jvm.Cond) (ax : Addr) (xe : Int64) (h0 : Heap) (n0 : Nat) (Z0 : n0 ≤ h0.size) (F0 : Fld Z h0 ax "com/example/dead_letter_replay/deadletterreplay/queue/Carries$Carried" "transaction" "J" (.long xe)) :
    Pays l Z (⟨"com/example/dead_letter_replay/deadletterreplay/queue/Carries$Carried", "transaction", "()J"⟩ : MethodName) prog_12_method_7_code 1 (some .long) ws ({ frames := 0, cells := 0, slots := 0, locals := 0 } : Room) #[(.ref ax)] h0 (fun v h L => v = some (.long xe) ∧ Fr n0 L ∧ h = h0) := by
  refine Pays.of (plainFor_of_name (by first | (simp [plainName, overriddenIn]; done) | decide +kernel)) ?_
  intro p e s m below meth c s₁ hx hby hml hown hnm hret hlk hZ e0 X0
  have N0 := Fr.nil n0
  have K0 : Keep h0 h0 [] := Keep.refl _ _
  refine Goes.go (U' := (s₁.setTop (mkF m 0 #[sR_ ax] []))) (fun t kt => castTop (ef_rm_trx m ax) kt) ?_
  refine Goes.go (U' := (s₁.setTop (mkF m 1 #[sR_ ax] [(.ref ax)]))) (fun t kt => ?_) ?_
  · skip
    refine XS.aloadN X0.here hx rfl (hb hby d_rm_trx_0) rfl rfl ?_
    exact kt
  obtain ⟨T_1, X_1, e_1, st_1⟩ := getF X0 hx hZ hown (host := "") (Or.inl (wdOf hw 69 rfl)) Via.refl e0 F0 (g := (mkF m 1 #[sR_ ax] [(.ref ax)])) rfl rfl (hb hby d_rm_trx_1)
  refine Goes.go (U' := (T_1.setTop (mkF m 4 #[sR_ ax] [(.long xe)]))) st_1 ?_
  refine Goes.retJ X_1 hx hlk hret (hb hby d_rm_trx_4) (by decide) (by decide) ?_
  try rw [e_1]
  exact ⟨rfl, N0, rfl⟩
theorem d_rm_bke_0 : decode prog_12_method_8_code 0 = .ok (.aload_n 0, 1) := by decide +kernel
theorem d_rm_bke_1 : decode prog_12_method_8_code 1 = .ok (.getfield 20, 3) := by decide +kernel
theorem d_rm_bke_4 : decode prog_12_method_8_code 4 = .ok (.ireturn, 1) := by decide +kernel
set_option maxHeartbeats 4000000 in
theorem ef_rm_bke (m : MethodId) (x0 : Addr)  : entryFrame m #[(.ref x0)] 1 = mkF m 0 #[.val (.ref x0)] [] := by first | (simp [entryFrame, mkF, argsToLocals, catR, catN, catI, catJ]; done) | rfl
set_option maxRecDepth 65536 in
set_option maxHeartbeats 40000000 in
theorem rm_bke (l : Launch) (Z : State) (a0 : Array Value) (hw : ∀ d ∈ tables_1, d.before a0 Z = true) (ws : List Jvm.Cond) (ax : Addr) (xe : Int32) (h0 : Heap) (n0 : Nat) (Z0 : n0 ≤ h0.size) (F0 : Fld Z h0 ax "com/example/dead_letter_replay/deadletterreplay/queue/Carries$Carried" "backend" "I" (.int xe)) :
    Pays l Z (⟨"com/example/dead_letter_replay/deadletterreplay/queue/Carries$Carried", "backend", "()I"⟩ : MethodName) prog_12_method_8_code 1 (some .int) ws ({ frames := 0, cells := 0, slots := 0, locals := 0 } : Room) #[(.ref ax)] h0 (fun v h L => v = some (.int xe) ∧ Fr n0 L ∧ h = h0) := by
  refine Pays.of (plainFor_of_name (by first | (simp [plainName, overriddenIn]; done) | decide +kernel)) ?_
  intro p e s m below meth c s₁ hx hby hml hown hnm hret hlk hZ e0 X0
  have N0 := Fr.nil n0
  have K0 : Keep h0 h0 [] := Keep.refl _ _
  refine Goes.go (U' := (s₁.setTop (mkF m 0 #[sR_ ax] []))) (fun t kt => castTop (ef_rm_bke m ax) kt) ?_
  refine Goes.go (U' := (s₁.setTop (mkF m 1 #[sR_ ax] [(.ref ax)]))) (fun t kt => ?_) ?_
  · skip
    refine XS.aloadN X0.here hx rfl (hb hby d_rm_bke_0) rfl rfl ?_
    exact kt
  obtain ⟨T_1, X_1, e_1, st_1⟩ := getF X0 hx hZ hown (host := "") (Or.inl (wdOf hw 71 rfl)) Via.refl e0 F0 (g := (mkF m 1 #[sR_ ax] [(.ref ax)])) rfl rfl (hb hby d_rm_bke_1)
  refine Goes.go (U' := (T_1.setTop (mkF m 4 #[sR_ ax] [(.int xe)]))) st_1 ?_
  refine Goes.retI X_1 hx hlk hret (hb hby d_rm_bke_4) (by decide) (by decide) ?_
  try rw [e_1]
  exact ⟨rfl, N0, rfl⟩
theorem d_rm_leqN_0 : decode jdk_35_method_37_code 0 = .ok (.aload_n 1, 1) := by decide +kernel
theorem d_rm_leqN_1 : decode jdk_35_method_37_code 1 = .ok (.instanceof 1, 3) := by decide +kernel
theorem d_rm_leqN_4 : decode jdk_35_method_37_code 4 = .ok (.ifCond .eq 24, 3) := by decide +kernel
theorem d_rm_leqN_28 : decode jdk_35_method_37_code 28 = .ok (.iconst 0, 1) := by decide +kernel
theorem d_rm_leqN_29 : decode jdk_35_method_37_code 29 = .ok (.ireturn, 1) := by decide +kernel
set_option maxHeartbeats 4000000 in
theorem ef_rm_leqN (m : MethodId) (x0 : Addr)  : entryFrame m #[(.ref x0), .null] 2 = mkF m 0 #[.val (.ref x0), .val .null] [] := by first | (simp [entryFrame, mkF, argsToLocals, catR, catN, catI, catJ]; done) | rfl
set_option maxRecDepth 65536 in
set_option maxHeartbeats 40000000 in
theorem rm_leqN (l : Launch) (Z : State) (a0 : Array Value) (hw : ∀ d ∈ tables_1, d.before a0 Z = true) (ws : List Jvm.Cond) (ax : Addr) (h0 : Heap) (n0 : Nat) (Z0 : n0 ≤ h0.size)  :
    Pays l Z (⟨"java/lang/Long", "equals", "(Ljava/lang/Object;)Z"⟩ : MethodName) jdk_35_method_37_code 2 (some .boolean) ws ({ frames := 0, cells := 0, slots := 0, locals := 0 } : Room) #[(.ref ax), .null] h0 (fun v h L => v = some (.int 0) ∧ Fr n0 L ∧ h = h0) := by
  refine Pays.of (plainFor_of_name (by first | (simp [plainName, overriddenIn]; done) | decide +kernel)) ?_
  intro p e s m below meth c s₁ hx hby hml hown hnm hret hlk hZ e0 X0
  have N0 := Fr.nil n0
  have K0 : Keep h0 h0 [] := Keep.refl _ _
  refine Goes.go (U' := (s₁.setTop (mkF m 0 #[sR_ ax, .val .null] []))) (fun t kt => castTop (ef_rm_leqN m ax) kt) ?_
  refine Goes.go (U' := (s₁.setTop (mkF m 29 #[sR_ ax, .val .null] [(.int (0 : Int32))]))) (fun t kt => ?_) ?_
  · skip
    refine XS.aloadN X0.here hx rfl (hb hby d_rm_leqN_0) rfl rfl ?_
    refine X0.instanceofNull hx (g := (mkF m 1 #[sR_ ax, .val .null] [.null])) rfl rfl (hb hby d_rm_leqN_1) _ ?_
    refine XS.ifYes X0.here hx rfl (pc0 := 4) (pc' := 28) rfl (hb hby d_rm_leqN_4) rfl (XT.i0_eq_t (by decide)) (by decide) (by decide) ?_
    refine XS.iconst X0.here hx rfl (hb hby d_rm_leqN_28) ?_
    exact kt
  refine Goes.retB X0 hx hlk hret (hb hby d_rm_leqN_29) (by decide) (by decide) ?_
  try rw [e0]
  exact ⟨rfl, N0, rfl⟩
theorem d_rm_leq_0 : decode jdk_35_method_37_code 0 = .ok (.aload_n 1, 1) := by decide +kernel
theorem d_rm_leq_1 : decode jdk_35_method_37_code 1 = .ok (.instanceof 1, 3) := by decide +kernel
theorem d_rm_leq_4 : decode jdk_35_method_37_code 4 = .ok (.ifCond .eq 24, 3) := by decide +kernel
theorem d_rm_leq_7 : decode jdk_35_method_37_code 7 = .ok (.aload_n 0, 1) := by decide +kernel
theorem d_rm_leq_8 : decode jdk_35_method_37_code 8 = .ok (.getfield 273, 3) := by decide +kernel
theorem d_rm_leq_11 : decode jdk_35_method_37_code 11 = .ok (.aload_n 1, 1) := by decide +kernel
theorem d_rm_leq_12 : decode jdk_35_method_37_code 12 = .ok (.checkcast 1, 3) := by decide +kernel
theorem d_rm_leq_15 : decode jdk_35_method_37_code 15 = .ok (.invokevirtual 280, 3) := by decide +kernel
theorem d_rm_leq_18 : decode jdk_35_method_37_code 18 = .ok (.lcmp, 1) := by decide +kernel
theorem d_rm_leq_19 : decode jdk_35_method_37_code 19 = .ok (.ifCond .ne 7, 3) := by decide +kernel
theorem d_rm_leq_22 : decode jdk_35_method_37_code 22 = .ok (.iconst 1, 1) := by decide +kernel
theorem d_rm_leq_23 : decode jdk_35_method_37_code 23 = .ok (.goto 4, 3) := by decide +kernel
theorem d_rm_leq_26 : decode jdk_35_method_37_code 26 = .ok (.iconst 0, 1) := by decide +kernel
theorem d_rm_leq_27 : decode jdk_35_method_37_code 27 = .ok (.ireturn, 1) := by decide +kernel
set_option maxHeartbeats 4000000 in
theorem ef_rm_leq (m : MethodId) (x0 : Addr) (x1 : Addr)  : entryFrame m #[(.ref x0), (.ref x1)] 2 = mkF m 0 #[.val (.ref x0), .val (.ref x1)] [] := by first | (simp [entryFrame, mkF, argsToLocals, catR, catN, catI, catJ]; done) | rfl
set_option maxRecDepth 65536 in
set_option maxHeartbeats 40000000 in
theorem rm_leq (l : Launch) (Z : State) (a0 : Array Value) (hw : ∀ d ∈ tables_1, d.before a0 Z = true) (ws : List Jvm.Cond) (ax bx : Addr) (xa xb : Int64) (z : Int32) (h0 : Heap) (n0 : Nat) (Z0 : n0 ≤ h0.size) (Fa : Fld Z h0 ax "java/lang/Long" "value" "J" (.long xa)) (Eb : Exa Z h0 bx "java/lang/Long") (Fb : Fld Z h0 bx "java/lang/Long" "value" "J" (.long xb)) (hz : z = if xa = xb then 1 else 0) :
    Pays l Z (⟨"java/lang/Long", "equals", "(Ljava/lang/Object;)Z"⟩ : MethodName) jdk_35_method_37_code 2 (some .boolean) ws ({ frames := 1, cells := 0, slots := 0, locals := 14 } : Room) #[(.ref ax), (.ref bx)] h0 (fun v h L => v = some (.int z) ∧ Fr n0 L ∧ h = h0) := by
  refine Pays.of (plainFor_of_name (by first | (simp [plainName, overriddenIn]; done) | decide +kernel)) ?_
  intro p e s m below meth c s₁ hx hby hml hown hnm hret hlk hZ e0 X0
  have N0 := Fr.nil n0
  have K0 : Keep h0 h0 [] := Keep.refl _ _
  refine Goes.go (U' := (s₁.setTop (mkF m 0 #[sR_ ax, sR_ bx] []))) (fun t kt => castTop (ef_rm_leq m ax bx) kt) ?_
  refine Goes.go (U' := (s₁.setTop (mkF m 1 #[sR_ ax, sR_ bx] [(.ref bx)]))) (fun t kt => ?_) ?_
  · skip
    refine XS.aloadN X0.here hx rfl (hb hby d_rm_leq_0) rfl rfl ?_
    exact kt
  obtain ⟨T_1, X_1, e_1, st_1⟩ := instY X0 hx hZ hown (wdOf hw 38 rfl) e0 (Ins.self Eb) (g := (mkF m 1 #[sR_ ax, sR_ bx] [(.ref bx)])) rfl rfl (hb hby d_rm_leq_1)
  refine Goes.go (U' := (T_1.setTop (mkF m 4 #[sR_ ax, sR_ bx] [(.int (1 : Int32))]))) st_1 ?_
  refine Goes.go (U' := (T_1.setTop (mkF m 8 #[sR_ ax, sR_ bx] [(.ref ax)]))) (fun t kt => ?_) ?_
  · skip
    refine XS.ifNo X_1.here hx rfl (hb hby d_rm_leq_4) rfl (XT.i0_eq_f (by decide)) ?_
    refine XS.aloadN X_1.here hx rfl (hb hby d_rm_leq_7) rfl rfl ?_
    exact kt
  obtain ⟨T_2, X_2, e_2, st_2⟩ := getF X_1 hx hZ hown (host := "") (Or.inl (wdOf hw 51 rfl)) Via.refl e_1 Fa (g := (mkF m 8 #[sR_ ax, sR_ bx] [(.ref ax)])) rfl rfl (hb hby d_rm_leq_8)
  refine Goes.go (U' := (T_2.setTop (mkF m 11 #[sR_ ax, sR_ bx] [(.long xa)]))) st_2 ?_
  refine Goes.go (U' := (T_2.setTop (mkF m 12 #[sR_ ax, sR_ bx] [(.ref bx), (.long xa)]))) (fun t kt => ?_) ?_
  · skip
    refine XS.aloadN X_2.here hx rfl (hb hby d_rm_leq_11) rfl rfl ?_
    exact kt
  obtain ⟨T_3, X_3, e_3, st_3⟩ := castY X_2 hx hZ hown (wdOf hw 38 rfl) e_2 (Ins.self Eb) (g := (mkF m 12 #[sR_ ax, sR_ bx] [(.ref bx), (.long xa)])) rfl rfl (hb hby d_rm_leq_12)
  refine Goes.go (U' := (T_3.setTop (mkF m 15 #[sR_ ax, sR_ bx] [(.ref bx), (.long xa)]))) st_3 ?_
  obtain ⟨v_4, T_4, L_4, X_4, q_4, st_4⟩ := callVirtual X_3 hx hZ (y := (⟨"java/lang/Long", "longValue", "()J"⟩ : MethodName)) (z := (⟨"java/lang/Long", "longValue", "()J"⟩ : MethodName)) (W := 2) hown (wdOf hw 121 rfl) (wdOf hw 92 rfl) (notFace_of_selects (args := #[]) (mvT hZ (wdOf hw 94 rfl))) (wdOf hw 94 rfl) (wdOf hw 93 rfl) (wdOf hw 35 rfl) (wdOf hw 95 rfl) (by decide) (rm_lv l Z a0 hw [] bx xb h0 n0 Z0 Fb) (by decide) (by decide) (by decide) (by decide) e_3 Eb (g := (mkF m 15 #[sR_ ax, sR_ bx] [(.ref bx), (.long xa)])) rfl (by rw [hml]; rfl) (argsL := []) (rest := [(.long xa)]) (lenOf pd_2 rfl) rfl rfl (Nat.le_refl _) (hb hby d_rm_leq_15)
  obtain ⟨rfl, n_4, K_4⟩ := q_4
  have N_4 := Fr.app N0 n_4
  refine Goes.go (U' := (T_4.setTop (mkF m 18 #[sR_ ax, sR_ bx] [(.long xb), (.long xa)]))) st_4 ?_
  refine Goes.go (U' := (T_4.setTop (mkF m 19 #[sR_ ax, sR_ bx] [(.int (XT.cmpL xa xb))]))) (fun t kt => ?_) ?_
  · skip
    refine XT.lcmp X_4.here hx rfl (hb hby d_rm_leq_18) rfl ?_
    exact kt
  by_cases c_5 : xa = xb
  · -- xa = xb
    refine Goes.go (U' := (T_4.setTop (mkF m 27 #[sR_ ax, sR_ bx] [(.int (1 : Int32))]))) (fun t kt => ?_) ?_
    · skip
      refine XS.ifNo X_4.here hx rfl (hb hby d_rm_leq_19) rfl (XT.ll_ne_f c_5) ?_
      refine XS.iconst X_4.here hx rfl (hb hby d_rm_leq_22) ?_
      refine XS.goto X_4.here hx rfl (pc0 := 23) (pc' := 27) rfl (hb hby d_rm_leq_23) (by decide) (by decide) ?_
      exact kt
    refine Goes.retB X_4 hx hlk hret (hb hby d_rm_leq_27) (by decide) (by decide) ?_
    try rw [K_4]
    exact ⟨by subst hz; first | (rw [if_pos (by simp [c_5])]; rfl) | (rw [if_neg (by simp [c_5])]; rfl), N_4, rfl⟩
  · -- not xa = xb
    refine Goes.go (U' := (T_4.setTop (mkF m 27 #[sR_ ax, sR_ bx] [(.int (0 : Int32))]))) (fun t kt => ?_) ?_
    · skip
      refine XS.ifYes X_4.here hx rfl (pc0 := 19) (pc' := 26) rfl (hb hby d_rm_leq_19) rfl (XT.ll_ne_t c_5) (by decide) (by decide) ?_
      refine XS.iconst X_4.here hx rfl (hb hby d_rm_leq_26) ?_
      exact kt
    refine Goes.retB X_4 hx hlk hret (hb hby d_rm_leq_27) (by decide) (by decide) ?_
    try rw [K_4]
    exact ⟨by subst hz; first | (rw [if_pos (by simp [c_5])]; rfl) | (rw [if_neg (by simp [c_5])]; rfl), N_4, rfl⟩
theorem d_rm_floor_0 : decode prog_11_method_4_code 0 = .ok (.aload_n 0, 1) := by decide +kernel
theorem d_rm_floor_1 : decode prog_11_method_4_code 1 = .ok (.getfield 22, 3) := by decide +kernel
theorem d_rm_floor_4 : decode prog_11_method_4_code 4 = .ok (.ifCond .eq 7, 3) := by decide +kernel
theorem d_rm_floor_7 : decode prog_11_method_4_code 7 = .ok (.aconst_null, 1) := by decide +kernel
theorem d_rm_floor_8 : decode prog_11_method_4_code 8 = .ok (.goto 7, 3) := by decide +kernel
theorem d_rm_floor_11 : decode prog_11_method_4_code 11 = .ok (.aload_n 0, 1) := by decide +kernel
theorem d_rm_floor_12 : decode prog_11_method_4_code 12 = .ok (.getfield 26, 3) := by decide +kernel
theorem d_rm_floor_15 : decode prog_11_method_4_code 15 = .ok (.areturn, 1) := by decide +kernel
set_option maxHeartbeats 4000000 in
theorem ef_rm_floor (m : MethodId) (x0 : Addr)  : entryFrame m #[(.ref x0)] 1 = mkF m 0 #[.val (.ref x0)] [] := by first | (simp [entryFrame, mkF, argsToLocals, catR, catN, catI, catJ]; done) | rfl
set_option maxRecDepth 65536 in
set_option maxHeartbeats 40000000 in
theorem rm_floor (l : Launch) (Z : State) (a0 : Array Value) (hw : ∀ d ∈ tables_1, d.before a0 Z = true) (ws : List Jvm.Cond) (ax : Addr) (lo : Option OwnC) (fo wo : Option Int64) (hd : Int32) (h0 : Heap) (n0 : Nat) (Z0 : n0 ≤ h0.size) (S0 : CarS Z h0 ax lo fo hd) (hwo : wo = if hd = 0 then fo else none) :
    Pays l Z (⟨"com/example/dead_letter_replay/deadletterreplay/queue/Carries", "floor", "()Ljava/lang/Long;"⟩ : MethodName) prog_11_method_4_code 1 (some (.object "java/lang/Long")) ws ({ frames := 0, cells := 0, slots := 0, locals := 0 } : Room) #[(.ref ax)] h0 (fun v h L => ∃ w, v = some w ∧ Fr n0 L ∧ h = h0 ∧ LongV Z h0 w wo) := by
  refine Pays.of (plainFor_of_name (by first | (simp [plainName, overriddenIn]; done) | decide +kernel)) ?_
  intro p e s m below meth c s₁ hx hby hml hown hnm hret hlk hZ e0 X0
  have N0 := Fr.nil n0
  have K0 : Keep h0 h0 [] := Keep.refl _ _
  refine Goes.go (U' := (s₁.setTop (mkF m 0 #[sR_ ax] []))) (fun t kt => castTop (ef_rm_floor m ax) kt) ?_
  obtain ⟨sv_1, rv_1, lv_1, fv_1, Ea_1, Fs_1, Fl_1, Fr_1, Ff_1, Fh_1, Lc_1, Lf_1⟩ := S0
  refine Goes.go (U' := (s₁.setTop (mkF m 1 #[sR_ ax] [(.ref ax)]))) (fun t kt => ?_) ?_
  · skip
    refine XS.aloadN X0.here hx rfl (hb hby d_rm_floor_0) rfl rfl ?_
    exact kt
  obtain ⟨T_2, X_2, e_2, st_2⟩ := getF X0 hx hZ hown (host := "") (Or.inl (wdOf hw 14 rfl)) Via.refl e0 Fh_1 (g := (mkF m 1 #[sR_ ax] [(.ref ax)])) rfl rfl (hb hby d_rm_floor_1)
  refine Goes.go (U' := (T_2.setTop (mkF m 4 #[sR_ ax] [(.int hd)]))) st_2 ?_
  by_cases ch : hd = 0
  · -- hd = 0
    refine Goes.go (U' := (T_2.setTop (mkF m 12 #[sR_ ax] [(.ref ax)]))) (fun t kt => ?_) ?_
    · skip
      refine XS.ifYes X_2.here hx rfl (pc0 := 4) (pc' := 11) rfl (hb hby d_rm_floor_4) rfl (XT.i0_eq_t ch) (by decide) (by decide) ?_
      refine XS.aloadN X_2.here hx rfl (hb hby d_rm_floor_11) rfl rfl ?_
      exact kt
    obtain ⟨T_3, X_3, e_3, st_3⟩ := getF X_2 hx hZ hown (host := "") (Or.inl (wdOf hw 16 rfl)) Via.refl e_2 Ff_1 (g := (mkF m 12 #[sR_ ax] [(.ref ax)])) rfl rfl (hb hby d_rm_floor_12)
    refine Goes.go (U' := (T_3.setTop (mkF m 15 #[sR_ ax] [fv_1]))) st_3 ?_
    refine Goes.retA X_3 hx hlk hret rfl Lf_1.isRef (hb hby d_rm_floor_15) (by decide) (by decide) ?_
    try rw [e_3]
    exact ⟨_, rfl, N0, rfl, by rw [hwo, if_pos ch]; exact Lf_1⟩
  · -- not hd = 0
    refine Goes.go (U' := (T_2.setTop (mkF m 15 #[sR_ ax] [.null]))) (fun t kt => ?_) ?_
    · skip
      refine XS.ifNo X_2.here hx rfl (hb hby d_rm_floor_4) rfl (XT.i0_eq_f ch) ?_
      refine XS.aconstNull X_2.here hx rfl (hb hby d_rm_floor_7) ?_
      refine XS.goto X_2.here hx rfl (pc0 := 8) (pc' := 15) rfl (hb hby d_rm_floor_8) (by decide) (by decide) ?_
      exact kt
    refine Goes.retA X_2 hx hlk hret rfl rfl (hb hby d_rm_floor_15) (by decide) (by decide) ?_
    try rw [e_2]
    exact ⟨_, rfl, N0, rfl, by rw [hwo, if_neg ch]; exact rfl⟩
theorem d_rm_cb_0 : decode prog_11_method_7_code 0 = .ok (.aload_n 0, 1) := by decide +kernel
theorem d_rm_cb_1 : decode prog_11_method_7_code 1 = .ok (.getfield 30, 3) := by decide +kernel
theorem d_rm_cb_4 : decode prog_11_method_7_code 4 = .ok (.ifnonnull 13, 3) := by decide +kernel
theorem d_rm_cb_7 : decode prog_11_method_7_code 7 = .ok (.aload_n 0, 1) := by decide +kernel
theorem d_rm_cb_8 : decode prog_11_method_7_code 8 = .ok (.getfield 19, 3) := by decide +kernel
theorem d_rm_cb_11 : decode prog_11_method_7_code 11 = .ok (.aload_n 0, 1) := by decide +kernel
theorem d_rm_cb_12 : decode prog_11_method_7_code 12 = .ok (.getfield 7, 3) := by decide +kernel
theorem d_rm_cb_15 : decode prog_11_method_7_code 15 = .ok (.iadd, 1) := by decide +kernel
theorem d_rm_cb_16 : decode prog_11_method_7_code 16 = .ok (.ireturn, 1) := by decide +kernel
theorem d_rm_cb_17 : decode prog_11_method_7_code 17 = .ok (.aload_n 1, 1) := by decide +kernel
theorem d_rm_cb_18 : decode prog_11_method_7_code 18 = .ok (.invokevirtual 50, 3) := by decide +kernel
theorem d_rm_cb_21 : decode prog_11_method_7_code 21 = .ok (.aload_n 0, 1) := by decide +kernel
theorem d_rm_cb_22 : decode prog_11_method_7_code 22 = .ok (.getfield 30, 3) := by decide +kernel
theorem d_rm_cb_25 : decode prog_11_method_7_code 25 = .ok (.invokevirtual 50, 3) := by decide +kernel
theorem d_rm_cb_28 : decode prog_11_method_7_code 28 = .ok (.if_icmp .eq 8, 3) := by decide +kernel
theorem d_rm_cb_31 : decode prog_11_method_7_code 31 = .ok (.aload_n 0, 1) := by decide +kernel
theorem d_rm_cb_32 : decode prog_11_method_7_code 32 = .ok (.getfield 7, 3) := by decide +kernel
theorem d_rm_cb_35 : decode prog_11_method_7_code 35 = .ok (.ireturn, 1) := by decide +kernel
theorem d_rm_cb_36 : decode prog_11_method_7_code 36 = .ok (.aload_n 0, 1) := by decide +kernel
theorem d_rm_cb_37 : decode prog_11_method_7_code 37 = .ok (.getfield 30, 3) := by decide +kernel
theorem d_rm_cb_40 : decode prog_11_method_7_code 40 = .ok (.invokevirtual 38, 3) := by decide +kernel
theorem d_rm_cb_43 : decode prog_11_method_7_code 43 = .ok (.invokestatic 44, 3) := by decide +kernel
theorem d_rm_cb_46 : decode prog_11_method_7_code 46 = .ok (.aload_n 1, 1) := by decide +kernel
theorem d_rm_cb_47 : decode prog_11_method_7_code 47 = .ok (.invokevirtual 57, 3) := by decide +kernel
theorem d_rm_cb_50 : decode prog_11_method_7_code 50 = .ok (.invokevirtual 74, 3) := by decide +kernel
theorem d_rm_cb_53 : decode prog_11_method_7_code 53 = .ok (.ifCond .eq 13, 3) := by decide +kernel
theorem d_rm_cb_56 : decode prog_11_method_7_code 56 = .ok (.aload_n 0, 1) := by decide +kernel
theorem d_rm_cb_57 : decode prog_11_method_7_code 57 = .ok (.iconst 1, 1) := by decide +kernel
theorem d_rm_cb_58 : decode prog_11_method_7_code 58 = .ok (.putfield 22, 3) := by decide +kernel
theorem d_rm_cb_61 : decode prog_11_method_7_code 61 = .ok (.aload_n 0, 1) := by decide +kernel
theorem d_rm_cb_62 : decode prog_11_method_7_code 62 = .ok (.getfield 7, 3) := by decide +kernel
theorem d_rm_cb_65 : decode prog_11_method_7_code 65 = .ok (.ireturn, 1) := by decide +kernel
theorem d_rm_cb_66 : decode prog_11_method_7_code 66 = .ok (.aload_n 0, 1) := by decide +kernel
theorem d_rm_cb_67 : decode prog_11_method_7_code 67 = .ok (.getfield 19, 3) := by decide +kernel
theorem d_rm_cb_70 : decode prog_11_method_7_code 70 = .ok (.aload_n 0, 1) := by decide +kernel
theorem d_rm_cb_71 : decode prog_11_method_7_code 71 = .ok (.getfield 7, 3) := by decide +kernel
theorem d_rm_cb_74 : decode prog_11_method_7_code 74 = .ok (.iadd, 1) := by decide +kernel
theorem d_rm_cb_75 : decode prog_11_method_7_code 75 = .ok (.ireturn, 1) := by decide +kernel
set_option maxHeartbeats 4000000 in
theorem ef_rm_cb (m : MethodId) (x0 : Addr) (x1 : Addr)  : entryFrame m #[(.ref x0), (.ref x1)] 2 = mkF m 0 #[.val (.ref x0), .val (.ref x1)] [] := by first | (simp [entryFrame, mkF, argsToLocals, catR, catN, catI, catJ]; done) | rfl
set_option maxRecDepth 65536 in
set_option maxHeartbeats 40000000 in
theorem rm_cb (l : Launch) (Z : State) (a0 : Array Value) (hw : ∀ d ∈ tables_1, d.before a0 Z = true) (ws : List Jvm.Cond) (ax bx : Addr) (sv rv hd cb : Int32) (lv fv cv : Value) (lo : Option OwnC) (co : Option Int64) (ce ct : Int64) (h0 : Heap) (n0 : Nat) (Z0 : n0 ≤ h0.size) (O : Old Z n0 h0) (BC : BoxC Z "java/lang/Long$LongCache" "[Ljava/lang/Long;" "java/lang/Long" "J" (fun i => .long (i.toInt32 - 128).toInt64)) (o0 : n0 ≤ ax) (E0 : Exa Z h0 ax "com/example/dead_letter_replay/deadletterreplay/queue/Carries") (F0_since : Fld Z h0 ax "com/example/dead_letter_replay/deadletterreplay/queue/Carries" "since" "I" (.int sv)) (F0_last : Fld Z h0 ax "com/example/dead_letter_replay/deadletterreplay/queue/Carries" "last" "Lcom/example/dead_letter_replay/deadletterreplay/queue/Carries$Carried;" lv) (F0_risk : Fld Z h0 ax "com/example/dead_letter_replay/deadletterreplay/queue/Carries" "risk" "I" (.int rv)) (F0_first : Fld Z h0 ax "com/example/dead_letter_replay/deadletterreplay/queue/Carries" "first" "Ljava/lang/Long;" fv) (F0_held : Fld Z h0 ax "com/example/dead_letter_replay/deadletterreplay/queue/Carries" "held" "Z" (.int hd)) (rfv : fv.isRef = true) (Lc : CarV Z h0 lv lo) (Eb : Exa Z h0 bx "com/example/dead_letter_replay/deadletterreplay/queue/Carries$Carried") (Fb_from : Fld Z h0 bx "com/example/dead_letter_replay/deadletterreplay/queue/Carries$Carried" "from" "Ljava/lang/Long;" cv) (Fb_era : Fld Z h0 bx "com/example/dead_letter_replay/deadletterreplay/queue/Carries$Carried" "era" "J" (.long ce)) (Fb_transaction : Fld Z h0 bx "com/example/dead_letter_replay/deadletterreplay/queue/Carries$Carried" "transaction" "J" (.long ct)) (Fb_backend : Fld Z h0 bx "com/example/dead_letter_replay/deadletterreplay/queue/Carries$Carried" "backend" "I" (.int cb)) (Lv : LongV Z h0 cv co) :
    Pays l Z (⟨"com/example/dead_letter_replay/deadletterreplay/queue/Carries", "countedBefore", "(Lcom/example/dead_letter_replay/deadletterreplay/queue/Carries$Carried;)I"⟩ : MethodName) prog_11_method_7_code 2 (some .int) ws ({ frames := 4, cells := 1, slots := 1, locals := 53 } : Room) #[(.ref ax), (.ref bx)] h0 (fun v h L => ∃ hd' z, v = some (.int z) ∧ Fr n0 L ∧ Keep h0 h [ax] ∧ Exa Z h ax "com/example/dead_letter_replay/deadletterreplay/queue/Carries" ∧ Fld Z h ax "com/example/dead_letter_replay/deadletterreplay/queue/Carries" "since" "I" (.int sv) ∧ Fld Z h ax "com/example/dead_letter_replay/deadletterreplay/queue/Carries" "last" "Lcom/example/dead_letter_replay/deadletterreplay/queue/Carries$Carried;" lv ∧ Fld Z h ax "com/example/dead_letter_replay/deadletterreplay/queue/Carries" "risk" "I" (.int rv) ∧ Fld Z h ax "com/example/dead_letter_replay/deadletterreplay/queue/Carries" "first" "Ljava/lang/Long;" fv ∧ Fld Z h ax "com/example/dead_letter_replay/deadletterreplay/queue/Carries" "held" "Z" (.int hd') ∧ (OwnHitB lo (co, ce, ct, cb) → hd' = (1 : Int32)) ∧ (¬ OwnHitB lo (co, ce, ct, cb) → hd' = hd)) := by
  refine Pays.of (plainFor_of_name (by first | (simp [plainName, overriddenIn]; done) | decide +kernel)) ?_
  intro p e s m below meth c s₁ hx hby hml hown hnm hret hlk hZ e0 X0
  have N0 := Fr.nil n0
  have K0 : Keep h0 h0 [ax] := Keep.refl _ _
  refine Goes.go (U' := (s₁.setTop (mkF m 0 #[sR_ ax, sR_ bx] []))) (fun t kt => castTop (ef_rm_cb m ax bx) kt) ?_
  rcases lo with _ | ⟨cf_1, ce_1, ct_1, cb_1⟩
  · -- none
    have ck_1 := Lc
    obtain rfl : lv = Value.null := Lc
    refine Goes.go (U' := (s₁.setTop (mkF m 1 #[sR_ ax, sR_ bx] [(.ref ax)]))) (fun t kt => ?_) ?_
    · skip
      refine XS.aloadN X0.here hx rfl (hb hby d_rm_cb_0) rfl rfl ?_
      exact kt
    obtain ⟨T_2, X_2, e_2, st_2⟩ := getF X0 hx hZ hown (host := "") (Or.inl (wdOf hw 23 rfl)) Via.refl e0 F0_last (g := (mkF m 1 #[sR_ ax, sR_ bx] [(.ref ax)])) rfl rfl (hb hby d_rm_cb_1)
    refine Goes.go (U' := (T_2.setTop (mkF m 4 #[sR_ ax, sR_ bx] [.null]))) st_2 ?_
    refine Goes.go (U' := (T_2.setTop (mkF m 8 #[sR_ ax, sR_ bx] [(.ref ax)]))) (fun t kt => ?_) ?_
    · skip
      refine XS.ifnonnullNo X_2.here hx rfl (hb hby d_rm_cb_4) rfl ?_
      refine XS.aloadN X_2.here hx rfl (hb hby d_rm_cb_7) rfl rfl ?_
      exact kt
    obtain ⟨T_3, X_3, e_3, st_3⟩ := getF X_2 hx hZ hown (host := "") (Or.inl (wdOf hw 25 rfl)) Via.refl e_2 F0_risk (g := (mkF m 8 #[sR_ ax, sR_ bx] [(.ref ax)])) rfl rfl (hb hby d_rm_cb_8)
    refine Goes.go (U' := (T_3.setTop (mkF m 11 #[sR_ ax, sR_ bx] [(.int rv)]))) st_3 ?_
    refine Goes.go (U' := (T_3.setTop (mkF m 12 #[sR_ ax, sR_ bx] [(.ref ax), (.int rv)]))) (fun t kt => ?_) ?_
    · skip
      refine XS.aloadN X_3.here hx rfl (hb hby d_rm_cb_11) rfl rfl ?_
      exact kt
    obtain ⟨T_4, X_4, e_4, st_4⟩ := getF X_3 hx hZ hown (host := "") (Or.inl (wdOf hw 27 rfl)) Via.refl e_3 F0_since (g := (mkF m 12 #[sR_ ax, sR_ bx] [(.ref ax), (.int rv)])) rfl rfl (hb hby d_rm_cb_12)
    refine Goes.go (U' := (T_4.setTop (mkF m 15 #[sR_ ax, sR_ bx] [(.int sv), (.int rv)]))) st_4 ?_
    refine Goes.go (U' := (T_4.setTop (mkF m 16 #[sR_ ax, sR_ bx] [(.int (rv + sv))]))) (fun t kt => ?_) ?_
    · skip
      refine XS.iadd X_4.here hx rfl (hb hby d_rm_cb_15) rfl ?_
      exact kt
    refine Goes.retI X_4 hx hlk hret (hb hby d_rm_cb_16) (by decide) (by decide) ?_
    try rw [e_4]
    exact ⟨_, _, rfl, N0, K0, E0, F0_since, F0_last, F0_risk, F0_first, F0_held, fun q => q.elim, fun _ => rfl⟩
  · -- some
    have ck_1 := Lc
    obtain ⟨cr_1, cv_1, rfl, cE_1, cF_1, cG_1, cH_1, cI_1, cL_1⟩ := Lc
    refine Goes.go (U' := (s₁.setTop (mkF m 1 #[sR_ ax, sR_ bx] [(.ref ax)]))) (fun t kt => ?_) ?_
    · skip
      refine XS.aloadN X0.here hx rfl (hb hby d_rm_cb_0) rfl rfl ?_
      exact kt
    obtain ⟨T_5, X_5, e_5, st_5⟩ := getF X0 hx hZ hown (host := "") (Or.inl (wdOf hw 23 rfl)) Via.refl e0 F0_last (g := (mkF m 1 #[sR_ ax, sR_ bx] [(.ref ax)])) rfl rfl (hb hby d_rm_cb_1)
    refine Goes.go (U' := (T_5.setTop (mkF m 4 #[sR_ ax, sR_ bx] [(.ref cr_1)]))) st_5 ?_
    refine Goes.go (U' := (T_5.setTop (mkF m 18 #[sR_ ax, sR_ bx] [(.ref bx)]))) (fun t kt => ?_) ?_
    · skip
      refine XS.ifnonnullYes X_5.here hx rfl (pc0 := 4) (pc' := 17) rfl (hb hby d_rm_cb_4) rfl (by decide) (by decide) ?_
      refine XS.aloadN X_5.here hx rfl (hb hby d_rm_cb_17) rfl rfl ?_
      exact kt
    obtain ⟨v_6, T_6, L_6, X_6, q_6, st_6⟩ := callVirtual X_5 hx hZ (y := (⟨"com/example/dead_letter_replay/deadletterreplay/queue/Carries$Carried", "backend", "()I"⟩ : MethodName)) (z := (⟨"com/example/dead_letter_replay/deadletterreplay/queue/Carries$Carried", "backend", "()I"⟩ : MethodName)) (W := 0) hown (wdOf hw 104 rfl) (wdOf hw 105 rfl) (notFace_of_selects (args := #[]) (mvT hZ (wdOf hw 107 rfl))) (wdOf hw 107 rfl) (wdOf hw 106 rfl) (wdOf hw 55 rfl) (wdOf hw 108 rfl) (by decide) (rm_bke l Z a0 hw [] bx cb h0 n0 Z0 Fb_backend) (by decide) (by decide) (by decide) (by decide) e_5 Eb (g := (mkF m 18 #[sR_ ax, sR_ bx] [(.ref bx)])) rfl (by rw [hml]; rfl) (argsL := []) (rest := []) (lenOf pd_3 rfl) rfl rfl (Nat.le_refl _) (hb hby d_rm_cb_18)
    obtain ⟨rfl, n_6, K_6⟩ := q_6
    have N_6 := Fr.app N0 n_6
    refine Goes.go (U' := (T_6.setTop (mkF m 21 #[sR_ ax, sR_ bx] [(.int cb)]))) st_6 ?_
    refine Goes.go (U' := (T_6.setTop (mkF m 22 #[sR_ ax, sR_ bx] [(.ref ax), (.int cb)]))) (fun t kt => ?_) ?_
    · skip
      refine XS.aloadN X_6.here hx rfl (hb hby d_rm_cb_21) rfl rfl ?_
      exact kt
    obtain ⟨T_7, X_7, e_7, st_7⟩ := getF X_6 hx hZ hown (host := "") (Or.inl (wdOf hw 23 rfl)) Via.refl K_6 F0_last (g := (mkF m 22 #[sR_ ax, sR_ bx] [(.ref ax), (.int cb)])) rfl rfl (hb hby d_rm_cb_22)
    refine Goes.go (U' := (T_7.setTop (mkF m 25 #[sR_ ax, sR_ bx] [(.ref cr_1), (.int cb)]))) st_7 ?_
    obtain ⟨v_8, T_8, L_8, X_8, q_8, st_8⟩ := callVirtual X_7 hx hZ (y := (⟨"com/example/dead_letter_replay/deadletterreplay/queue/Carries$Carried", "backend", "()I"⟩ : MethodName)) (z := (⟨"com/example/dead_letter_replay/deadletterreplay/queue/Carries$Carried", "backend", "()I"⟩ : MethodName)) (W := 1) hown (wdOf hw 104 rfl) (wdOf hw 105 rfl) (notFace_of_selects (args := #[]) (mvT hZ (wdOf hw 107 rfl))) (wdOf hw 107 rfl) (wdOf hw 106 rfl) (wdOf hw 55 rfl) (wdOf hw 108 rfl) (by decide) (rm_bke l Z a0 hw [] cr_1 cb_1 h0 n0 Z0 cI_1) (by decide) (by decide) (by decide) (by decide) e_7 cE_1 (g := (mkF m 25 #[sR_ ax, sR_ bx] [(.ref cr_1), (.int cb)])) rfl (by rw [hml]; rfl) (argsL := []) (rest := [(.int cb)]) (lenOf pd_3 rfl) rfl rfl (Nat.le_refl _) (hb hby d_rm_cb_25)
    obtain ⟨rfl, n_8, K_8⟩ := q_8
    have N_8 := Fr.app N_6 n_8
    refine Goes.go (U' := (T_8.setTop (mkF m 28 #[sR_ ax, sR_ bx] [(.int cb_1), (.int cb)]))) st_8 ?_
    by_cases cq : cb = cb_1
    · -- cb = cb_1
      refine Goes.go (U' := (T_8.setTop (mkF m 37 #[sR_ ax, sR_ bx] [(.ref ax)]))) (fun t kt => ?_) ?_
      · skip
        refine XS.icmpYes X_8.here hx rfl (pc0 := 28) (pc' := 36) rfl (hb hby d_rm_cb_28) rfl (XT.ii_eq_t cq) (by decide) (by decide) ?_
        refine XS.aloadN X_8.here hx rfl (hb hby d_rm_cb_36) rfl rfl ?_
        exact kt
      obtain ⟨T_9, X_9, e_9, st_9⟩ := getF X_8 hx hZ hown (host := "") (Or.inl (wdOf hw 23 rfl)) Via.refl K_8 F0_last (g := (mkF m 37 #[sR_ ax, sR_ bx] [(.ref ax)])) rfl rfl (hb hby d_rm_cb_37)
      refine Goes.go (U' := (T_9.setTop (mkF m 40 #[sR_ ax, sR_ bx] [(.ref cr_1)]))) st_9 ?_
      obtain ⟨v_10, T_10, L_10, X_10, q_10, st_10⟩ := callVirtual X_9 hx hZ (y := (⟨"com/example/dead_letter_replay/deadletterreplay/queue/Carries$Carried", "era", "()J"⟩ : MethodName)) (z := (⟨"com/example/dead_letter_replay/deadletterreplay/queue/Carries$Carried", "era", "()J"⟩ : MethodName)) (W := 0) hown (wdOf hw 86 rfl) (wdOf hw 87 rfl) (notFace_of_selects (args := #[]) (mvT hZ (wdOf hw 89 rfl))) (wdOf hw 89 rfl) (wdOf hw 88 rfl) (wdOf hw 55 rfl) (wdOf hw 90 rfl) (by decide) (rm_era l Z a0 hw [] cr_1 ce_1 h0 n0 Z0 cG_1) (by decide) (by decide) (by decide) (by decide) e_9 cE_1 (g := (mkF m 40 #[sR_ ax, sR_ bx] [(.ref cr_1)])) rfl (by rw [hml]; rfl) (argsL := []) (rest := []) (lenOf pd_2 rfl) rfl rfl (Nat.le_refl _) (hb hby d_rm_cb_40)
      obtain ⟨rfl, n_10, K_10⟩ := q_10
      have N_10 := Fr.app N_8 n_10
      refine Goes.go (U' := (T_10.setTop (mkF m 43 #[sR_ ax, sR_ bx] [(.long ce_1)]))) st_10 ?_
      obtain ⟨v_11, T_11, L_11, X_11, q_11, st_11⟩ := callStatic X_10 hx hZ (y := (⟨"java/lang/Long", "valueOf", "(J)Ljava/lang/Long;"⟩ : MethodName)) (W := 0) hown (wdOf hw 100 rfl) (wdOf hw 34 rfl) (wdOf hw 35 rfl) (wdOf hw 36 rfl) (by decide) (rm_vo l Z a0 hw [] ce_1 h0 n0 Z0 O BC) (by decide) (by decide) (by decide) (by decide) K_10 (g := (mkF m 43 #[sR_ ax, sR_ bx] [(.long ce_1)])) rfl (by rw [hml]; rfl) (argsL := [(.long ce_1)]) (rest := []) (lenOf pd_4 rfl) rfl rfl (Nat.le_refl _) (hb hby d_rm_cb_43)
      obtain ⟨r_11, rfl, n_11, K_11, Ev_11, Fv_11⟩ := q_11
      have N_11 := Fr.app N_10 n_11
      have f_12 : Exa Z T_11.heap ax "com/example/dead_letter_replay/deadletterreplay/queue/Carries" := E0.ext K_11
      have f_13 : Fld Z T_11.heap ax "com/example/dead_letter_replay/deadletterreplay/queue/Carries" "since" "I" (.int sv) := F0_since.ext K_11
      have f_14 : Fld Z T_11.heap ax "com/example/dead_letter_replay/deadletterreplay/queue/Carries" "last" "Lcom/example/dead_letter_replay/deadletterreplay/queue/Carries$Carried;" (.ref cr_1) := F0_last.ext K_11
      have f_15 : Fld Z T_11.heap ax "com/example/dead_letter_replay/deadletterreplay/queue/Carries" "risk" "I" (.int rv) := F0_risk.ext K_11
      have f_16 : Fld Z T_11.heap ax "com/example/dead_letter_replay/deadletterreplay/queue/Carries" "first" "Ljava/lang/Long;" fv := F0_first.ext K_11
      have f_17 : Fld Z T_11.heap ax "com/example/dead_letter_replay/deadletterreplay/queue/Carries" "held" "Z" (.int hd) := F0_held.ext K_11
      have f_18 : CarV Z T_11.heap (.ref cr_1) (some (cf_1, ce_1, ct_1, cb_1)) := ck_1.ext K_11
      have f_19 : Exa Z T_11.heap bx "com/example/dead_letter_replay/deadletterreplay/queue/Carries$Carried" := Eb.ext K_11
      have f_20 : Fld Z T_11.heap bx "com/example/dead_letter_replay/deadletterreplay/queue/Carries$Carried" "from" "Ljava/lang/Long;" cv := Fb_from.ext K_11
      have f_21 : Fld Z T_11.heap bx "com/example/dead_letter_replay/deadletterreplay/queue/Carries$Carried" "era" "J" (.long ce) := Fb_era.ext K_11
      have f_22 : Fld Z T_11.heap bx "com/example/dead_letter_replay/deadletterreplay/queue/Carries$Carried" "transaction" "J" (.long ct) := Fb_transaction.ext K_11
      have f_23 : Fld Z T_11.heap bx "com/example/dead_letter_replay/deadletterreplay/queue/Carries$Carried" "backend" "I" (.int cb) := Fb_backend.ext K_11
      have f_24 : LongV Z T_11.heap cv co := Lv.ext K_11
      have f_25 : Old Z n0 T_11.heap := O.ext K_11
      have f_26 : Exa Z T_11.heap cr_1 "com/example/dead_letter_replay/deadletterreplay/queue/Carries$Carried" := cE_1.ext K_11
      have f_27 : Fld Z T_11.heap cr_1 "com/example/dead_letter_replay/deadletterreplay/queue/Carries$Carried" "from" "Ljava/lang/Long;" cv_1 := cF_1.ext K_11
      have f_28 : Fld Z T_11.heap cr_1 "com/example/dead_letter_replay/deadletterreplay/queue/Carries$Carried" "era" "J" (.long ce_1) := cG_1.ext K_11
      have f_29 : Fld Z T_11.heap cr_1 "com/example/dead_letter_replay/deadletterreplay/queue/Carries$Carried" "transaction" "J" (.long ct_1) := cH_1.ext K_11
      have f_30 : Fld Z T_11.heap cr_1 "com/example/dead_letter_replay/deadletterreplay/queue/Carries$Carried" "backend" "I" (.int cb_1) := cI_1.ext K_11
      have f_31 : LongV Z T_11.heap cv_1 cf_1 := cL_1.ext K_11
      have K_32 : Keep h0 T_11.heap [ax] := K0.ext K_11
      have y_32 : n0 ≤ T_11.heap.size := Nat.le_trans Z0 K_32.1
      refine Goes.go (U' := (T_11.setTop (mkF m 46 #[sR_ ax, sR_ bx] [(.ref r_11)]))) st_11 ?_
      refine Goes.go (U' := (T_11.setTop (mkF m 47 #[sR_ ax, sR_ bx] [(.ref bx), (.ref r_11)]))) (fun t kt => ?_) ?_
      · skip
        refine XS.aloadN X_11.here hx rfl (hb hby d_rm_cb_46) rfl rfl ?_
        exact kt
      obtain ⟨v_33, T_33, L_33, X_33, q_33, st_33⟩ := callVirtual X_11 hx hZ (y := (⟨"com/example/dead_letter_replay/deadletterreplay/queue/Carries$Carried", "from", "()Ljava/lang/Long;"⟩ : MethodName)) (z := (⟨"com/example/dead_letter_replay/deadletterreplay/queue/Carries$Carried", "from", "()Ljava/lang/Long;"⟩ : MethodName)) (W := 1) hown (wdOf hw 77 rfl) (wdOf hw 78 rfl) (notFace_of_selects (args := #[]) (mvT hZ (wdOf hw 80 rfl))) (wdOf hw 80 rfl) (wdOf hw 79 rfl) (wdOf hw 55 rfl) (wdOf hw 81 rfl) (by decide) (rm_from l Z a0 hw [] bx cv Lv.isRef T_11.heap n0 y_32 f_20) (by decide) (by decide) (by decide) (by decide) (rfl : T_11.heap = T_11.heap) f_19 (g := (mkF m 47 #[sR_ ax, sR_ bx] [(.ref bx), (.ref r_11)])) rfl (by rw [hml]; rfl) (argsL := []) (rest := [(.ref r_11)]) (lenOf pd_5 rfl) rfl rfl (Nat.le_refl _) (hb hby d_rm_cb_47)
      obtain ⟨rfl, n_33, K_33⟩ := q_33
      have N_33 := Fr.app N_11 n_33
      refine Goes.go (U' := (T_33.setTop (mkF m 50 #[sR_ ax, sR_ bx] [cv, (.ref r_11)]))) st_33 ?_
      rcases co with _ | ox_34
      · -- none
        have lk_34 := f_24
        obtain rfl : cv = Value.null := f_24
        obtain ⟨v_35, T_35, L_35, X_35, q_35, st_35⟩ := callVirtual X_33 hx hZ (y := (⟨"java/lang/Long", "equals", "(Ljava/lang/Object;)Z"⟩ : MethodName)) (z := (⟨"java/lang/Long", "equals", "(Ljava/lang/Object;)Z"⟩ : MethodName)) (W := 0) hown (wdOf hw 116 rfl) (wdOf hw 117 rfl) (notFace_of_selects (args := #[]) (mvT hZ (wdOf hw 119 rfl))) (wdOf hw 119 rfl) (wdOf hw 118 rfl) (wdOf hw 35 rfl) (wdOf hw 120 rfl) (by decide) (rm_leqN l Z a0 hw [] r_11 T_11.heap n0 y_32) (by decide) (by decide) (by decide) (by decide) K_33 Ev_11 (g := (mkF m 50 #[sR_ ax, sR_ bx] [.null, (.ref r_11)])) rfl (by rw [hml]; rfl) (argsL := [.null]) (rest := []) (lenOf pd_6 rfl) rfl rfl (Nat.le_refl _) (hb hby d_rm_cb_50)
        obtain ⟨rfl, n_35, K_35⟩ := q_35
        have N_35 := Fr.app N_33 n_35
        refine Goes.go (U' := (T_35.setTop (mkF m 53 #[sR_ ax, sR_ bx] [(.int (0 : Int32))]))) st_35 ?_
        refine Goes.go (U' := (T_35.setTop (mkF m 67 #[sR_ ax, sR_ bx] [(.ref ax)]))) (fun t kt => ?_) ?_
        · skip
          refine XS.ifYes X_35.here hx rfl (pc0 := 53) (pc' := 66) rfl (hb hby d_rm_cb_53) rfl (XT.i0_eq_t (by decide)) (by decide) (by decide) ?_
          refine XS.aloadN X_35.here hx rfl (hb hby d_rm_cb_66) rfl rfl ?_
          exact kt
        obtain ⟨T_36, X_36, e_36, st_36⟩ := getF X_35 hx hZ hown (host := "") (Or.inl (wdOf hw 25 rfl)) Via.refl K_35 f_15 (g := (mkF m 67 #[sR_ ax, sR_ bx] [(.ref ax)])) rfl rfl (hb hby d_rm_cb_67)
        refine Goes.go (U' := (T_36.setTop (mkF m 70 #[sR_ ax, sR_ bx] [(.int rv)]))) st_36 ?_
        refine Goes.go (U' := (T_36.setTop (mkF m 71 #[sR_ ax, sR_ bx] [(.ref ax), (.int rv)]))) (fun t kt => ?_) ?_
        · skip
          refine XS.aloadN X_36.here hx rfl (hb hby d_rm_cb_70) rfl rfl ?_
          exact kt
        obtain ⟨T_37, X_37, e_37, st_37⟩ := getF X_36 hx hZ hown (host := "") (Or.inl (wdOf hw 27 rfl)) Via.refl e_36 f_13 (g := (mkF m 71 #[sR_ ax, sR_ bx] [(.ref ax), (.int rv)])) rfl rfl (hb hby d_rm_cb_71)
        refine Goes.go (U' := (T_37.setTop (mkF m 74 #[sR_ ax, sR_ bx] [(.int sv), (.int rv)]))) st_37 ?_
        refine Goes.go (U' := (T_37.setTop (mkF m 75 #[sR_ ax, sR_ bx] [(.int (rv + sv))]))) (fun t kt => ?_) ?_
        · skip
          refine XS.iadd X_37.here hx rfl (hb hby d_rm_cb_74) rfl ?_
          exact kt
        refine Goes.retI X_37 hx hlk hret (hb hby d_rm_cb_75) (by decide) (by decide) ?_
        try rw [e_37]
        exact ⟨_, _, rfl, N_35, K_32, f_12, f_13, f_14, f_15, f_16, f_17, fun q => (nomatch q.2), fun _ => rfl⟩
      · -- some
        have lk_34 := f_24
        obtain ⟨or_34, rfl, oe_34, of_34⟩ := f_24
        by_cases cz : ce_1 = ox_34
        · -- cz
          obtain ⟨v_38, T_38, L_38, X_38, q_38, st_38⟩ := callVirtual X_33 hx hZ (y := (⟨"java/lang/Long", "equals", "(Ljava/lang/Object;)Z"⟩ : MethodName)) (z := (⟨"java/lang/Long", "equals", "(Ljava/lang/Object;)Z"⟩ : MethodName)) (W := 0) hown (wdOf hw 116 rfl) (wdOf hw 117 rfl) (notFace_of_selects (args := #[]) (mvT hZ (wdOf hw 119 rfl))) (wdOf hw 119 rfl) (wdOf hw 118 rfl) (wdOf hw 35 rfl) (wdOf hw 120 rfl) (by decide) (rm_leq l Z a0 hw [] r_11 or_34 ce_1 ox_34 (1 : Int32) T_11.heap n0 y_32 Fv_11 oe_34 of_34 (by rw [if_pos cz])) (by decide) (by decide) (by decide) (by decide) K_33 Ev_11 (g := (mkF m 50 #[sR_ ax, sR_ bx] [(.ref or_34), (.ref r_11)])) rfl (by rw [hml]; rfl) (argsL := [(.ref or_34)]) (rest := []) (lenOf pd_6 rfl) rfl rfl (Nat.le_refl _) (hb hby d_rm_cb_50)
          obtain ⟨rfl, n_38, K_38⟩ := q_38
          have N_38 := Fr.app N_33 n_38
          refine Goes.go (U' := (T_38.setTop (mkF m 53 #[sR_ ax, sR_ bx] [(.int (1 : Int32))]))) st_38 ?_
          refine Goes.go (U' := (T_38.setTop (mkF m 58 #[sR_ ax, sR_ bx] [(.int (1 : Int32)), (.ref ax)]))) (fun t kt => ?_) ?_
          · skip
            refine XS.ifNo X_38.here hx rfl (hb hby d_rm_cb_53) rfl (XT.i0_eq_f (by decide)) ?_
            refine XS.aloadN X_38.here hx rfl (hb hby d_rm_cb_56) rfl rfl ?_
            refine XS.iconst X_38.here hx rfl (hb hby d_rm_cb_57) ?_
            exact kt
          obtain ⟨T_39, h_39, X_39, e_39, W_39, st_39⟩ := putFN X_38 hx hZ hown (wdOf hw 14 rfl) Via.refl K_38 f_17 f_12 (Or.inl (wdOf hw 15 rfl)) (wdOf hw 1 rfl) (ty := .boolean) (v' := (.int (1 : Int32))) (by decide) rfl rfl (g := (mkF m 58 #[sR_ ax, sR_ bx] [(.int (1 : Int32)), (.ref ax)])) rfl rfl (hb hby d_rm_cb_58)
          have N_39 := Fr.snoc X_39 N_38 o0
          have f_40 : Exa Z h_39 ax "com/example/dead_letter_replay/deadletterreplay/queue/Carries" := f_12.wr W_39
          have f_41 : Fld Z h_39 ax "com/example/dead_letter_replay/deadletterreplay/queue/Carries" "since" "I" (.int sv) := f_13.other W_39 (Or.inr (slot_ne (Or.inl (wdOf hw 28 rfl)) (Or.inl (wdOf hw 15 rfl)) (by decide) (t := .int) (t' := .boolean) (by decide) (by decide)))
          have f_42 : Fld Z h_39 ax "com/example/dead_letter_replay/deadletterreplay/queue/Carries" "last" "Lcom/example/dead_letter_replay/deadletterreplay/queue/Carries$Carried;" (.ref cr_1) := f_14.other W_39 (Or.inr (slot_ne (Or.inl (wdOf hw 24 rfl)) (Or.inl (wdOf hw 15 rfl)) (by decide) (t := (.object "com/example/dead_letter_replay/deadletterreplay/queue/Carries$Carried")) (t' := .boolean) (by decide) (by decide)))
          have f_43 : Fld Z h_39 ax "com/example/dead_letter_replay/deadletterreplay/queue/Carries" "risk" "I" (.int rv) := f_15.other W_39 (Or.inr (slot_ne (Or.inl (wdOf hw 26 rfl)) (Or.inl (wdOf hw 15 rfl)) (by decide) (t := .int) (t' := .boolean) (by decide) (by decide)))
          have f_44 : Fld Z h_39 ax "com/example/dead_letter_replay/deadletterreplay/queue/Carries" "first" "Ljava/lang/Long;" fv := f_16.other W_39 (Or.inr (slot_ne (Or.inl (wdOf hw 17 rfl)) (Or.inl (wdOf hw 15 rfl)) (by decide) (t := (.object "java/lang/Long")) (t' := .boolean) (by decide) (by decide)))
          have f_45 : Fld Z h_39 ax "com/example/dead_letter_replay/deadletterreplay/queue/Carries" "held" "Z" (.int (1 : Int32)) := f_17.same W_39
          have f_46 : CarV Z h_39 (.ref cr_1) (some (cf_1, ce_1, ct_1, cb_1)) := f_18.keepX (Keep.of_wr W_39) f_12 (by decide) (by decide)
          have f_47 : Exa Z h_39 bx "com/example/dead_letter_replay/deadletterreplay/queue/Carries$Carried" := f_19.wr W_39
          have f_48 : Fld Z h_39 bx "com/example/dead_letter_replay/deadletterreplay/queue/Carries$Carried" "from" "Ljava/lang/Long;" (.ref or_34) := f_20.other W_39 (Or.inl (ne_exa f_19 f_12 (by decide)))
          have f_49 : Fld Z h_39 bx "com/example/dead_letter_replay/deadletterreplay/queue/Carries$Carried" "era" "J" (.long ce) := f_21.other W_39 (Or.inl (ne_exa f_19 f_12 (by decide)))
          have f_50 : Fld Z h_39 bx "com/example/dead_letter_replay/deadletterreplay/queue/Carries$Carried" "transaction" "J" (.long ct) := f_22.other W_39 (Or.inl (ne_exa f_19 f_12 (by decide)))
          have f_51 : Fld Z h_39 bx "com/example/dead_letter_replay/deadletterreplay/queue/Carries$Carried" "backend" "I" (.int cb) := f_23.other W_39 (Or.inl (ne_exa f_19 f_12 (by decide)))
          have f_52 : LongV Z h_39 (.ref or_34) (some ox_34) := lk_34.keepX (Keep.of_wr W_39) f_12 (by decide)
          have f_53 : Old Z n0 h_39 := f_25.wr W_39 o0
          have f_54 : Exa Z h_39 cr_1 "com/example/dead_letter_replay/deadletterreplay/queue/Carries$Carried" := f_26.wr W_39
          have f_55 : Fld Z h_39 cr_1 "com/example/dead_letter_replay/deadletterreplay/queue/Carries$Carried" "from" "Ljava/lang/Long;" cv_1 := f_27.other W_39 (Or.inl (ne_exa f_26 f_12 (by decide)))
          have f_56 : Fld Z h_39 cr_1 "com/example/dead_letter_replay/deadletterreplay/queue/Carries$Carried" "era" "J" (.long ce_1) := f_28.other W_39 (Or.inl (ne_exa f_26 f_12 (by decide)))
          have f_57 : Fld Z h_39 cr_1 "com/example/dead_letter_replay/deadletterreplay/queue/Carries$Carried" "transaction" "J" (.long ct_1) := f_29.other W_39 (Or.inl (ne_exa f_26 f_12 (by decide)))
          have f_58 : Fld Z h_39 cr_1 "com/example/dead_letter_replay/deadletterreplay/queue/Carries$Carried" "backend" "I" (.int cb_1) := f_30.other W_39 (Or.inl (ne_exa f_26 f_12 (by decide)))
          have f_59 : LongV Z h_39 cv_1 cf_1 := f_31.keepX (Keep.of_wr W_39) f_12 (by decide)
          have f_60 : Exa Z h_39 r_11 "java/lang/Long" := Ev_11.wr W_39
          have f_61 : Fld Z h_39 r_11 "java/lang/Long" "value" "J" (.long ce_1) := Fv_11.other W_39 (Or.inl (ne_exa Ev_11 f_12 (by decide)))
          have f_62 : Exa Z h_39 or_34 "java/lang/Long" := oe_34.wr W_39
          have f_63 : Fld Z h_39 or_34 "java/lang/Long" "value" "J" (.long ox_34) := of_34.other W_39 (Or.inl (ne_exa oe_34 f_12 (by decide)))
          have K_64 : Keep h0 h_39 [ax] := K_32.wr W_39 (Or.inl (List.mem_of_getElem? (i := 0) rfl))
          have y_64 : n0 ≤ h_39.size := Nat.le_trans Z0 K_64.1
          refine Goes.go (U' := (T_39.setTop (mkF m 61 #[sR_ ax, sR_ bx] []))) st_39 ?_
          refine Goes.go (U' := (T_39.setTop (mkF m 62 #[sR_ ax, sR_ bx] [(.ref ax)]))) (fun t kt => ?_) ?_
          · skip
            refine XS.aloadN X_39.here hx rfl (hb hby d_rm_cb_61) rfl rfl ?_
            exact kt
          obtain ⟨T_65, X_65, e_65, st_65⟩ := getF X_39 hx hZ hown (host := "") (Or.inl (wdOf hw 27 rfl)) Via.refl e_39 f_41 (g := (mkF m 62 #[sR_ ax, sR_ bx] [(.ref ax)])) rfl rfl (hb hby d_rm_cb_62)
          refine Goes.go (U' := (T_65.setTop (mkF m 65 #[sR_ ax, sR_ bx] [(.int sv)]))) st_65 ?_
          refine Goes.retI X_65 hx hlk hret (hb hby d_rm_cb_65) (by decide) (by decide) ?_
          try rw [e_65]
          exact ⟨_, _, rfl, N_39, K_64, f_40, f_41, f_42, f_43, f_44, f_45, fun _ => rfl, fun q => absurd ⟨cq, by rw [cz]⟩ q⟩
        · -- cz
          obtain ⟨v_66, T_66, L_66, X_66, q_66, st_66⟩ := callVirtual X_33 hx hZ (y := (⟨"java/lang/Long", "equals", "(Ljava/lang/Object;)Z"⟩ : MethodName)) (z := (⟨"java/lang/Long", "equals", "(Ljava/lang/Object;)Z"⟩ : MethodName)) (W := 0) hown (wdOf hw 116 rfl) (wdOf hw 117 rfl) (notFace_of_selects (args := #[]) (mvT hZ (wdOf hw 119 rfl))) (wdOf hw 119 rfl) (wdOf hw 118 rfl) (wdOf hw 35 rfl) (wdOf hw 120 rfl) (by decide) (rm_leq l Z a0 hw [] r_11 or_34 ce_1 ox_34 (0 : Int32) T_11.heap n0 y_32 Fv_11 oe_34 of_34 (by rw [if_neg cz])) (by decide) (by decide) (by decide) (by decide) K_33 Ev_11 (g := (mkF m 50 #[sR_ ax, sR_ bx] [(.ref or_34), (.ref r_11)])) rfl (by rw [hml]; rfl) (argsL := [(.ref or_34)]) (rest := []) (lenOf pd_6 rfl) rfl rfl (Nat.le_refl _) (hb hby d_rm_cb_50)
          obtain ⟨rfl, n_66, K_66⟩ := q_66
          have N_66 := Fr.app N_33 n_66
          refine Goes.go (U' := (T_66.setTop (mkF m 53 #[sR_ ax, sR_ bx] [(.int (0 : Int32))]))) st_66 ?_
          refine Goes.go (U' := (T_66.setTop (mkF m 67 #[sR_ ax, sR_ bx] [(.ref ax)]))) (fun t kt => ?_) ?_
          · skip
            refine XS.ifYes X_66.here hx rfl (pc0 := 53) (pc' := 66) rfl (hb hby d_rm_cb_53) rfl (XT.i0_eq_t (by decide)) (by decide) (by decide) ?_
            refine XS.aloadN X_66.here hx rfl (hb hby d_rm_cb_66) rfl rfl ?_
            exact kt
          obtain ⟨T_67, X_67, e_67, st_67⟩ := getF X_66 hx hZ hown (host := "") (Or.inl (wdOf hw 25 rfl)) Via.refl K_66 f_15 (g := (mkF m 67 #[sR_ ax, sR_ bx] [(.ref ax)])) rfl rfl (hb hby d_rm_cb_67)
          refine Goes.go (U' := (T_67.setTop (mkF m 70 #[sR_ ax, sR_ bx] [(.int rv)]))) st_67 ?_
          refine Goes.go (U' := (T_67.setTop (mkF m 71 #[sR_ ax, sR_ bx] [(.ref ax), (.int rv)]))) (fun t kt => ?_) ?_
          · skip
            refine XS.aloadN X_67.here hx rfl (hb hby d_rm_cb_70) rfl rfl ?_
            exact kt
          obtain ⟨T_68, X_68, e_68, st_68⟩ := getF X_67 hx hZ hown (host := "") (Or.inl (wdOf hw 27 rfl)) Via.refl e_67 f_13 (g := (mkF m 71 #[sR_ ax, sR_ bx] [(.ref ax), (.int rv)])) rfl rfl (hb hby d_rm_cb_71)
          refine Goes.go (U' := (T_68.setTop (mkF m 74 #[sR_ ax, sR_ bx] [(.int sv), (.int rv)]))) st_68 ?_
          refine Goes.go (U' := (T_68.setTop (mkF m 75 #[sR_ ax, sR_ bx] [(.int (rv + sv))]))) (fun t kt => ?_) ?_
          · skip
            refine XS.iadd X_68.here hx rfl (hb hby d_rm_cb_74) rfl ?_
            exact kt
          refine Goes.retI X_68 hx hlk hret (hb hby d_rm_cb_75) (by decide) (by decide) ?_
          try rw [e_68]
          exact ⟨_, _, rfl, N_66, K_32, f_12, f_13, f_14, f_15, f_16, f_17, fun q => absurd (Option.some.inj q.2).symm cz, fun _ => rfl⟩
    · -- not cb = cb_1
      refine Goes.go (U' := (T_8.setTop (mkF m 32 #[sR_ ax, sR_ bx] [(.ref ax)]))) (fun t kt => ?_) ?_
      · skip
        refine XS.icmpNo X_8.here hx rfl (hb hby d_rm_cb_28) rfl (XT.ii_eq_f cq) ?_
        refine XS.aloadN X_8.here hx rfl (hb hby d_rm_cb_31) rfl rfl ?_
        exact kt
      obtain ⟨T_69, X_69, e_69, st_69⟩ := getF X_8 hx hZ hown (host := "") (Or.inl (wdOf hw 27 rfl)) Via.refl K_8 F0_since (g := (mkF m 32 #[sR_ ax, sR_ bx] [(.ref ax)])) rfl rfl (hb hby d_rm_cb_32)
      refine Goes.go (U' := (T_69.setTop (mkF m 35 #[sR_ ax, sR_ bx] [(.int sv)]))) st_69 ?_
      refine Goes.retI X_69 hx hlk hret (hb hby d_rm_cb_35) (by decide) (by decide) ?_
      try rw [e_69]
      exact ⟨_, _, rfl, N_8, K0, E0, F0_since, F0_last, F0_risk, F0_first, F0_held, fun q => absurd q.1 cq, fun _ => rfl⟩
theorem d_rm_lu_0 : decode prog_11_method_6_code 0 = .ok (.aload_n 0, 1) := by decide +kernel
theorem d_rm_lu_1 : decode prog_11_method_6_code 1 = .ok (.getfield 30, 3) := by decide +kernel
theorem d_rm_lu_4 : decode prog_11_method_6_code 4 = .ok (.ifnull 37, 3) := by decide +kernel
theorem d_rm_lu_7 : decode prog_11_method_6_code 7 = .ok (.aload_n 1, 1) := by decide +kernel
theorem d_rm_lu_8 : decode prog_11_method_6_code 8 = .ok (.invokevirtual 50, 3) := by decide +kernel
theorem d_rm_lu_11 : decode prog_11_method_6_code 11 = .ok (.aload_n 0, 1) := by decide +kernel
theorem d_rm_lu_12 : decode prog_11_method_6_code 12 = .ok (.getfield 30, 3) := by decide +kernel
theorem d_rm_lu_15 : decode prog_11_method_6_code 15 = .ok (.invokevirtual 50, 3) := by decide +kernel
theorem d_rm_lu_18 : decode prog_11_method_6_code 18 = .ok (.if_icmp .ne 23, 3) := by decide +kernel
theorem d_rm_lu_21 : decode prog_11_method_6_code 21 = .ok (.aload_n 1, 1) := by decide +kernel
theorem d_rm_lu_22 : decode prog_11_method_6_code 22 = .ok (.invokevirtual 54, 3) := by decide +kernel
theorem d_rm_lu_25 : decode prog_11_method_6_code 25 = .ok (.aload_n 0, 1) := by decide +kernel
theorem d_rm_lu_26 : decode prog_11_method_6_code 26 = .ok (.getfield 30, 3) := by decide +kernel
theorem d_rm_lu_29 : decode prog_11_method_6_code 29 = .ok (.invokevirtual 54, 3) := by decide +kernel
theorem d_rm_lu_32 : decode prog_11_method_6_code 32 = .ok (.lcmp, 1) := by decide +kernel
theorem d_rm_lu_33 : decode prog_11_method_6_code 33 = .ok (.ifCond .ne 8, 3) := by decide +kernel
theorem d_rm_lu_36 : decode prog_11_method_6_code 36 = .ok (.aload_n 0, 1) := by decide +kernel
theorem d_rm_lu_37 : decode prog_11_method_6_code 37 = .ok (.getfield 19, 3) := by decide +kernel
theorem d_rm_lu_40 : decode prog_11_method_6_code 40 = .ok (.ireturn, 1) := by decide +kernel
theorem d_rm_lu_41 : decode prog_11_method_6_code 41 = .ok (.aload_n 1, 1) := by decide +kernel
theorem d_rm_lu_42 : decode prog_11_method_6_code 42 = .ok (.invokevirtual 57, 3) := by decide +kernel
theorem d_rm_lu_45 : decode prog_11_method_6_code 45 = .ok (.ifnull 10, 3) := by decide +kernel
theorem d_rm_lu_48 : decode prog_11_method_6_code 48 = .ok (.aload_n 1, 1) := by decide +kernel
theorem d_rm_lu_49 : decode prog_11_method_6_code 49 = .ok (.invokevirtual 57, 3) := by decide +kernel
theorem d_rm_lu_52 : decode prog_11_method_6_code 52 = .ok (.goto 7, 3) := by decide +kernel
theorem d_rm_lu_55 : decode prog_11_method_6_code 55 = .ok (.aload_n 0, 1) := by decide +kernel
theorem d_rm_lu_56 : decode prog_11_method_6_code 56 = .ok (.invokevirtual 61, 3) := by decide +kernel
theorem d_rm_lu_59 : decode prog_11_method_6_code 59 = .ok (.astore_n 2, 1) := by decide +kernel
theorem d_rm_lu_60 : decode prog_11_method_6_code 60 = .ok (.aload_n 0, 1) := by decide +kernel
theorem d_rm_lu_61 : decode prog_11_method_6_code 61 = .ok (.aload_n 1, 1) := by decide +kernel
theorem d_rm_lu_62 : decode prog_11_method_6_code 62 = .ok (.invokevirtual 64, 3) := by decide +kernel
theorem d_rm_lu_65 : decode prog_11_method_6_code 65 = .ok (.istore_n 3, 1) := by decide +kernel
theorem d_rm_lu_66 : decode prog_11_method_6_code 66 = .ok (.aload_n 2, 1) := by decide +kernel
theorem d_rm_lu_67 : decode prog_11_method_6_code 67 = .ok (.ifnonnull 7, 3) := by decide +kernel
theorem d_rm_lu_70 : decode prog_11_method_6_code 70 = .ok (.iload_n 3, 1) := by decide +kernel
theorem d_rm_lu_71 : decode prog_11_method_6_code 71 = .ok (.goto 20, 3) := by decide +kernel
theorem d_rm_lu_74 : decode prog_11_method_6_code 74 = .ok (.iload_n 3, 1) := by decide +kernel
theorem d_rm_lu_75 : decode prog_11_method_6_code 75 = .ok (.i2l, 1) := by decide +kernel
theorem d_rm_lu_76 : decode prog_11_method_6_code 76 = .ok (.aload_n 1, 1) := by decide +kernel
theorem d_rm_lu_77 : decode prog_11_method_6_code 77 = .ok (.invokevirtual 38, 3) := by decide +kernel
theorem d_rm_lu_80 : decode prog_11_method_6_code 80 = .ok (.aload_n 2, 1) := by decide +kernel
theorem d_rm_lu_81 : decode prog_11_method_6_code 81 = .ok (.invokevirtual 67, 3) := by decide +kernel
theorem d_rm_lu_84 : decode prog_11_method_6_code 84 = .ok (.lsub, 1) := by decide +kernel
theorem d_rm_lu_85 : decode prog_11_method_6_code 85 = .ok (.lconst 1, 1) := by decide +kernel
theorem d_rm_lu_86 : decode prog_11_method_6_code 86 = .ok (.ladd, 1) := by decide +kernel
theorem d_rm_lu_87 : decode prog_11_method_6_code 87 = .ok (.invokestatic 70, 3) := by decide +kernel
theorem d_rm_lu_90 : decode prog_11_method_6_code 90 = .ok (.l2i, 1) := by decide +kernel
theorem d_rm_lu_91 : decode prog_11_method_6_code 91 = .ok (.ireturn, 1) := by decide +kernel
set_option maxHeartbeats 4000000 in
theorem ef_rm_lu (m : MethodId) (x0 : Addr) (x1 : Addr)  : entryFrame m #[(.ref x0), (.ref x1)] 4 = mkF m 0 #[.val (.ref x0), .val (.ref x1), .unset, .unset] [] := by first | (simp [entryFrame, mkF, argsToLocals, catR, catN, catI, catJ]; done) | rfl
set_option maxRecDepth 65536 in
set_option maxHeartbeats 40000000 in
theorem rm_lu (l : Launch) (Z : State) (a0 : Array Value) (hw : ∀ d ∈ tables_1, d.before a0 Z = true) (ws : List Jvm.Cond) (ax bx : Addr) (sv rv hd cb : Int32) (lv fv cv : Value) (lo : Option OwnC) (co fo : Option Int64) (ce ct : Int64) (h0 : Heap) (n0 : Nat) (Z0 : n0 ≤ h0.size) (O : Old Z n0 h0) (BC : BoxC Z "java/lang/Long$LongCache" "[Ljava/lang/Long;" "java/lang/Long" "J" (fun i => .long (i.toInt32 - 128).toInt64)) (o0 : n0 ≤ ax) (E0 : Exa Z h0 ax "com/example/dead_letter_replay/deadletterreplay/queue/Carries") (F0_since : Fld Z h0 ax "com/example/dead_letter_replay/deadletterreplay/queue/Carries" "since" "I" (.int sv)) (F0_last : Fld Z h0 ax "com/example/dead_letter_replay/deadletterreplay/queue/Carries" "last" "Lcom/example/dead_letter_replay/deadletterreplay/queue/Carries$Carried;" lv) (F0_risk : Fld Z h0 ax "com/example/dead_letter_replay/deadletterreplay/queue/Carries" "risk" "I" (.int rv)) (F0_first : Fld Z h0 ax "com/example/dead_letter_replay/deadletterreplay/queue/Carries" "first" "Ljava/lang/Long;" fv) (F0_held : Fld Z h0 ax "com/example/dead_letter_replay/deadletterreplay/queue/Carries" "held" "Z" (.int hd)) (Lc : CarV Z h0 lv lo) (Lf : LongV Z h0 fv fo) (Eb : Exa Z h0 bx "com/example/dead_letter_replay/deadletterreplay/queue/Carries$Carried") (Fb_from : Fld Z h0 bx "com/example/dead_letter_replay/deadletterreplay/queue/Carries$Carried" "from" "Ljava/lang/Long;" cv) (Fb_era : Fld Z h0 bx "com/example/dead_letter_replay/deadletterreplay/queue/Carries$Carried" "era" "J" (.long ce)) (Fb_transaction : Fld Z h0 bx "com/example/dead_letter_replay/deadletterreplay/queue/Carries$Carried" "transaction" "J" (.long ct)) (Fb_backend : Fld Z h0 bx "com/example/dead_letter_replay/deadletterreplay/queue/Carries$Carried" "backend" "I" (.int cb)) (Lv : LongV Z h0 cv co) :
    Pays l Z (⟨"com/example/dead_letter_replay/deadletterreplay/queue/Carries", "leftIfUndone", "(Lcom/example/dead_letter_replay/deadletterreplay/queue/Carries$Carried;)I"⟩ : MethodName) prog_11_method_6_code 4 (some .int) ws ({ frames := 5, cells := 1, slots := 1, locals := 66 } : Room) #[(.ref ax), (.ref bx)] h0 (fun v h L => ∃ hd' z, v = some (.int z) ∧ Fr n0 L ∧ Keep h0 h [ax] ∧ Exa Z h ax "com/example/dead_letter_replay/deadletterreplay/queue/Carries" ∧ Fld Z h ax "com/example/dead_letter_replay/deadletterreplay/queue/Carries" "since" "I" (.int sv) ∧ Fld Z h ax "com/example/dead_letter_replay/deadletterreplay/queue/Carries" "last" "Lcom/example/dead_letter_replay/deadletterreplay/queue/Carries$Carried;" lv ∧ Fld Z h ax "com/example/dead_letter_replay/deadletterreplay/queue/Carries" "risk" "I" (.int rv) ∧ Fld Z h ax "com/example/dead_letter_replay/deadletterreplay/queue/Carries" "first" "Ljava/lang/Long;" fv ∧ Fld Z h ax "com/example/dead_letter_replay/deadletterreplay/queue/Carries" "held" "Z" (.int hd') ∧ (OwnHit lo (co, ce, ct, cb) → hd' = (1 : Int32)) ∧ (¬ OwnHit lo (co, ce, ct, cb) → hd' = hd)) := by
  refine Pays.of (plainFor_of_name (by first | (simp [plainName, overriddenIn]; done) | decide +kernel)) ?_
  intro p e s m below meth c s₁ hx hby hml hown hnm hret hlk hZ e0 X0
  have N0 := Fr.nil n0
  have K0 : Keep h0 h0 [ax] := Keep.refl _ _
  refine Goes.go (U' := (s₁.setTop (mkF m 0 #[sR_ ax, sR_ bx, sU_, sU_] []))) (fun t kt => castTop (ef_rm_lu m ax bx) kt) ?_
  rcases lo with _ | ⟨cf_1, ce_1, ct_1, cb_1⟩
  · -- none
    have ck_1 := Lc
    obtain rfl : lv = Value.null := Lc
    refine Goes.go (U' := (s₁.setTop (mkF m 1 #[sR_ ax, sR_ bx, sU_, sU_] [(.ref ax)]))) (fun t kt => ?_) ?_
    · skip
      refine XS.aloadN X0.here hx rfl (hb hby d_rm_lu_0) rfl rfl ?_
      exact kt
    obtain ⟨T_2, X_2, e_2, st_2⟩ := getF X0 hx hZ hown (host := "") (Or.inl (wdOf hw 23 rfl)) Via.refl e0 F0_last (g := (mkF m 1 #[sR_ ax, sR_ bx, sU_, sU_] [(.ref ax)])) rfl rfl (hb hby d_rm_lu_1)
    refine Goes.go (U' := (T_2.setTop (mkF m 4 #[sR_ ax, sR_ bx, sU_, sU_] [.null]))) st_2 ?_
    refine Goes.go (U' := (T_2.setTop (mkF m 42 #[sR_ ax, sR_ bx, sU_, sU_] [(.ref bx)]))) (fun t kt => ?_) ?_
    · skip
      refine XS.ifnullYes X_2.here hx rfl (pc0 := 4) (pc' := 41) rfl (hb hby d_rm_lu_4) rfl (by decide) (by decide) ?_
      refine XS.aloadN X_2.here hx rfl (hb hby d_rm_lu_41) rfl rfl ?_
      exact kt
    obtain ⟨v_3, T_3, L_3, X_3, q_3, st_3⟩ := callVirtual X_2 hx hZ (y := (⟨"com/example/dead_letter_replay/deadletterreplay/queue/Carries$Carried", "from", "()Ljava/lang/Long;"⟩ : MethodName)) (z := (⟨"com/example/dead_letter_replay/deadletterreplay/queue/Carries$Carried", "from", "()Ljava/lang/Long;"⟩ : MethodName)) (W := 0) hown (wdOf hw 77 rfl) (wdOf hw 78 rfl) (notFace_of_selects (args := #[]) (mvT hZ (wdOf hw 80 rfl))) (wdOf hw 80 rfl) (wdOf hw 79 rfl) (wdOf hw 55 rfl) (wdOf hw 81 rfl) (by decide) (rm_from l Z a0 hw [] bx cv Lv.isRef h0 n0 Z0 Fb_from) (by decide) (by decide) (by decide) (by decide) e_2 Eb (g := (mkF m 42 #[sR_ ax, sR_ bx, sU_, sU_] [(.ref bx)])) rfl (by rw [hml]; rfl) (argsL := []) (rest := []) (lenOf pd_5 rfl) rfl rfl (Nat.le_refl _) (hb hby d_rm_lu_42)
    obtain ⟨rfl, n_3, K_3⟩ := q_3
    have N_3 := Fr.app N0 n_3
    refine Goes.go (U' := (T_3.setTop (mkF m 45 #[sR_ ax, sR_ bx, sU_, sU_] [cv]))) st_3 ?_
    rcases co with _ | ox_4
    · -- none
      have lk_4 := Lv
      obtain rfl : cv = Value.null := Lv
      by_cases ch : hd = 0
      · -- held
        refine Goes.go (U' := (T_3.setTop (mkF m 56 #[sR_ ax, sR_ bx, sU_, sU_] [(.ref ax)]))) (fun t kt => ?_) ?_
        · skip
          refine XS.ifnullYes X_3.here hx rfl (pc0 := 45) (pc' := 55) rfl (hb hby d_rm_lu_45) rfl (by decide) (by decide) ?_
          refine XS.aloadN X_3.here hx rfl (hb hby d_rm_lu_55) rfl rfl ?_
          exact kt
        rcases fo with _ | ox_5
        · -- none
          have lk_5 := Lf
          obtain rfl : fv = Value.null := Lf
          obtain ⟨v_6, T_6, L_6, X_6, q_6, st_6⟩ := callVirtual X_3 hx hZ (y := (⟨"com/example/dead_letter_replay/deadletterreplay/queue/Carries", "floor", "()Ljava/lang/Long;"⟩ : MethodName)) (z := (⟨"com/example/dead_letter_replay/deadletterreplay/queue/Carries", "floor", "()Ljava/lang/Long;"⟩ : MethodName)) (W := 0) hown (wdOf hw 103 rfl) (wdOf hw 10 rfl) (notFace_of_selects (args := #[]) (mvT hZ (wdOf hw 12 rfl))) (wdOf hw 12 rfl) (wdOf hw 11 rfl) (wdOf hw 2 rfl) (wdOf hw 13 rfl) (by decide) (rm_floor l Z a0 hw [] ax none none none hd h0 n0 Z0 ⟨_, _, _, _, E0, F0_since, F0_last, F0_risk, F0_first, F0_held, ck_1, lk_5⟩ (by rw [if_pos ch])) (by decide) (by decide) (by decide) (by decide) K_3 E0 (g := (mkF m 56 #[sR_ ax, sR_ bx, sU_, sU_] [(.ref ax)])) rfl (by rw [hml]; rfl) (argsL := []) (rest := []) (lenOf pd_5 rfl) rfl rfl (Nat.le_refl _) (hb hby d_rm_lu_56)
          obtain ⟨ow_6, q_6⟩ := q_6
          obtain ⟨rfl, q_6⟩ := q_6
          have q_6 := And.intro (rfl : (0 : Nat) = 0) q_6
          obtain ⟨u_6, n_6, K_6, W_6⟩ := q_6
          obtain rfl : ow_6 = Value.null := W_6
          have N_6 := Fr.app N_3 n_6
          refine Goes.go (U' := (T_6.setTop (mkF m 59 #[sR_ ax, sR_ bx, sU_, sU_] [.null]))) st_6 ?_
          refine Goes.go (U' := (T_6.setTop (mkF m 62 #[sR_ ax, sR_ bx, .val .null, sU_] [(.ref bx), (.ref ax)]))) (fun t kt => ?_) ?_
          · skip
            refine XS.astoreN X_6.here hx rfl (hb hby d_rm_lu_59) rfl rfl (l' := #[sR_ ax, sR_ bx, .val .null, sU_]) rfl ?_
            refine XS.aloadN X_6.here hx rfl (hb hby d_rm_lu_60) rfl rfl ?_
            refine XS.aloadN X_6.here hx rfl (hb hby d_rm_lu_61) rfl rfl ?_
            exact kt
          obtain ⟨v_7, T_7, L_7, X_7, q_7, st_7⟩ := callPrivate X_6 hx hZ (y := (⟨"com/example/dead_letter_replay/deadletterreplay/queue/Carries", "countedBefore", "(Lcom/example/dead_letter_replay/deadletterreplay/queue/Carries$Carried;)I"⟩ : MethodName)) (W := 0) hown (wdOf hw 82 rfl) (wdOf hw 83 rfl) (wdOf hw 84 rfl) (wdOf hw 1 rfl) (wdOf hw 2 rfl) (wdOf hw 85 rfl) (by decide) (rm_cb l Z a0 hw [] ax bx sv rv hd cb .null .null .null none none ce ct h0 n0 Z0 O BC o0 E0 F0_since F0_last F0_risk F0_first F0_held rfl ck_1 Eb Fb_from Fb_era Fb_transaction Fb_backend lk_5) (by decide) (by decide) (by decide) (by decide) K_6 E0 (g := (mkF m 62 #[sR_ ax, sR_ bx, .val .null, sU_] [(.ref bx), (.ref ax)])) rfl (by rw [hml]; rfl) (argsL := [(.ref bx)]) (rest := []) (lenOf pd_7 rfl) rfl rfl (Nat.le_refl _) (hb hby d_rm_lu_62)
          obtain ⟨hx_7, cz_7, rfl, n_7, K_7, GE__7, Gsince__7, Glast__7, Grisk__7, Gfirst__7, Gheld__7, ha_7, hb_7⟩ := q_7
          have N_7 := Fr.app N_6 n_7
          have f_8 : Exa Z T_7.heap ax "com/example/dead_letter_replay/deadletterreplay/queue/Carries" := E0.keep K_7
          have f_14 : CarV Z T_7.heap .null none := ck_1.keepX K_7 E0 (by decide) (by decide)
          have f_15 : LongV Z T_7.heap .null none := lk_5.keepX K_7 E0 (by decide)
          have f_16 : Exa Z T_7.heap bx "com/example/dead_letter_replay/deadletterreplay/queue/Carries$Carried" := Eb.keep K_7
          have f_17 : Fld Z T_7.heap bx "com/example/dead_letter_replay/deadletterreplay/queue/Carries$Carried" "from" "Ljava/lang/Long;" .null := Fb_from.keep K_7 (ninS (ne_exa Eb E0 (by decide)) nin0)
          have f_18 : Fld Z T_7.heap bx "com/example/dead_letter_replay/deadletterreplay/queue/Carries$Carried" "era" "J" (.long ce) := Fb_era.keep K_7 (ninS (ne_exa Eb E0 (by decide)) nin0)
          have f_19 : Fld Z T_7.heap bx "com/example/dead_letter_replay/deadletterreplay/queue/Carries$Carried" "transaction" "J" (.long ct) := Fb_transaction.keep K_7 (ninS (ne_exa Eb E0 (by decide)) nin0)
          have f_20 : Fld Z T_7.heap bx "com/example/dead_letter_replay/deadletterreplay/queue/Carries$Carried" "backend" "I" (.int cb) := Fb_backend.keep K_7 (ninS (ne_exa Eb E0 (by decide)) nin0)
          have f_21 : LongV Z T_7.heap .null none := lk_4.keepX K_7 E0 (by decide)
          have f_22 : Old Z n0 T_7.heap := O.keep K_7 (allS o0 all0)
          have K_23 : Keep h0 T_7.heap [ax] := K0.trans K_7 (allS (P := fun x => x ∈ [ax] ∨ h0.size ≤ x) (Or.inl (List.mem_of_getElem? (i := 0) rfl)) all0)
          have y_23 : n0 ≤ T_7.heap.size := Nat.le_trans Z0 K_23.1
          refine Goes.go (U' := (T_7.setTop (mkF m 65 #[sR_ ax, sR_ bx, .val .null, sU_] [(.int cz_7)]))) st_7 ?_
          refine Goes.go (U' := (T_7.setTop (mkF m 91 #[sR_ ax, sR_ bx, .val .null, sI_ cz_7] [(.int cz_7)]))) (fun t kt => ?_) ?_
          · skip
            refine XS.istoreN X_7.here hx rfl (hb hby d_rm_lu_65) rfl (l' := #[sR_ ax, sR_ bx, .val .null, sI_ cz_7]) rfl ?_
            refine XS.aloadN X_7.here hx rfl (hb hby d_rm_lu_66) rfl rfl ?_
            refine XS.ifnonnullNo X_7.here hx rfl (hb hby d_rm_lu_67) rfl ?_
            refine XS.iloadN X_7.here hx rfl (hb hby d_rm_lu_70) rfl ?_
            refine XS.goto X_7.here hx rfl (pc0 := 71) (pc' := 91) rfl (hb hby d_rm_lu_71) (by decide) (by decide) ?_
            exact kt
          refine Goes.retI X_7 hx hlk hret (hb hby d_rm_lu_91) (by decide) (by decide) ?_
          try rw [(rfl : T_7.heap = T_7.heap)]
          exact ⟨_, _, rfl, N_7, K_23, f_8, Gsince__7, Glast__7, Grisk__7, Gfirst__7, Gheld__7, fun q => q.elim, fun _ => hb_7 (fun q => q)⟩
        · -- some
          have lk_5 := Lf
          obtain ⟨or_5, rfl, oe_5, of_5⟩ := Lf
          obtain ⟨v_24, T_24, L_24, X_24, q_24, st_24⟩ := callVirtual X_3 hx hZ (y := (⟨"com/example/dead_letter_replay/deadletterreplay/queue/Carries", "floor", "()Ljava/lang/Long;"⟩ : MethodName)) (z := (⟨"com/example/dead_letter_replay/deadletterreplay/queue/Carries", "floor", "()Ljava/lang/Long;"⟩ : MethodName)) (W := 0) hown (wdOf hw 103 rfl) (wdOf hw 10 rfl) (notFace_of_selects (args := #[]) (mvT hZ (wdOf hw 12 rfl))) (wdOf hw 12 rfl) (wdOf hw 11 rfl) (wdOf hw 2 rfl) (wdOf hw 13 rfl) (by decide) (rm_floor l Z a0 hw [] ax none (some ox_5) (some ox_5) hd h0 n0 Z0 ⟨_, _, _, _, E0, F0_since, F0_last, F0_risk, F0_first, F0_held, ck_1, lk_5⟩ (by rw [if_pos ch])) (by decide) (by decide) (by decide) (by decide) K_3 E0 (g := (mkF m 56 #[sR_ ax, sR_ bx, sU_, sU_] [(.ref ax)])) rfl (by rw [hml]; rfl) (argsL := []) (rest := []) (lenOf pd_5 rfl) rfl rfl (Nat.le_refl _) (hb hby d_rm_lu_56)
          obtain ⟨ow_24, q_24⟩ := q_24
          obtain ⟨rfl, q_24⟩ := q_24
          have q_24 := And.intro (rfl : (0 : Nat) = 0) q_24
          obtain ⟨u_24, n_24, K_24, W_24⟩ := q_24
          obtain ⟨wr_24, rfl, wE_24, wF_24⟩ := W_24
          have N_24 := Fr.app N_3 n_24
          refine Goes.go (U' := (T_24.setTop (mkF m 59 #[sR_ ax, sR_ bx, sU_, sU_] [(.ref wr_24)]))) st_24 ?_
          refine Goes.go (U' := (T_24.setTop (mkF m 62 #[sR_ ax, sR_ bx, sR_ wr_24, sU_] [(.ref bx), (.ref ax)]))) (fun t kt => ?_) ?_
          · skip
            refine XS.astoreN X_24.here hx rfl (hb hby d_rm_lu_59) rfl rfl (l' := #[sR_ ax, sR_ bx, sR_ wr_24, sU_]) rfl ?_
            refine XS.aloadN X_24.here hx rfl (hb hby d_rm_lu_60) rfl rfl ?_
            refine XS.aloadN X_24.here hx rfl (hb hby d_rm_lu_61) rfl rfl ?_
            exact kt
          obtain ⟨v_25, T_25, L_25, X_25, q_25, st_25⟩ := callPrivate X_24 hx hZ (y := (⟨"com/example/dead_letter_replay/deadletterreplay/queue/Carries", "countedBefore", "(Lcom/example/dead_letter_replay/deadletterreplay/queue/Carries$Carried;)I"⟩ : MethodName)) (W := 0) hown (wdOf hw 82 rfl) (wdOf hw 83 rfl) (wdOf hw 84 rfl) (wdOf hw 1 rfl) (wdOf hw 2 rfl) (wdOf hw 85 rfl) (by decide) (rm_cb l Z a0 hw [] ax bx sv rv hd cb .null (.ref or_5) .null none none ce ct h0 n0 Z0 O BC o0 E0 F0_since F0_last F0_risk F0_first F0_held rfl ck_1 Eb Fb_from Fb_era Fb_transaction Fb_backend lk_4) (by decide) (by decide) (by decide) (by decide) K_24 E0 (g := (mkF m 62 #[sR_ ax, sR_ bx, sR_ wr_24, sU_] [(.ref bx), (.ref ax)])) rfl (by rw [hml]; rfl) (argsL := [(.ref bx)]) (rest := []) (lenOf pd_7 rfl) rfl rfl (Nat.le_refl _) (hb hby d_rm_lu_62)
          obtain ⟨hx_25, cz_25, rfl, n_25, K_25, GE__25, Gsince__25, Glast__25, Grisk__25, Gfirst__25, Gheld__25, ha_25, hb_25⟩ := q_25
          have N_25 := Fr.app N_24 n_25
          have f_26 : Exa Z T_25.heap ax "com/example/dead_letter_replay/deadletterreplay/queue/Carries" := E0.keep K_25
          have f_32 : CarV Z T_25.heap .null none := ck_1.keepX K_25 E0 (by decide) (by decide)
          have f_33 : LongV Z T_25.heap (.ref or_5) (some ox_5) := lk_5.keepX K_25 E0 (by decide)
          have f_34 : Exa Z T_25.heap bx "com/example/dead_letter_replay/deadletterreplay/queue/Carries$Carried" := Eb.keep K_25
          have f_35 : Fld Z T_25.heap bx "com/example/dead_letter_replay/deadletterreplay/queue/Carries$Carried" "from" "Ljava/lang/Long;" .null := Fb_from.keep K_25 (ninS (ne_exa Eb E0 (by decide)) nin0)
          have f_36 : Fld Z T_25.heap bx "com/example/dead_letter_replay/deadletterreplay/queue/Carries$Carried" "era" "J" (.long ce) := Fb_era.keep K_25 (ninS (ne_exa Eb E0 (by decide)) nin0)
          have f_37 : Fld Z T_25.heap bx "com/example/dead_letter_replay/deadletterreplay/queue/Carries$Carried" "transaction" "J" (.long ct) := Fb_transaction.keep K_25 (ninS (ne_exa Eb E0 (by decide)) nin0)
          have f_38 : Fld Z T_25.heap bx "com/example/dead_letter_replay/deadletterreplay/queue/Carries$Carried" "backend" "I" (.int cb) := Fb_backend.keep K_25 (ninS (ne_exa Eb E0 (by decide)) nin0)
          have f_39 : LongV Z T_25.heap .null none := lk_4.keepX K_25 E0 (by decide)
          have f_40 : Old Z n0 T_25.heap := O.keep K_25 (allS o0 all0)
          have f_41 : Exa Z T_25.heap or_5 "java/lang/Long" := oe_5.keep K_25
          have f_42 : Fld Z T_25.heap or_5 "java/lang/Long" "value" "J" (.long ox_5) := of_5.keep K_25 (ninS (ne_exa oe_5 E0 (by decide)) nin0)
          have f_43 : Exa Z T_25.heap wr_24 "java/lang/Long" := wE_24.keep K_25
          have f_44 : Fld Z T_25.heap wr_24 "java/lang/Long" "value" "J" (.long ox_5) := wF_24.keep K_25 (ninS (ne_exa wE_24 E0 (by decide)) nin0)
          have K_45 : Keep h0 T_25.heap [ax] := K0.trans K_25 (allS (P := fun x => x ∈ [ax] ∨ h0.size ≤ x) (Or.inl (List.mem_of_getElem? (i := 0) rfl)) all0)
          have y_45 : n0 ≤ T_25.heap.size := Nat.le_trans Z0 K_45.1
          refine Goes.go (U' := (T_25.setTop (mkF m 65 #[sR_ ax, sR_ bx, sR_ wr_24, sU_] [(.int cz_25)]))) st_25 ?_
          refine Goes.go (U' := (T_25.setTop (mkF m 77 #[sR_ ax, sR_ bx, sR_ wr_24, sI_ cz_25] [(.ref bx), (.long (cz_25.toInt64))]))) (fun t kt => ?_) ?_
          · skip
            refine XS.istoreN X_25.here hx rfl (hb hby d_rm_lu_65) rfl (l' := #[sR_ ax, sR_ bx, sR_ wr_24, sI_ cz_25]) rfl ?_
            refine XS.aloadN X_25.here hx rfl (hb hby d_rm_lu_66) rfl rfl ?_
            refine XS.ifnonnullYes X_25.here hx rfl (pc0 := 67) (pc' := 74) rfl (hb hby d_rm_lu_67) rfl (by decide) (by decide) ?_
            refine XS.iloadN X_25.here hx rfl (hb hby d_rm_lu_74) rfl ?_
            refine XS.i2l X_25.here hx rfl (hb hby d_rm_lu_75) rfl ?_
            refine XS.aloadN X_25.here hx rfl (hb hby d_rm_lu_76) rfl rfl ?_
            exact kt
          obtain ⟨v_46, T_46, L_46, X_46, q_46, st_46⟩ := callVirtual X_25 hx hZ (y := (⟨"com/example/dead_letter_replay/deadletterreplay/queue/Carries$Carried", "era", "()J"⟩ : MethodName)) (z := (⟨"com/example/dead_letter_replay/deadletterreplay/queue/Carries$Carried", "era", "()J"⟩ : MethodName)) (W := 2) hown (wdOf hw 86 rfl) (wdOf hw 87 rfl) (notFace_of_selects (args := #[]) (mvT hZ (wdOf hw 89 rfl))) (wdOf hw 89 rfl) (wdOf hw 88 rfl) (wdOf hw 55 rfl) (wdOf hw 90 rfl) (by decide) (rm_era l Z a0 hw [] bx ce T_25.heap n0 y_45 f_36) (by decide) (by decide) (by decide) (by decide) (rfl : T_25.heap = T_25.heap) f_34 (g := (mkF m 77 #[sR_ ax, sR_ bx, sR_ wr_24, sI_ cz_25] [(.ref bx), (.long (cz_25.toInt64))])) rfl (by rw [hml]; rfl) (argsL := []) (rest := [(.long (cz_25.toInt64))]) (lenOf pd_2 rfl) rfl rfl (Nat.le_refl _) (hb hby d_rm_lu_77)
          obtain ⟨rfl, n_46, K_46⟩ := q_46
          have N_46 := Fr.app N_25 n_46
          refine Goes.go (U' := (T_46.setTop (mkF m 80 #[sR_ ax, sR_ bx, sR_ wr_24, sI_ cz_25] [(.long ce), (.long (cz_25.toInt64))]))) st_46 ?_
          refine Goes.go (U' := (T_46.setTop (mkF m 81 #[sR_ ax, sR_ bx, sR_ wr_24, sI_ cz_25] [(.ref wr_24), (.long ce), (.long (cz_25.toInt64))]))) (fun t kt => ?_) ?_
          · skip
            refine XS.aloadN X_46.here hx rfl (hb hby d_rm_lu_80) rfl rfl ?_
            exact kt
          obtain ⟨v_47, T_47, L_47, X_47, q_47, st_47⟩ := callVirtual X_46 hx hZ (y := (⟨"java/lang/Long", "longValue", "()J"⟩ : MethodName)) (z := (⟨"java/lang/Long", "longValue", "()J"⟩ : MethodName)) (W := 4) hown (wdOf hw 91 rfl) (wdOf hw 92 rfl) (notFace_of_selects (args := #[]) (mvT hZ (wdOf hw 94 rfl))) (wdOf hw 94 rfl) (wdOf hw 93 rfl) (wdOf hw 35 rfl) (wdOf hw 95 rfl) (by decide) (rm_lv l Z a0 hw [] wr_24 ox_5 T_25.heap n0 y_45 f_44) (by decide) (by decide) (by decide) (by decide) K_46 f_43 (g := (mkF m 81 #[sR_ ax, sR_ bx, sR_ wr_24, sI_ cz_25] [(.ref wr_24), (.long ce), (.long (cz_25.toInt64))])) rfl (by rw [hml]; rfl) (argsL := []) (rest := [(.long ce), (.long (cz_25.toInt64))]) (lenOf pd_2 rfl) rfl rfl (Nat.le_refl _) (hb hby d_rm_lu_81)
          obtain ⟨rfl, n_47, K_47⟩ := q_47
          have N_47 := Fr.app N_46 n_47
          refine Goes.go (U' := (T_47.setTop (mkF m 84 #[sR_ ax, sR_ bx, sR_ wr_24, sI_ cz_25] [(.long ox_5), (.long ce), (.long (cz_25.toInt64))]))) st_47 ?_
          refine Goes.go (U' := (T_47.setTop (mkF m 87 #[sR_ ax, sR_ bx, sR_ wr_24, sI_ cz_25] [(.long ((ce - ox_5) + (1 : Int64))), (.long (cz_25.toInt64))]))) (fun t kt => ?_) ?_
          · skip
            refine XS.lsub X_47.here hx rfl (hb hby d_rm_lu_84) rfl ?_
            refine XS.lconst X_47.here hx rfl (hb hby d_rm_lu_85) ?_
            refine XS.ladd X_47.here hx rfl (hb hby d_rm_lu_86) rfl ?_
            exact kt
          obtain ⟨v_48, T_48, L_48, X_48, q_48, st_48⟩ := callStatic X_47 hx hZ (y := (⟨"java/lang/Math", "min", "(JJ)J"⟩ : MethodName)) (W := 0) hown (wdOf hw 96 rfl) (wdOf hw 97 rfl) (wdOf hw 98 rfl) (wdOf hw 99 rfl) (by decide) (rm_min l Z a0 hw [] (cz_25.toInt64) ((ce - ox_5) + (1 : Int64)) T_25.heap n0 y_45) (by decide) (by decide) (by decide) (by decide) K_47 (g := (mkF m 87 #[sR_ ax, sR_ bx, sR_ wr_24, sI_ cz_25] [(.long ((ce - ox_5) + (1 : Int64))), (.long (cz_25.toInt64))])) rfl (by rw [hml]; rfl) (argsL := [(.long (cz_25.toInt64)), (.long ((ce - ox_5) + (1 : Int64)))]) (rest := []) (lenOf pd_8 rfl) rfl rfl (Nat.le_refl _) (hb hby d_rm_lu_87)
          obtain ⟨mz_48, rfl, n_48, K_48, -⟩ := q_48
          have N_48 := Fr.app N_47 n_48
          refine Goes.go (U' := (T_48.setTop (mkF m 90 #[sR_ ax, sR_ bx, sR_ wr_24, sI_ cz_25] [(.long mz_48)]))) st_48 ?_
          refine Goes.go (U' := (T_48.setTop (mkF m 91 #[sR_ ax, sR_ bx, sR_ wr_24, sI_ cz_25] [(.int (mz_48.toInt32))]))) (fun t kt => ?_) ?_
          · skip
            refine XS.l2i X_48.here hx rfl (hb hby d_rm_lu_90) rfl ?_
            exact kt
          refine Goes.retI X_48 hx hlk hret (hb hby d_rm_lu_91) (by decide) (by decide) ?_
          try rw [K_48]
          exact ⟨_, _, rfl, N_48, K_45, f_26, Gsince__25, Glast__25, Grisk__25, Gfirst__25, Gheld__25, fun q => q.elim, fun _ => hb_25 (fun q => q)⟩
      · -- held
        refine Goes.go (U' := (T_3.setTop (mkF m 56 #[sR_ ax, sR_ bx, sU_, sU_] [(.ref ax)]))) (fun t kt => ?_) ?_
        · skip
          refine XS.ifnullYes X_3.here hx rfl (pc0 := 45) (pc' := 55) rfl (hb hby d_rm_lu_45) rfl (by decide) (by decide) ?_
          refine XS.aloadN X_3.here hx rfl (hb hby d_rm_lu_55) rfl rfl ?_
          exact kt
        rcases fo with _ | ox_49
        · -- none
          have lk_49 := Lf
          obtain rfl : fv = Value.null := Lf
          obtain ⟨v_50, T_50, L_50, X_50, q_50, st_50⟩ := callVirtual X_3 hx hZ (y := (⟨"com/example/dead_letter_replay/deadletterreplay/queue/Carries", "floor", "()Ljava/lang/Long;"⟩ : MethodName)) (z := (⟨"com/example/dead_letter_replay/deadletterreplay/queue/Carries", "floor", "()Ljava/lang/Long;"⟩ : MethodName)) (W := 0) hown (wdOf hw 103 rfl) (wdOf hw 10 rfl) (notFace_of_selects (args := #[]) (mvT hZ (wdOf hw 12 rfl))) (wdOf hw 12 rfl) (wdOf hw 11 rfl) (wdOf hw 2 rfl) (wdOf hw 13 rfl) (by decide) (rm_floor l Z a0 hw [] ax none none none hd h0 n0 Z0 ⟨_, _, _, _, E0, F0_since, F0_last, F0_risk, F0_first, F0_held, ck_1, lk_49⟩ (by rw [if_neg ch])) (by decide) (by decide) (by decide) (by decide) K_3 E0 (g := (mkF m 56 #[sR_ ax, sR_ bx, sU_, sU_] [(.ref ax)])) rfl (by rw [hml]; rfl) (argsL := []) (rest := []) (lenOf pd_5 rfl) rfl rfl (Nat.le_refl _) (hb hby d_rm_lu_56)
          obtain ⟨ow_50, q_50⟩ := q_50
          obtain ⟨rfl, q_50⟩ := q_50
          have q_50 := And.intro (rfl : (0 : Nat) = 0) q_50
          obtain ⟨u_50, n_50, K_50, W_50⟩ := q_50
          obtain rfl : ow_50 = Value.null := W_50
          have N_50 := Fr.app N_3 n_50
          refine Goes.go (U' := (T_50.setTop (mkF m 59 #[sR_ ax, sR_ bx, sU_, sU_] [.null]))) st_50 ?_
          refine Goes.go (U' := (T_50.setTop (mkF m 62 #[sR_ ax, sR_ bx, .val .null, sU_] [(.ref bx), (.ref ax)]))) (fun t kt => ?_) ?_
          · skip
            refine XS.astoreN X_50.here hx rfl (hb hby d_rm_lu_59) rfl rfl (l' := #[sR_ ax, sR_ bx, .val .null, sU_]) rfl ?_
            refine XS.aloadN X_50.here hx rfl (hb hby d_rm_lu_60) rfl rfl ?_
            refine XS.aloadN X_50.here hx rfl (hb hby d_rm_lu_61) rfl rfl ?_
            exact kt
          obtain ⟨v_51, T_51, L_51, X_51, q_51, st_51⟩ := callPrivate X_50 hx hZ (y := (⟨"com/example/dead_letter_replay/deadletterreplay/queue/Carries", "countedBefore", "(Lcom/example/dead_letter_replay/deadletterreplay/queue/Carries$Carried;)I"⟩ : MethodName)) (W := 0) hown (wdOf hw 82 rfl) (wdOf hw 83 rfl) (wdOf hw 84 rfl) (wdOf hw 1 rfl) (wdOf hw 2 rfl) (wdOf hw 85 rfl) (by decide) (rm_cb l Z a0 hw [] ax bx sv rv hd cb .null .null .null none none ce ct h0 n0 Z0 O BC o0 E0 F0_since F0_last F0_risk F0_first F0_held rfl ck_1 Eb Fb_from Fb_era Fb_transaction Fb_backend lk_49) (by decide) (by decide) (by decide) (by decide) K_50 E0 (g := (mkF m 62 #[sR_ ax, sR_ bx, .val .null, sU_] [(.ref bx), (.ref ax)])) rfl (by rw [hml]; rfl) (argsL := [(.ref bx)]) (rest := []) (lenOf pd_7 rfl) rfl rfl (Nat.le_refl _) (hb hby d_rm_lu_62)
          obtain ⟨hx_51, cz_51, rfl, n_51, K_51, GE__51, Gsince__51, Glast__51, Grisk__51, Gfirst__51, Gheld__51, ha_51, hb_51⟩ := q_51
          have N_51 := Fr.app N_50 n_51
          have f_52 : Exa Z T_51.heap ax "com/example/dead_letter_replay/deadletterreplay/queue/Carries" := E0.keep K_51
          have f_58 : CarV Z T_51.heap .null none := ck_1.keepX K_51 E0 (by decide) (by decide)
          have f_59 : LongV Z T_51.heap .null none := lk_49.keepX K_51 E0 (by decide)
          have f_60 : Exa Z T_51.heap bx "com/example/dead_letter_replay/deadletterreplay/queue/Carries$Carried" := Eb.keep K_51
          have f_61 : Fld Z T_51.heap bx "com/example/dead_letter_replay/deadletterreplay/queue/Carries$Carried" "from" "Ljava/lang/Long;" .null := Fb_from.keep K_51 (ninS (ne_exa Eb E0 (by decide)) nin0)
          have f_62 : Fld Z T_51.heap bx "com/example/dead_letter_replay/deadletterreplay/queue/Carries$Carried" "era" "J" (.long ce) := Fb_era.keep K_51 (ninS (ne_exa Eb E0 (by decide)) nin0)
          have f_63 : Fld Z T_51.heap bx "com/example/dead_letter_replay/deadletterreplay/queue/Carries$Carried" "transaction" "J" (.long ct) := Fb_transaction.keep K_51 (ninS (ne_exa Eb E0 (by decide)) nin0)
          have f_64 : Fld Z T_51.heap bx "com/example/dead_letter_replay/deadletterreplay/queue/Carries$Carried" "backend" "I" (.int cb) := Fb_backend.keep K_51 (ninS (ne_exa Eb E0 (by decide)) nin0)
          have f_65 : LongV Z T_51.heap .null none := lk_4.keepX K_51 E0 (by decide)
          have f_66 : Old Z n0 T_51.heap := O.keep K_51 (allS o0 all0)
          have K_67 : Keep h0 T_51.heap [ax] := K0.trans K_51 (allS (P := fun x => x ∈ [ax] ∨ h0.size ≤ x) (Or.inl (List.mem_of_getElem? (i := 0) rfl)) all0)
          have y_67 : n0 ≤ T_51.heap.size := Nat.le_trans Z0 K_67.1
          refine Goes.go (U' := (T_51.setTop (mkF m 65 #[sR_ ax, sR_ bx, .val .null, sU_] [(.int cz_51)]))) st_51 ?_
          refine Goes.go (U' := (T_51.setTop (mkF m 91 #[sR_ ax, sR_ bx, .val .null, sI_ cz_51] [(.int cz_51)]))) (fun t kt => ?_) ?_
          · skip
            refine XS.istoreN X_51.here hx rfl (hb hby d_rm_lu_65) rfl (l' := #[sR_ ax, sR_ bx, .val .null, sI_ cz_51]) rfl ?_
            refine XS.aloadN X_51.here hx rfl (hb hby d_rm_lu_66) rfl rfl ?_
            refine XS.ifnonnullNo X_51.here hx rfl (hb hby d_rm_lu_67) rfl ?_
            refine XS.iloadN X_51.here hx rfl (hb hby d_rm_lu_70) rfl ?_
            refine XS.goto X_51.here hx rfl (pc0 := 71) (pc' := 91) rfl (hb hby d_rm_lu_71) (by decide) (by decide) ?_
            exact kt
          refine Goes.retI X_51 hx hlk hret (hb hby d_rm_lu_91) (by decide) (by decide) ?_
          try rw [(rfl : T_51.heap = T_51.heap)]
          exact ⟨_, _, rfl, N_51, K_67, f_52, Gsince__51, Glast__51, Grisk__51, Gfirst__51, Gheld__51, fun q => q.elim, fun _ => hb_51 (fun q => q)⟩
        · -- some
          have lk_49 := Lf
          obtain ⟨or_49, rfl, oe_49, of_49⟩ := Lf
          obtain ⟨v_68, T_68, L_68, X_68, q_68, st_68⟩ := callVirtual X_3 hx hZ (y := (⟨"com/example/dead_letter_replay/deadletterreplay/queue/Carries", "floor", "()Ljava/lang/Long;"⟩ : MethodName)) (z := (⟨"com/example/dead_letter_replay/deadletterreplay/queue/Carries", "floor", "()Ljava/lang/Long;"⟩ : MethodName)) (W := 0) hown (wdOf hw 103 rfl) (wdOf hw 10 rfl) (notFace_of_selects (args := #[]) (mvT hZ (wdOf hw 12 rfl))) (wdOf hw 12 rfl) (wdOf hw 11 rfl) (wdOf hw 2 rfl) (wdOf hw 13 rfl) (by decide) (rm_floor l Z a0 hw [] ax none (some ox_49) none hd h0 n0 Z0 ⟨_, _, _, _, E0, F0_since, F0_last, F0_risk, F0_first, F0_held, ck_1, lk_49⟩ (by rw [if_neg ch])) (by decide) (by decide) (by decide) (by decide) K_3 E0 (g := (mkF m 56 #[sR_ ax, sR_ bx, sU_, sU_] [(.ref ax)])) rfl (by rw [hml]; rfl) (argsL := []) (rest := []) (lenOf pd_5 rfl) rfl rfl (Nat.le_refl _) (hb hby d_rm_lu_56)
          obtain ⟨ow_68, q_68⟩ := q_68
          obtain ⟨rfl, q_68⟩ := q_68
          have q_68 := And.intro (rfl : (0 : Nat) = 0) q_68
          obtain ⟨u_68, n_68, K_68, W_68⟩ := q_68
          obtain rfl : ow_68 = Value.null := W_68
          have N_68 := Fr.app N_3 n_68
          refine Goes.go (U' := (T_68.setTop (mkF m 59 #[sR_ ax, sR_ bx, sU_, sU_] [.null]))) st_68 ?_
          refine Goes.go (U' := (T_68.setTop (mkF m 62 #[sR_ ax, sR_ bx, .val .null, sU_] [(.ref bx), (.ref ax)]))) (fun t kt => ?_) ?_
          · skip
            refine XS.astoreN X_68.here hx rfl (hb hby d_rm_lu_59) rfl rfl (l' := #[sR_ ax, sR_ bx, .val .null, sU_]) rfl ?_
            refine XS.aloadN X_68.here hx rfl (hb hby d_rm_lu_60) rfl rfl ?_
            refine XS.aloadN X_68.here hx rfl (hb hby d_rm_lu_61) rfl rfl ?_
            exact kt
          obtain ⟨v_69, T_69, L_69, X_69, q_69, st_69⟩ := callPrivate X_68 hx hZ (y := (⟨"com/example/dead_letter_replay/deadletterreplay/queue/Carries", "countedBefore", "(Lcom/example/dead_letter_replay/deadletterreplay/queue/Carries$Carried;)I"⟩ : MethodName)) (W := 0) hown (wdOf hw 82 rfl) (wdOf hw 83 rfl) (wdOf hw 84 rfl) (wdOf hw 1 rfl) (wdOf hw 2 rfl) (wdOf hw 85 rfl) (by decide) (rm_cb l Z a0 hw [] ax bx sv rv hd cb .null (.ref or_49) .null none none ce ct h0 n0 Z0 O BC o0 E0 F0_since F0_last F0_risk F0_first F0_held rfl ck_1 Eb Fb_from Fb_era Fb_transaction Fb_backend lk_4) (by decide) (by decide) (by decide) (by decide) K_68 E0 (g := (mkF m 62 #[sR_ ax, sR_ bx, .val .null, sU_] [(.ref bx), (.ref ax)])) rfl (by rw [hml]; rfl) (argsL := [(.ref bx)]) (rest := []) (lenOf pd_7 rfl) rfl rfl (Nat.le_refl _) (hb hby d_rm_lu_62)
          obtain ⟨hx_69, cz_69, rfl, n_69, K_69, GE__69, Gsince__69, Glast__69, Grisk__69, Gfirst__69, Gheld__69, ha_69, hb_69⟩ := q_69
          have N_69 := Fr.app N_68 n_69
          have f_70 : Exa Z T_69.heap ax "com/example/dead_letter_replay/deadletterreplay/queue/Carries" := E0.keep K_69
          have f_76 : CarV Z T_69.heap .null none := ck_1.keepX K_69 E0 (by decide) (by decide)
          have f_77 : LongV Z T_69.heap (.ref or_49) (some ox_49) := lk_49.keepX K_69 E0 (by decide)
          have f_78 : Exa Z T_69.heap bx "com/example/dead_letter_replay/deadletterreplay/queue/Carries$Carried" := Eb.keep K_69
          have f_79 : Fld Z T_69.heap bx "com/example/dead_letter_replay/deadletterreplay/queue/Carries$Carried" "from" "Ljava/lang/Long;" .null := Fb_from.keep K_69 (ninS (ne_exa Eb E0 (by decide)) nin0)
          have f_80 : Fld Z T_69.heap bx "com/example/dead_letter_replay/deadletterreplay/queue/Carries$Carried" "era" "J" (.long ce) := Fb_era.keep K_69 (ninS (ne_exa Eb E0 (by decide)) nin0)
          have f_81 : Fld Z T_69.heap bx "com/example/dead_letter_replay/deadletterreplay/queue/Carries$Carried" "transaction" "J" (.long ct) := Fb_transaction.keep K_69 (ninS (ne_exa Eb E0 (by decide)) nin0)
          have f_82 : Fld Z T_69.heap bx "com/example/dead_letter_replay/deadletterreplay/queue/Carries$Carried" "backend" "I" (.int cb) := Fb_backend.keep K_69 (ninS (ne_exa Eb E0 (by decide)) nin0)
          have f_83 : LongV Z T_69.heap .null none := lk_4.keepX K_69 E0 (by decide)
          have f_84 : Old Z n0 T_69.heap := O.keep K_69 (allS o0 all0)
          have f_85 : Exa Z T_69.heap or_49 "java/lang/Long" := oe_49.keep K_69
          have f_86 : Fld Z T_69.heap or_49 "java/lang/Long" "value" "J" (.long ox_49) := of_49.keep K_69 (ninS (ne_exa oe_49 E0 (by decide)) nin0)
          have K_87 : Keep h0 T_69.heap [ax] := K0.trans K_69 (allS (P := fun x => x ∈ [ax] ∨ h0.size ≤ x) (Or.inl (List.mem_of_getElem? (i := 0) rfl)) all0)
          have y_87 : n0 ≤ T_69.heap.size := Nat.le_trans Z0 K_87.1
          refine Goes.go (U' := (T_69.setTop (mkF m 65 #[sR_ ax, sR_ bx, .val .null, sU_] [(.int cz_69)]))) st_69 ?_
          refine Goes.go (U' := (T_69.setTop (mkF m 91 #[sR_ ax, sR_ bx, .val .null, sI_ cz_69] [(.int cz_69)]))) (fun t kt => ?_) ?_
          · skip
            refine XS.istoreN X_69.here hx rfl (hb hby d_rm_lu_65) rfl (l' := #[sR_ ax, sR_ bx, .val .null, sI_ cz_69]) rfl ?_
            refine XS.aloadN X_69.here hx rfl (hb hby d_rm_lu_66) rfl rfl ?_
            refine XS.ifnonnullNo X_69.here hx rfl (hb hby d_rm_lu_67) rfl ?_
            refine XS.iloadN X_69.here hx rfl (hb hby d_rm_lu_70) rfl ?_
            refine XS.goto X_69.here hx rfl (pc0 := 71) (pc' := 91) rfl (hb hby d_rm_lu_71) (by decide) (by decide) ?_
            exact kt
          refine Goes.retI X_69 hx hlk hret (hb hby d_rm_lu_91) (by decide) (by decide) ?_
          try rw [(rfl : T_69.heap = T_69.heap)]
          exact ⟨_, _, rfl, N_69, K_87, f_70, Gsince__69, Glast__69, Grisk__69, Gfirst__69, Gheld__69, fun q => q.elim, fun _ => hb_69 (fun q => q)⟩
    · -- some
      have lk_4 := Lv
      obtain ⟨or_4, rfl, oe_4, of_4⟩ := Lv
      refine Goes.go (U' := (T_3.setTop (mkF m 49 #[sR_ ax, sR_ bx, sU_, sU_] [(.ref bx)]))) (fun t kt => ?_) ?_
      · skip
        refine XS.ifnullNo X_3.here hx rfl (hb hby d_rm_lu_45) rfl ?_
        refine XS.aloadN X_3.here hx rfl (hb hby d_rm_lu_48) rfl rfl ?_
        exact kt
      obtain ⟨v_88, T_88, L_88, X_88, q_88, st_88⟩ := callVirtual X_3 hx hZ (y := (⟨"com/example/dead_letter_replay/deadletterreplay/queue/Carries$Carried", "from", "()Ljava/lang/Long;"⟩ : MethodName)) (z := (⟨"com/example/dead_letter_replay/deadletterreplay/queue/Carries$Carried", "from", "()Ljava/lang/Long;"⟩ : MethodName)) (W := 0) hown (wdOf hw 77 rfl) (wdOf hw 78 rfl) (notFace_of_selects (args := #[]) (mvT hZ (wdOf hw 80 rfl))) (wdOf hw 80 rfl) (wdOf hw 79 rfl) (wdOf hw 55 rfl) (wdOf hw 81 rfl) (by decide) (rm_from l Z a0 hw [] bx (.ref or_4) rfl h0 n0 Z0 Fb_from) (by decide) (by decide) (by decide) (by decide) K_3 Eb (g := (mkF m 49 #[sR_ ax, sR_ bx, sU_, sU_] [(.ref bx)])) rfl (by rw [hml]; rfl) (argsL := []) (rest := []) (lenOf pd_5 rfl) rfl rfl (Nat.le_refl _) (hb hby d_rm_lu_49)
      obtain ⟨rfl, n_88, K_88⟩ := q_88
      have N_88 := Fr.app N_3 n_88
      refine Goes.go (U' := (T_88.setTop (mkF m 52 #[sR_ ax, sR_ bx, sU_, sU_] [(.ref or_4)]))) st_88 ?_
      refine Goes.go (U' := (T_88.setTop (mkF m 62 #[sR_ ax, sR_ bx, sR_ or_4, sU_] [(.ref bx), (.ref ax)]))) (fun t kt => ?_) ?_
      · skip
        refine XS.goto X_88.here hx rfl (pc0 := 52) (pc' := 59) rfl (hb hby d_rm_lu_52) (by decide) (by decide) ?_
        refine XS.astoreN X_88.here hx rfl (hb hby d_rm_lu_59) rfl rfl (l' := #[sR_ ax, sR_ bx, sR_ or_4, sU_]) rfl ?_
        refine XS.aloadN X_88.here hx rfl (hb hby d_rm_lu_60) rfl rfl ?_
        refine XS.aloadN X_88.here hx rfl (hb hby d_rm_lu_61) rfl rfl ?_
        exact kt
      obtain ⟨v_89, T_89, L_89, X_89, q_89, st_89⟩ := callPrivate X_88 hx hZ (y := (⟨"com/example/dead_letter_replay/deadletterreplay/queue/Carries", "countedBefore", "(Lcom/example/dead_letter_replay/deadletterreplay/queue/Carries$Carried;)I"⟩ : MethodName)) (W := 0) hown (wdOf hw 82 rfl) (wdOf hw 83 rfl) (wdOf hw 84 rfl) (wdOf hw 1 rfl) (wdOf hw 2 rfl) (wdOf hw 85 rfl) (by decide) (rm_cb l Z a0 hw [] ax bx sv rv hd cb .null fv (.ref or_4) none (some ox_4) ce ct h0 n0 Z0 O BC o0 E0 F0_since F0_last F0_risk F0_first F0_held Lf.isRef ck_1 Eb Fb_from Fb_era Fb_transaction Fb_backend lk_4) (by decide) (by decide) (by decide) (by decide) K_88 E0 (g := (mkF m 62 #[sR_ ax, sR_ bx, sR_ or_4, sU_] [(.ref bx), (.ref ax)])) rfl (by rw [hml]; rfl) (argsL := [(.ref bx)]) (rest := []) (lenOf pd_7 rfl) rfl rfl (Nat.le_refl _) (hb hby d_rm_lu_62)
      obtain ⟨hx_89, cz_89, rfl, n_89, K_89, GE__89, Gsince__89, Glast__89, Grisk__89, Gfirst__89, Gheld__89, ha_89, hb_89⟩ := q_89
      have N_89 := Fr.app N_88 n_89
      have f_90 : Exa Z T_89.heap ax "com/example/dead_letter_replay/deadletterreplay/queue/Carries" := E0.keep K_89
      have f_96 : CarV Z T_89.heap .null none := ck_1.keepX K_89 E0 (by decide) (by decide)
      have f_97 : LongV Z T_89.heap fv fo := Lf.keepX K_89 E0 (by decide)
      have f_98 : Exa Z T_89.heap bx "com/example/dead_letter_replay/deadletterreplay/queue/Carries$Carried" := Eb.keep K_89
      have f_99 : Fld Z T_89.heap bx "com/example/dead_letter_replay/deadletterreplay/queue/Carries$Carried" "from" "Ljava/lang/Long;" (.ref or_4) := Fb_from.keep K_89 (ninS (ne_exa Eb E0 (by decide)) nin0)
      have f_100 : Fld Z T_89.heap bx "com/example/dead_letter_replay/deadletterreplay/queue/Carries$Carried" "era" "J" (.long ce) := Fb_era.keep K_89 (ninS (ne_exa Eb E0 (by decide)) nin0)
      have f_101 : Fld Z T_89.heap bx "com/example/dead_letter_replay/deadletterreplay/queue/Carries$Carried" "transaction" "J" (.long ct) := Fb_transaction.keep K_89 (ninS (ne_exa Eb E0 (by decide)) nin0)
      have f_102 : Fld Z T_89.heap bx "com/example/dead_letter_replay/deadletterreplay/queue/Carries$Carried" "backend" "I" (.int cb) := Fb_backend.keep K_89 (ninS (ne_exa Eb E0 (by decide)) nin0)
      have f_103 : LongV Z T_89.heap (.ref or_4) (some ox_4) := lk_4.keepX K_89 E0 (by decide)
      have f_104 : Old Z n0 T_89.heap := O.keep K_89 (allS o0 all0)
      have f_105 : Exa Z T_89.heap or_4 "java/lang/Long" := oe_4.keep K_89
      have f_106 : Fld Z T_89.heap or_4 "java/lang/Long" "value" "J" (.long ox_4) := of_4.keep K_89 (ninS (ne_exa oe_4 E0 (by decide)) nin0)
      have K_107 : Keep h0 T_89.heap [ax] := K0.trans K_89 (allS (P := fun x => x ∈ [ax] ∨ h0.size ≤ x) (Or.inl (List.mem_of_getElem? (i := 0) rfl)) all0)
      have y_107 : n0 ≤ T_89.heap.size := Nat.le_trans Z0 K_107.1
      refine Goes.go (U' := (T_89.setTop (mkF m 65 #[sR_ ax, sR_ bx, sR_ or_4, sU_] [(.int cz_89)]))) st_89 ?_
      refine Goes.go (U' := (T_89.setTop (mkF m 77 #[sR_ ax, sR_ bx, sR_ or_4, sI_ cz_89] [(.ref bx), (.long (cz_89.toInt64))]))) (fun t kt => ?_) ?_
      · skip
        refine XS.istoreN X_89.here hx rfl (hb hby d_rm_lu_65) rfl (l' := #[sR_ ax, sR_ bx, sR_ or_4, sI_ cz_89]) rfl ?_
        refine XS.aloadN X_89.here hx rfl (hb hby d_rm_lu_66) rfl rfl ?_
        refine XS.ifnonnullYes X_89.here hx rfl (pc0 := 67) (pc' := 74) rfl (hb hby d_rm_lu_67) rfl (by decide) (by decide) ?_
        refine XS.iloadN X_89.here hx rfl (hb hby d_rm_lu_74) rfl ?_
        refine XS.i2l X_89.here hx rfl (hb hby d_rm_lu_75) rfl ?_
        refine XS.aloadN X_89.here hx rfl (hb hby d_rm_lu_76) rfl rfl ?_
        exact kt
      obtain ⟨v_108, T_108, L_108, X_108, q_108, st_108⟩ := callVirtual X_89 hx hZ (y := (⟨"com/example/dead_letter_replay/deadletterreplay/queue/Carries$Carried", "era", "()J"⟩ : MethodName)) (z := (⟨"com/example/dead_letter_replay/deadletterreplay/queue/Carries$Carried", "era", "()J"⟩ : MethodName)) (W := 2) hown (wdOf hw 86 rfl) (wdOf hw 87 rfl) (notFace_of_selects (args := #[]) (mvT hZ (wdOf hw 89 rfl))) (wdOf hw 89 rfl) (wdOf hw 88 rfl) (wdOf hw 55 rfl) (wdOf hw 90 rfl) (by decide) (rm_era l Z a0 hw [] bx ce T_89.heap n0 y_107 f_100) (by decide) (by decide) (by decide) (by decide) (rfl : T_89.heap = T_89.heap) f_98 (g := (mkF m 77 #[sR_ ax, sR_ bx, sR_ or_4, sI_ cz_89] [(.ref bx), (.long (cz_89.toInt64))])) rfl (by rw [hml]; rfl) (argsL := []) (rest := [(.long (cz_89.toInt64))]) (lenOf pd_2 rfl) rfl rfl (Nat.le_refl _) (hb hby d_rm_lu_77)
      obtain ⟨rfl, n_108, K_108⟩ := q_108
      have N_108 := Fr.app N_89 n_108
      refine Goes.go (U' := (T_108.setTop (mkF m 80 #[sR_ ax, sR_ bx, sR_ or_4, sI_ cz_89] [(.long ce), (.long (cz_89.toInt64))]))) st_108 ?_
      refine Goes.go (U' := (T_108.setTop (mkF m 81 #[sR_ ax, sR_ bx, sR_ or_4, sI_ cz_89] [(.ref or_4), (.long ce), (.long (cz_89.toInt64))]))) (fun t kt => ?_) ?_
      · skip
        refine XS.aloadN X_108.here hx rfl (hb hby d_rm_lu_80) rfl rfl ?_
        exact kt
      obtain ⟨v_109, T_109, L_109, X_109, q_109, st_109⟩ := callVirtual X_108 hx hZ (y := (⟨"java/lang/Long", "longValue", "()J"⟩ : MethodName)) (z := (⟨"java/lang/Long", "longValue", "()J"⟩ : MethodName)) (W := 4) hown (wdOf hw 91 rfl) (wdOf hw 92 rfl) (notFace_of_selects (args := #[]) (mvT hZ (wdOf hw 94 rfl))) (wdOf hw 94 rfl) (wdOf hw 93 rfl) (wdOf hw 35 rfl) (wdOf hw 95 rfl) (by decide) (rm_lv l Z a0 hw [] or_4 ox_4 T_89.heap n0 y_107 f_106) (by decide) (by decide) (by decide) (by decide) K_108 f_105 (g := (mkF m 81 #[sR_ ax, sR_ bx, sR_ or_4, sI_ cz_89] [(.ref or_4), (.long ce), (.long (cz_89.toInt64))])) rfl (by rw [hml]; rfl) (argsL := []) (rest := [(.long ce), (.long (cz_89.toInt64))]) (lenOf pd_2 rfl) rfl rfl (Nat.le_refl _) (hb hby d_rm_lu_81)
      obtain ⟨rfl, n_109, K_109⟩ := q_109
      have N_109 := Fr.app N_108 n_109
      refine Goes.go (U' := (T_109.setTop (mkF m 84 #[sR_ ax, sR_ bx, sR_ or_4, sI_ cz_89] [(.long ox_4), (.long ce), (.long (cz_89.toInt64))]))) st_109 ?_
      refine Goes.go (U' := (T_109.setTop (mkF m 87 #[sR_ ax, sR_ bx, sR_ or_4, sI_ cz_89] [(.long ((ce - ox_4) + (1 : Int64))), (.long (cz_89.toInt64))]))) (fun t kt => ?_) ?_
      · skip
        refine XS.lsub X_109.here hx rfl (hb hby d_rm_lu_84) rfl ?_
        refine XS.lconst X_109.here hx rfl (hb hby d_rm_lu_85) ?_
        refine XS.ladd X_109.here hx rfl (hb hby d_rm_lu_86) rfl ?_
        exact kt
      obtain ⟨v_110, T_110, L_110, X_110, q_110, st_110⟩ := callStatic X_109 hx hZ (y := (⟨"java/lang/Math", "min", "(JJ)J"⟩ : MethodName)) (W := 0) hown (wdOf hw 96 rfl) (wdOf hw 97 rfl) (wdOf hw 98 rfl) (wdOf hw 99 rfl) (by decide) (rm_min l Z a0 hw [] (cz_89.toInt64) ((ce - ox_4) + (1 : Int64)) T_89.heap n0 y_107) (by decide) (by decide) (by decide) (by decide) K_109 (g := (mkF m 87 #[sR_ ax, sR_ bx, sR_ or_4, sI_ cz_89] [(.long ((ce - ox_4) + (1 : Int64))), (.long (cz_89.toInt64))])) rfl (by rw [hml]; rfl) (argsL := [(.long (cz_89.toInt64)), (.long ((ce - ox_4) + (1 : Int64)))]) (rest := []) (lenOf pd_8 rfl) rfl rfl (Nat.le_refl _) (hb hby d_rm_lu_87)
      obtain ⟨mz_110, rfl, n_110, K_110, -⟩ := q_110
      have N_110 := Fr.app N_109 n_110
      refine Goes.go (U' := (T_110.setTop (mkF m 90 #[sR_ ax, sR_ bx, sR_ or_4, sI_ cz_89] [(.long mz_110)]))) st_110 ?_
      refine Goes.go (U' := (T_110.setTop (mkF m 91 #[sR_ ax, sR_ bx, sR_ or_4, sI_ cz_89] [(.int (mz_110.toInt32))]))) (fun t kt => ?_) ?_
      · skip
        refine XS.l2i X_110.here hx rfl (hb hby d_rm_lu_90) rfl ?_
        exact kt
      refine Goes.retI X_110 hx hlk hret (hb hby d_rm_lu_91) (by decide) (by decide) ?_
      try rw [K_110]
      exact ⟨_, _, rfl, N_110, K_107, f_90, Gsince__89, Glast__89, Grisk__89, Gfirst__89, Gheld__89, fun q => q.elim, fun _ => hb_89 (fun q => q)⟩
  · -- some
    have ck_1 := Lc
    obtain ⟨cr_1, cv_1, rfl, cE_1, cF_1, cG_1, cH_1, cI_1, cL_1⟩ := Lc
    refine Goes.go (U' := (s₁.setTop (mkF m 1 #[sR_ ax, sR_ bx, sU_, sU_] [(.ref ax)]))) (fun t kt => ?_) ?_
    · skip
      refine XS.aloadN X0.here hx rfl (hb hby d_rm_lu_0) rfl rfl ?_
      exact kt
    obtain ⟨T_111, X_111, e_111, st_111⟩ := getF X0 hx hZ hown (host := "") (Or.inl (wdOf hw 23 rfl)) Via.refl e0 F0_last (g := (mkF m 1 #[sR_ ax, sR_ bx, sU_, sU_] [(.ref ax)])) rfl rfl (hb hby d_rm_lu_1)
    refine Goes.go (U' := (T_111.setTop (mkF m 4 #[sR_ ax, sR_ bx, sU_, sU_] [(.ref cr_1)]))) st_111 ?_
    refine Goes.go (U' := (T_111.setTop (mkF m 8 #[sR_ ax, sR_ bx, sU_, sU_] [(.ref bx)]))) (fun t kt => ?_) ?_
    · skip
      refine XS.ifnullNo X_111.here hx rfl (hb hby d_rm_lu_4) rfl ?_
      refine XS.aloadN X_111.here hx rfl (hb hby d_rm_lu_7) rfl rfl ?_
      exact kt
    obtain ⟨v_112, T_112, L_112, X_112, q_112, st_112⟩ := callVirtual X_111 hx hZ (y := (⟨"com/example/dead_letter_replay/deadletterreplay/queue/Carries$Carried", "backend", "()I"⟩ : MethodName)) (z := (⟨"com/example/dead_letter_replay/deadletterreplay/queue/Carries$Carried", "backend", "()I"⟩ : MethodName)) (W := 0) hown (wdOf hw 104 rfl) (wdOf hw 105 rfl) (notFace_of_selects (args := #[]) (mvT hZ (wdOf hw 107 rfl))) (wdOf hw 107 rfl) (wdOf hw 106 rfl) (wdOf hw 55 rfl) (wdOf hw 108 rfl) (by decide) (rm_bke l Z a0 hw [] bx cb h0 n0 Z0 Fb_backend) (by decide) (by decide) (by decide) (by decide) e_111 Eb (g := (mkF m 8 #[sR_ ax, sR_ bx, sU_, sU_] [(.ref bx)])) rfl (by rw [hml]; rfl) (argsL := []) (rest := []) (lenOf pd_3 rfl) rfl rfl (Nat.le_refl _) (hb hby d_rm_lu_8)
    obtain ⟨rfl, n_112, K_112⟩ := q_112
    have N_112 := Fr.app N0 n_112
    refine Goes.go (U' := (T_112.setTop (mkF m 11 #[sR_ ax, sR_ bx, sU_, sU_] [(.int cb)]))) st_112 ?_
    refine Goes.go (U' := (T_112.setTop (mkF m 12 #[sR_ ax, sR_ bx, sU_, sU_] [(.ref ax), (.int cb)]))) (fun t kt => ?_) ?_
    · skip
      refine XS.aloadN X_112.here hx rfl (hb hby d_rm_lu_11) rfl rfl ?_
      exact kt
    obtain ⟨T_113, X_113, e_113, st_113⟩ := getF X_112 hx hZ hown (host := "") (Or.inl (wdOf hw 23 rfl)) Via.refl K_112 F0_last (g := (mkF m 12 #[sR_ ax, sR_ bx, sU_, sU_] [(.ref ax), (.int cb)])) rfl rfl (hb hby d_rm_lu_12)
    refine Goes.go (U' := (T_113.setTop (mkF m 15 #[sR_ ax, sR_ bx, sU_, sU_] [(.ref cr_1), (.int cb)]))) st_113 ?_
    obtain ⟨v_114, T_114, L_114, X_114, q_114, st_114⟩ := callVirtual X_113 hx hZ (y := (⟨"com/example/dead_letter_replay/deadletterreplay/queue/Carries$Carried", "backend", "()I"⟩ : MethodName)) (z := (⟨"com/example/dead_letter_replay/deadletterreplay/queue/Carries$Carried", "backend", "()I"⟩ : MethodName)) (W := 1) hown (wdOf hw 104 rfl) (wdOf hw 105 rfl) (notFace_of_selects (args := #[]) (mvT hZ (wdOf hw 107 rfl))) (wdOf hw 107 rfl) (wdOf hw 106 rfl) (wdOf hw 55 rfl) (wdOf hw 108 rfl) (by decide) (rm_bke l Z a0 hw [] cr_1 cb_1 h0 n0 Z0 cI_1) (by decide) (by decide) (by decide) (by decide) e_113 cE_1 (g := (mkF m 15 #[sR_ ax, sR_ bx, sU_, sU_] [(.ref cr_1), (.int cb)])) rfl (by rw [hml]; rfl) (argsL := []) (rest := [(.int cb)]) (lenOf pd_3 rfl) rfl rfl (Nat.le_refl _) (hb hby d_rm_lu_15)
    obtain ⟨rfl, n_114, K_114⟩ := q_114
    have N_114 := Fr.app N_112 n_114
    refine Goes.go (U' := (T_114.setTop (mkF m 18 #[sR_ ax, sR_ bx, sU_, sU_] [(.int cb_1), (.int cb)]))) st_114 ?_
    by_cases cq : cb = cb_1
    · -- cb = cb_1
      refine Goes.go (U' := (T_114.setTop (mkF m 22 #[sR_ ax, sR_ bx, sU_, sU_] [(.ref bx)]))) (fun t kt => ?_) ?_
      · skip
        refine XS.icmpNo X_114.here hx rfl (hb hby d_rm_lu_18) rfl (XT.ii_ne_f cq) ?_
        refine XS.aloadN X_114.here hx rfl (hb hby d_rm_lu_21) rfl rfl ?_
        exact kt
      obtain ⟨v_115, T_115, L_115, X_115, q_115, st_115⟩ := callVirtual X_114 hx hZ (y := (⟨"com/example/dead_letter_replay/deadletterreplay/queue/Carries$Carried", "transaction", "()J"⟩ : MethodName)) (z := (⟨"com/example/dead_letter_replay/deadletterreplay/queue/Carries$Carried", "transaction", "()J"⟩ : MethodName)) (W := 0) hown (wdOf hw 109 rfl) (wdOf hw 110 rfl) (notFace_of_selects (args := #[]) (mvT hZ (wdOf hw 112 rfl))) (wdOf hw 112 rfl) (wdOf hw 111 rfl) (wdOf hw 55 rfl) (wdOf hw 113 rfl) (by decide) (rm_trx l Z a0 hw [] bx ct h0 n0 Z0 Fb_transaction) (by decide) (by decide) (by decide) (by decide) K_114 Eb (g := (mkF m 22 #[sR_ ax, sR_ bx, sU_, sU_] [(.ref bx)])) rfl (by rw [hml]; rfl) (argsL := []) (rest := []) (lenOf pd_2 rfl) rfl rfl (Nat.le_refl _) (hb hby d_rm_lu_22)
      obtain ⟨rfl, n_115, K_115⟩ := q_115
      have N_115 := Fr.app N_114 n_115
      refine Goes.go (U' := (T_115.setTop (mkF m 25 #[sR_ ax, sR_ bx, sU_, sU_] [(.long ct)]))) st_115 ?_
      refine Goes.go (U' := (T_115.setTop (mkF m 26 #[sR_ ax, sR_ bx, sU_, sU_] [(.ref ax), (.long ct)]))) (fun t kt => ?_) ?_
      · skip
        refine XS.aloadN X_115.here hx rfl (hb hby d_rm_lu_25) rfl rfl ?_
        exact kt
      obtain ⟨T_116, X_116, e_116, st_116⟩ := getF X_115 hx hZ hown (host := "") (Or.inl (wdOf hw 23 rfl)) Via.refl K_115 F0_last (g := (mkF m 26 #[sR_ ax, sR_ bx, sU_, sU_] [(.ref ax), (.long ct)])) rfl rfl (hb hby d_rm_lu_26)
      refine Goes.go (U' := (T_116.setTop (mkF m 29 #[sR_ ax, sR_ bx, sU_, sU_] [(.ref cr_1), (.long ct)]))) st_116 ?_
      obtain ⟨v_117, T_117, L_117, X_117, q_117, st_117⟩ := callVirtual X_116 hx hZ (y := (⟨"com/example/dead_letter_replay/deadletterreplay/queue/Carries$Carried", "transaction", "()J"⟩ : MethodName)) (z := (⟨"com/example/dead_letter_replay/deadletterreplay/queue/Carries$Carried", "transaction", "()J"⟩ : MethodName)) (W := 2) hown (wdOf hw 109 rfl) (wdOf hw 110 rfl) (notFace_of_selects (args := #[]) (mvT hZ (wdOf hw 112 rfl))) (wdOf hw 112 rfl) (wdOf hw 111 rfl) (wdOf hw 55 rfl) (wdOf hw 113 rfl) (by decide) (rm_trx l Z a0 hw [] cr_1 ct_1 h0 n0 Z0 cH_1) (by decide) (by decide) (by decide) (by decide) e_116 cE_1 (g := (mkF m 29 #[sR_ ax, sR_ bx, sU_, sU_] [(.ref cr_1), (.long ct)])) rfl (by rw [hml]; rfl) (argsL := []) (rest := [(.long ct)]) (lenOf pd_2 rfl) rfl rfl (Nat.le_refl _) (hb hby d_rm_lu_29)
      obtain ⟨rfl, n_117, K_117⟩ := q_117
      have N_117 := Fr.app N_115 n_117
      refine Goes.go (U' := (T_117.setTop (mkF m 32 #[sR_ ax, sR_ bx, sU_, sU_] [(.long ct_1), (.long ct)]))) st_117 ?_
      refine Goes.go (U' := (T_117.setTop (mkF m 33 #[sR_ ax, sR_ bx, sU_, sU_] [(.int (XT.cmpL ct ct_1))]))) (fun t kt => ?_) ?_
      · skip
        refine XT.lcmp X_117.here hx rfl (hb hby d_rm_lu_32) rfl ?_
        exact kt
      by_cases ct0 : ct = ct_1
      · -- ct = ct_1
        refine Goes.go (U' := (T_117.setTop (mkF m 37 #[sR_ ax, sR_ bx, sU_, sU_] [(.ref ax)]))) (fun t kt => ?_) ?_
        · skip
          refine XS.ifNo X_117.here hx rfl (hb hby d_rm_lu_33) rfl (XT.ll_ne_f ct0) ?_
          refine XS.aloadN X_117.here hx rfl (hb hby d_rm_lu_36) rfl rfl ?_
          exact kt
        obtain ⟨T_118, X_118, e_118, st_118⟩ := getF X_117 hx hZ hown (host := "") (Or.inl (wdOf hw 25 rfl)) Via.refl K_117 F0_risk (g := (mkF m 37 #[sR_ ax, sR_ bx, sU_, sU_] [(.ref ax)])) rfl rfl (hb hby d_rm_lu_37)
        refine Goes.go (U' := (T_118.setTop (mkF m 40 #[sR_ ax, sR_ bx, sU_, sU_] [(.int rv)]))) st_118 ?_
        refine Goes.retI X_118 hx hlk hret (hb hby d_rm_lu_40) (by decide) (by decide) ?_
        try rw [e_118]
        exact ⟨_, _, rfl, N_117, K0, E0, F0_since, F0_last, F0_risk, F0_first, F0_held, fun q => absurd ct0 q.2.1, fun _ => rfl⟩
      · -- not ct = ct_1
        refine Goes.go (U' := (T_117.setTop (mkF m 42 #[sR_ ax, sR_ bx, sU_, sU_] [(.ref bx)]))) (fun t kt => ?_) ?_
        · skip
          refine XS.ifYes X_117.here hx rfl (pc0 := 33) (pc' := 41) rfl (hb hby d_rm_lu_33) rfl (XT.ll_ne_t ct0) (by decide) (by decide) ?_
          refine XS.aloadN X_117.here hx rfl (hb hby d_rm_lu_41) rfl rfl ?_
          exact kt
        obtain ⟨v_119, T_119, L_119, X_119, q_119, st_119⟩ := callVirtual X_117 hx hZ (y := (⟨"com/example/dead_letter_replay/deadletterreplay/queue/Carries$Carried", "from", "()Ljava/lang/Long;"⟩ : MethodName)) (z := (⟨"com/example/dead_letter_replay/deadletterreplay/queue/Carries$Carried", "from", "()Ljava/lang/Long;"⟩ : MethodName)) (W := 0) hown (wdOf hw 77 rfl) (wdOf hw 78 rfl) (notFace_of_selects (args := #[]) (mvT hZ (wdOf hw 80 rfl))) (wdOf hw 80 rfl) (wdOf hw 79 rfl) (wdOf hw 55 rfl) (wdOf hw 81 rfl) (by decide) (rm_from l Z a0 hw [] bx cv Lv.isRef h0 n0 Z0 Fb_from) (by decide) (by decide) (by decide) (by decide) K_117 Eb (g := (mkF m 42 #[sR_ ax, sR_ bx, sU_, sU_] [(.ref bx)])) rfl (by rw [hml]; rfl) (argsL := []) (rest := []) (lenOf pd_5 rfl) rfl rfl (Nat.le_refl _) (hb hby d_rm_lu_42)
        obtain ⟨rfl, n_119, K_119⟩ := q_119
        have N_119 := Fr.app N_117 n_119
        refine Goes.go (U' := (T_119.setTop (mkF m 45 #[sR_ ax, sR_ bx, sU_, sU_] [cv]))) st_119 ?_
        rcases co with _ | ox_120
        · -- none
          have lk_120 := Lv
          obtain rfl : cv = Value.null := Lv
          by_cases ch : hd = 0
          · -- held
            refine Goes.go (U' := (T_119.setTop (mkF m 56 #[sR_ ax, sR_ bx, sU_, sU_] [(.ref ax)]))) (fun t kt => ?_) ?_
            · skip
              refine XS.ifnullYes X_119.here hx rfl (pc0 := 45) (pc' := 55) rfl (hb hby d_rm_lu_45) rfl (by decide) (by decide) ?_
              refine XS.aloadN X_119.here hx rfl (hb hby d_rm_lu_55) rfl rfl ?_
              exact kt
            rcases fo with _ | ox_121
            · -- none
              have lk_121 := Lf
              obtain rfl : fv = Value.null := Lf
              obtain ⟨v_122, T_122, L_122, X_122, q_122, st_122⟩ := callVirtual X_119 hx hZ (y := (⟨"com/example/dead_letter_replay/deadletterreplay/queue/Carries", "floor", "()Ljava/lang/Long;"⟩ : MethodName)) (z := (⟨"com/example/dead_letter_replay/deadletterreplay/queue/Carries", "floor", "()Ljava/lang/Long;"⟩ : MethodName)) (W := 0) hown (wdOf hw 103 rfl) (wdOf hw 10 rfl) (notFace_of_selects (args := #[]) (mvT hZ (wdOf hw 12 rfl))) (wdOf hw 12 rfl) (wdOf hw 11 rfl) (wdOf hw 2 rfl) (wdOf hw 13 rfl) (by decide) (rm_floor l Z a0 hw [] ax (some (cf_1, ce_1, ct_1, cb_1)) none none hd h0 n0 Z0 ⟨_, _, _, _, E0, F0_since, F0_last, F0_risk, F0_first, F0_held, ck_1, lk_121⟩ (by rw [if_pos ch])) (by decide) (by decide) (by decide) (by decide) K_119 E0 (g := (mkF m 56 #[sR_ ax, sR_ bx, sU_, sU_] [(.ref ax)])) rfl (by rw [hml]; rfl) (argsL := []) (rest := []) (lenOf pd_5 rfl) rfl rfl (Nat.le_refl _) (hb hby d_rm_lu_56)
              obtain ⟨ow_122, q_122⟩ := q_122
              obtain ⟨rfl, q_122⟩ := q_122
              have q_122 := And.intro (rfl : (0 : Nat) = 0) q_122
              obtain ⟨u_122, n_122, K_122, W_122⟩ := q_122
              obtain rfl : ow_122 = Value.null := W_122
              have N_122 := Fr.app N_119 n_122
              refine Goes.go (U' := (T_122.setTop (mkF m 59 #[sR_ ax, sR_ bx, sU_, sU_] [.null]))) st_122 ?_
              refine Goes.go (U' := (T_122.setTop (mkF m 62 #[sR_ ax, sR_ bx, .val .null, sU_] [(.ref bx), (.ref ax)]))) (fun t kt => ?_) ?_
              · skip
                refine XS.astoreN X_122.here hx rfl (hb hby d_rm_lu_59) rfl rfl (l' := #[sR_ ax, sR_ bx, .val .null, sU_]) rfl ?_
                refine XS.aloadN X_122.here hx rfl (hb hby d_rm_lu_60) rfl rfl ?_
                refine XS.aloadN X_122.here hx rfl (hb hby d_rm_lu_61) rfl rfl ?_
                exact kt
              obtain ⟨v_123, T_123, L_123, X_123, q_123, st_123⟩ := callPrivate X_122 hx hZ (y := (⟨"com/example/dead_letter_replay/deadletterreplay/queue/Carries", "countedBefore", "(Lcom/example/dead_letter_replay/deadletterreplay/queue/Carries$Carried;)I"⟩ : MethodName)) (W := 0) hown (wdOf hw 82 rfl) (wdOf hw 83 rfl) (wdOf hw 84 rfl) (wdOf hw 1 rfl) (wdOf hw 2 rfl) (wdOf hw 85 rfl) (by decide) (rm_cb l Z a0 hw [] ax bx sv rv hd cb (.ref cr_1) .null .null (some (cf_1, ce_1, ct_1, cb_1)) none ce ct h0 n0 Z0 O BC o0 E0 F0_since F0_last F0_risk F0_first F0_held rfl ck_1 Eb Fb_from Fb_era Fb_transaction Fb_backend lk_121) (by decide) (by decide) (by decide) (by decide) K_122 E0 (g := (mkF m 62 #[sR_ ax, sR_ bx, .val .null, sU_] [(.ref bx), (.ref ax)])) rfl (by rw [hml]; rfl) (argsL := [(.ref bx)]) (rest := []) (lenOf pd_7 rfl) rfl rfl (Nat.le_refl _) (hb hby d_rm_lu_62)
              obtain ⟨hx_123, cz_123, rfl, n_123, K_123, GE__123, Gsince__123, Glast__123, Grisk__123, Gfirst__123, Gheld__123, ha_123, hb_123⟩ := q_123
              have N_123 := Fr.app N_122 n_123
              have f_124 : Exa Z T_123.heap ax "com/example/dead_letter_replay/deadletterreplay/queue/Carries" := E0.keep K_123
              have f_130 : CarV Z T_123.heap (.ref cr_1) (some (cf_1, ce_1, ct_1, cb_1)) := ck_1.keepX K_123 E0 (by decide) (by decide)
              have f_131 : LongV Z T_123.heap .null none := lk_121.keepX K_123 E0 (by decide)
              have f_132 : Exa Z T_123.heap bx "com/example/dead_letter_replay/deadletterreplay/queue/Carries$Carried" := Eb.keep K_123
              have f_133 : Fld Z T_123.heap bx "com/example/dead_letter_replay/deadletterreplay/queue/Carries$Carried" "from" "Ljava/lang/Long;" .null := Fb_from.keep K_123 (ninS (ne_exa Eb E0 (by decide)) nin0)
              have f_134 : Fld Z T_123.heap bx "com/example/dead_letter_replay/deadletterreplay/queue/Carries$Carried" "era" "J" (.long ce) := Fb_era.keep K_123 (ninS (ne_exa Eb E0 (by decide)) nin0)
              have f_135 : Fld Z T_123.heap bx "com/example/dead_letter_replay/deadletterreplay/queue/Carries$Carried" "transaction" "J" (.long ct) := Fb_transaction.keep K_123 (ninS (ne_exa Eb E0 (by decide)) nin0)
              have f_136 : Fld Z T_123.heap bx "com/example/dead_letter_replay/deadletterreplay/queue/Carries$Carried" "backend" "I" (.int cb) := Fb_backend.keep K_123 (ninS (ne_exa Eb E0 (by decide)) nin0)
              have f_137 : LongV Z T_123.heap .null none := lk_120.keepX K_123 E0 (by decide)
              have f_138 : Old Z n0 T_123.heap := O.keep K_123 (allS o0 all0)
              have f_139 : Exa Z T_123.heap cr_1 "com/example/dead_letter_replay/deadletterreplay/queue/Carries$Carried" := cE_1.keep K_123
              have f_140 : Fld Z T_123.heap cr_1 "com/example/dead_letter_replay/deadletterreplay/queue/Carries$Carried" "from" "Ljava/lang/Long;" cv_1 := cF_1.keep K_123 (ninS (ne_exa cE_1 E0 (by decide)) nin0)
              have f_141 : Fld Z T_123.heap cr_1 "com/example/dead_letter_replay/deadletterreplay/queue/Carries$Carried" "era" "J" (.long ce_1) := cG_1.keep K_123 (ninS (ne_exa cE_1 E0 (by decide)) nin0)
              have f_142 : Fld Z T_123.heap cr_1 "com/example/dead_letter_replay/deadletterreplay/queue/Carries$Carried" "transaction" "J" (.long ct_1) := cH_1.keep K_123 (ninS (ne_exa cE_1 E0 (by decide)) nin0)
              have f_143 : Fld Z T_123.heap cr_1 "com/example/dead_letter_replay/deadletterreplay/queue/Carries$Carried" "backend" "I" (.int cb_1) := cI_1.keep K_123 (ninS (ne_exa cE_1 E0 (by decide)) nin0)
              have f_144 : LongV Z T_123.heap cv_1 cf_1 := cL_1.keepX K_123 E0 (by decide)
              have K_145 : Keep h0 T_123.heap [ax] := K0.trans K_123 (allS (P := fun x => x ∈ [ax] ∨ h0.size ≤ x) (Or.inl (List.mem_of_getElem? (i := 0) rfl)) all0)
              have y_145 : n0 ≤ T_123.heap.size := Nat.le_trans Z0 K_145.1
              refine Goes.go (U' := (T_123.setTop (mkF m 65 #[sR_ ax, sR_ bx, .val .null, sU_] [(.int cz_123)]))) st_123 ?_
              refine Goes.go (U' := (T_123.setTop (mkF m 91 #[sR_ ax, sR_ bx, .val .null, sI_ cz_123] [(.int cz_123)]))) (fun t kt => ?_) ?_
              · skip
                refine XS.istoreN X_123.here hx rfl (hb hby d_rm_lu_65) rfl (l' := #[sR_ ax, sR_ bx, .val .null, sI_ cz_123]) rfl ?_
                refine XS.aloadN X_123.here hx rfl (hb hby d_rm_lu_66) rfl rfl ?_
                refine XS.ifnonnullNo X_123.here hx rfl (hb hby d_rm_lu_67) rfl ?_
                refine XS.iloadN X_123.here hx rfl (hb hby d_rm_lu_70) rfl ?_
                refine XS.goto X_123.here hx rfl (pc0 := 71) (pc' := 91) rfl (hb hby d_rm_lu_71) (by decide) (by decide) ?_
                exact kt
              refine Goes.retI X_123 hx hlk hret (hb hby d_rm_lu_91) (by decide) (by decide) ?_
              try rw [(rfl : T_123.heap = T_123.heap)]
              exact ⟨_, _, rfl, N_123, K_145, f_124, Gsince__123, Glast__123, Grisk__123, Gfirst__123, Gheld__123, fun p => ha_123 ⟨p.1, p.2.2⟩, fun p => hb_123 (fun r => p ⟨r.1, ct0, r.2⟩)⟩
            · -- some
              have lk_121 := Lf
              obtain ⟨or_121, rfl, oe_121, of_121⟩ := Lf
              obtain ⟨v_146, T_146, L_146, X_146, q_146, st_146⟩ := callVirtual X_119 hx hZ (y := (⟨"com/example/dead_letter_replay/deadletterreplay/queue/Carries", "floor", "()Ljava/lang/Long;"⟩ : MethodName)) (z := (⟨"com/example/dead_letter_replay/deadletterreplay/queue/Carries", "floor", "()Ljava/lang/Long;"⟩ : MethodName)) (W := 0) hown (wdOf hw 103 rfl) (wdOf hw 10 rfl) (notFace_of_selects (args := #[]) (mvT hZ (wdOf hw 12 rfl))) (wdOf hw 12 rfl) (wdOf hw 11 rfl) (wdOf hw 2 rfl) (wdOf hw 13 rfl) (by decide) (rm_floor l Z a0 hw [] ax (some (cf_1, ce_1, ct_1, cb_1)) (some ox_121) (some ox_121) hd h0 n0 Z0 ⟨_, _, _, _, E0, F0_since, F0_last, F0_risk, F0_first, F0_held, ck_1, lk_121⟩ (by rw [if_pos ch])) (by decide) (by decide) (by decide) (by decide) K_119 E0 (g := (mkF m 56 #[sR_ ax, sR_ bx, sU_, sU_] [(.ref ax)])) rfl (by rw [hml]; rfl) (argsL := []) (rest := []) (lenOf pd_5 rfl) rfl rfl (Nat.le_refl _) (hb hby d_rm_lu_56)
              obtain ⟨ow_146, q_146⟩ := q_146
              obtain ⟨rfl, q_146⟩ := q_146
              have q_146 := And.intro (rfl : (0 : Nat) = 0) q_146
              obtain ⟨u_146, n_146, K_146, W_146⟩ := q_146
              obtain ⟨wr_146, rfl, wE_146, wF_146⟩ := W_146
              have N_146 := Fr.app N_119 n_146
              refine Goes.go (U' := (T_146.setTop (mkF m 59 #[sR_ ax, sR_ bx, sU_, sU_] [(.ref wr_146)]))) st_146 ?_
              refine Goes.go (U' := (T_146.setTop (mkF m 62 #[sR_ ax, sR_ bx, sR_ wr_146, sU_] [(.ref bx), (.ref ax)]))) (fun t kt => ?_) ?_
              · skip
                refine XS.astoreN X_146.here hx rfl (hb hby d_rm_lu_59) rfl rfl (l' := #[sR_ ax, sR_ bx, sR_ wr_146, sU_]) rfl ?_
                refine XS.aloadN X_146.here hx rfl (hb hby d_rm_lu_60) rfl rfl ?_
                refine XS.aloadN X_146.here hx rfl (hb hby d_rm_lu_61) rfl rfl ?_
                exact kt
              obtain ⟨v_147, T_147, L_147, X_147, q_147, st_147⟩ := callPrivate X_146 hx hZ (y := (⟨"com/example/dead_letter_replay/deadletterreplay/queue/Carries", "countedBefore", "(Lcom/example/dead_letter_replay/deadletterreplay/queue/Carries$Carried;)I"⟩ : MethodName)) (W := 0) hown (wdOf hw 82 rfl) (wdOf hw 83 rfl) (wdOf hw 84 rfl) (wdOf hw 1 rfl) (wdOf hw 2 rfl) (wdOf hw 85 rfl) (by decide) (rm_cb l Z a0 hw [] ax bx sv rv hd cb (.ref cr_1) (.ref or_121) .null (some (cf_1, ce_1, ct_1, cb_1)) none ce ct h0 n0 Z0 O BC o0 E0 F0_since F0_last F0_risk F0_first F0_held rfl ck_1 Eb Fb_from Fb_era Fb_transaction Fb_backend lk_120) (by decide) (by decide) (by decide) (by decide) K_146 E0 (g := (mkF m 62 #[sR_ ax, sR_ bx, sR_ wr_146, sU_] [(.ref bx), (.ref ax)])) rfl (by rw [hml]; rfl) (argsL := [(.ref bx)]) (rest := []) (lenOf pd_7 rfl) rfl rfl (Nat.le_refl _) (hb hby d_rm_lu_62)
              obtain ⟨hx_147, cz_147, rfl, n_147, K_147, GE__147, Gsince__147, Glast__147, Grisk__147, Gfirst__147, Gheld__147, ha_147, hb_147⟩ := q_147
              have N_147 := Fr.app N_146 n_147
              have f_148 : Exa Z T_147.heap ax "com/example/dead_letter_replay/deadletterreplay/queue/Carries" := E0.keep K_147
              have f_154 : CarV Z T_147.heap (.ref cr_1) (some (cf_1, ce_1, ct_1, cb_1)) := ck_1.keepX K_147 E0 (by decide) (by decide)
              have f_155 : LongV Z T_147.heap (.ref or_121) (some ox_121) := lk_121.keepX K_147 E0 (by decide)
              have f_156 : Exa Z T_147.heap bx "com/example/dead_letter_replay/deadletterreplay/queue/Carries$Carried" := Eb.keep K_147
              have f_157 : Fld Z T_147.heap bx "com/example/dead_letter_replay/deadletterreplay/queue/Carries$Carried" "from" "Ljava/lang/Long;" .null := Fb_from.keep K_147 (ninS (ne_exa Eb E0 (by decide)) nin0)
              have f_158 : Fld Z T_147.heap bx "com/example/dead_letter_replay/deadletterreplay/queue/Carries$Carried" "era" "J" (.long ce) := Fb_era.keep K_147 (ninS (ne_exa Eb E0 (by decide)) nin0)
              have f_159 : Fld Z T_147.heap bx "com/example/dead_letter_replay/deadletterreplay/queue/Carries$Carried" "transaction" "J" (.long ct) := Fb_transaction.keep K_147 (ninS (ne_exa Eb E0 (by decide)) nin0)
              have f_160 : Fld Z T_147.heap bx "com/example/dead_letter_replay/deadletterreplay/queue/Carries$Carried" "backend" "I" (.int cb) := Fb_backend.keep K_147 (ninS (ne_exa Eb E0 (by decide)) nin0)
              have f_161 : LongV Z T_147.heap .null none := lk_120.keepX K_147 E0 (by decide)
              have f_162 : Old Z n0 T_147.heap := O.keep K_147 (allS o0 all0)
              have f_163 : Exa Z T_147.heap cr_1 "com/example/dead_letter_replay/deadletterreplay/queue/Carries$Carried" := cE_1.keep K_147
              have f_164 : Fld Z T_147.heap cr_1 "com/example/dead_letter_replay/deadletterreplay/queue/Carries$Carried" "from" "Ljava/lang/Long;" cv_1 := cF_1.keep K_147 (ninS (ne_exa cE_1 E0 (by decide)) nin0)
              have f_165 : Fld Z T_147.heap cr_1 "com/example/dead_letter_replay/deadletterreplay/queue/Carries$Carried" "era" "J" (.long ce_1) := cG_1.keep K_147 (ninS (ne_exa cE_1 E0 (by decide)) nin0)
              have f_166 : Fld Z T_147.heap cr_1 "com/example/dead_letter_replay/deadletterreplay/queue/Carries$Carried" "transaction" "J" (.long ct_1) := cH_1.keep K_147 (ninS (ne_exa cE_1 E0 (by decide)) nin0)
              have f_167 : Fld Z T_147.heap cr_1 "com/example/dead_letter_replay/deadletterreplay/queue/Carries$Carried" "backend" "I" (.int cb_1) := cI_1.keep K_147 (ninS (ne_exa cE_1 E0 (by decide)) nin0)
              have f_168 : LongV Z T_147.heap cv_1 cf_1 := cL_1.keepX K_147 E0 (by decide)
              have f_169 : Exa Z T_147.heap or_121 "java/lang/Long" := oe_121.keep K_147
              have f_170 : Fld Z T_147.heap or_121 "java/lang/Long" "value" "J" (.long ox_121) := of_121.keep K_147 (ninS (ne_exa oe_121 E0 (by decide)) nin0)
              have f_171 : Exa Z T_147.heap wr_146 "java/lang/Long" := wE_146.keep K_147
              have f_172 : Fld Z T_147.heap wr_146 "java/lang/Long" "value" "J" (.long ox_121) := wF_146.keep K_147 (ninS (ne_exa wE_146 E0 (by decide)) nin0)
              have K_173 : Keep h0 T_147.heap [ax] := K0.trans K_147 (allS (P := fun x => x ∈ [ax] ∨ h0.size ≤ x) (Or.inl (List.mem_of_getElem? (i := 0) rfl)) all0)
              have y_173 : n0 ≤ T_147.heap.size := Nat.le_trans Z0 K_173.1
              refine Goes.go (U' := (T_147.setTop (mkF m 65 #[sR_ ax, sR_ bx, sR_ wr_146, sU_] [(.int cz_147)]))) st_147 ?_
              refine Goes.go (U' := (T_147.setTop (mkF m 77 #[sR_ ax, sR_ bx, sR_ wr_146, sI_ cz_147] [(.ref bx), (.long (cz_147.toInt64))]))) (fun t kt => ?_) ?_
              · skip
                refine XS.istoreN X_147.here hx rfl (hb hby d_rm_lu_65) rfl (l' := #[sR_ ax, sR_ bx, sR_ wr_146, sI_ cz_147]) rfl ?_
                refine XS.aloadN X_147.here hx rfl (hb hby d_rm_lu_66) rfl rfl ?_
                refine XS.ifnonnullYes X_147.here hx rfl (pc0 := 67) (pc' := 74) rfl (hb hby d_rm_lu_67) rfl (by decide) (by decide) ?_
                refine XS.iloadN X_147.here hx rfl (hb hby d_rm_lu_74) rfl ?_
                refine XS.i2l X_147.here hx rfl (hb hby d_rm_lu_75) rfl ?_
                refine XS.aloadN X_147.here hx rfl (hb hby d_rm_lu_76) rfl rfl ?_
                exact kt
              obtain ⟨v_174, T_174, L_174, X_174, q_174, st_174⟩ := callVirtual X_147 hx hZ (y := (⟨"com/example/dead_letter_replay/deadletterreplay/queue/Carries$Carried", "era", "()J"⟩ : MethodName)) (z := (⟨"com/example/dead_letter_replay/deadletterreplay/queue/Carries$Carried", "era", "()J"⟩ : MethodName)) (W := 2) hown (wdOf hw 86 rfl) (wdOf hw 87 rfl) (notFace_of_selects (args := #[]) (mvT hZ (wdOf hw 89 rfl))) (wdOf hw 89 rfl) (wdOf hw 88 rfl) (wdOf hw 55 rfl) (wdOf hw 90 rfl) (by decide) (rm_era l Z a0 hw [] bx ce T_147.heap n0 y_173 f_158) (by decide) (by decide) (by decide) (by decide) (rfl : T_147.heap = T_147.heap) f_156 (g := (mkF m 77 #[sR_ ax, sR_ bx, sR_ wr_146, sI_ cz_147] [(.ref bx), (.long (cz_147.toInt64))])) rfl (by rw [hml]; rfl) (argsL := []) (rest := [(.long (cz_147.toInt64))]) (lenOf pd_2 rfl) rfl rfl (Nat.le_refl _) (hb hby d_rm_lu_77)
              obtain ⟨rfl, n_174, K_174⟩ := q_174
              have N_174 := Fr.app N_147 n_174
              refine Goes.go (U' := (T_174.setTop (mkF m 80 #[sR_ ax, sR_ bx, sR_ wr_146, sI_ cz_147] [(.long ce), (.long (cz_147.toInt64))]))) st_174 ?_
              refine Goes.go (U' := (T_174.setTop (mkF m 81 #[sR_ ax, sR_ bx, sR_ wr_146, sI_ cz_147] [(.ref wr_146), (.long ce), (.long (cz_147.toInt64))]))) (fun t kt => ?_) ?_
              · skip
                refine XS.aloadN X_174.here hx rfl (hb hby d_rm_lu_80) rfl rfl ?_
                exact kt
              obtain ⟨v_175, T_175, L_175, X_175, q_175, st_175⟩ := callVirtual X_174 hx hZ (y := (⟨"java/lang/Long", "longValue", "()J"⟩ : MethodName)) (z := (⟨"java/lang/Long", "longValue", "()J"⟩ : MethodName)) (W := 4) hown (wdOf hw 91 rfl) (wdOf hw 92 rfl) (notFace_of_selects (args := #[]) (mvT hZ (wdOf hw 94 rfl))) (wdOf hw 94 rfl) (wdOf hw 93 rfl) (wdOf hw 35 rfl) (wdOf hw 95 rfl) (by decide) (rm_lv l Z a0 hw [] wr_146 ox_121 T_147.heap n0 y_173 f_172) (by decide) (by decide) (by decide) (by decide) K_174 f_171 (g := (mkF m 81 #[sR_ ax, sR_ bx, sR_ wr_146, sI_ cz_147] [(.ref wr_146), (.long ce), (.long (cz_147.toInt64))])) rfl (by rw [hml]; rfl) (argsL := []) (rest := [(.long ce), (.long (cz_147.toInt64))]) (lenOf pd_2 rfl) rfl rfl (Nat.le_refl _) (hb hby d_rm_lu_81)
              obtain ⟨rfl, n_175, K_175⟩ := q_175
              have N_175 := Fr.app N_174 n_175
              refine Goes.go (U' := (T_175.setTop (mkF m 84 #[sR_ ax, sR_ bx, sR_ wr_146, sI_ cz_147] [(.long ox_121), (.long ce), (.long (cz_147.toInt64))]))) st_175 ?_
              refine Goes.go (U' := (T_175.setTop (mkF m 87 #[sR_ ax, sR_ bx, sR_ wr_146, sI_ cz_147] [(.long ((ce - ox_121) + (1 : Int64))), (.long (cz_147.toInt64))]))) (fun t kt => ?_) ?_
              · skip
                refine XS.lsub X_175.here hx rfl (hb hby d_rm_lu_84) rfl ?_
                refine XS.lconst X_175.here hx rfl (hb hby d_rm_lu_85) ?_
                refine XS.ladd X_175.here hx rfl (hb hby d_rm_lu_86) rfl ?_
                exact kt
              obtain ⟨v_176, T_176, L_176, X_176, q_176, st_176⟩ := callStatic X_175 hx hZ (y := (⟨"java/lang/Math", "min", "(JJ)J"⟩ : MethodName)) (W := 0) hown (wdOf hw 96 rfl) (wdOf hw 97 rfl) (wdOf hw 98 rfl) (wdOf hw 99 rfl) (by decide) (rm_min l Z a0 hw [] (cz_147.toInt64) ((ce - ox_121) + (1 : Int64)) T_147.heap n0 y_173) (by decide) (by decide) (by decide) (by decide) K_175 (g := (mkF m 87 #[sR_ ax, sR_ bx, sR_ wr_146, sI_ cz_147] [(.long ((ce - ox_121) + (1 : Int64))), (.long (cz_147.toInt64))])) rfl (by rw [hml]; rfl) (argsL := [(.long (cz_147.toInt64)), (.long ((ce - ox_121) + (1 : Int64)))]) (rest := []) (lenOf pd_8 rfl) rfl rfl (Nat.le_refl _) (hb hby d_rm_lu_87)
              obtain ⟨mz_176, rfl, n_176, K_176, -⟩ := q_176
              have N_176 := Fr.app N_175 n_176
              refine Goes.go (U' := (T_176.setTop (mkF m 90 #[sR_ ax, sR_ bx, sR_ wr_146, sI_ cz_147] [(.long mz_176)]))) st_176 ?_
              refine Goes.go (U' := (T_176.setTop (mkF m 91 #[sR_ ax, sR_ bx, sR_ wr_146, sI_ cz_147] [(.int (mz_176.toInt32))]))) (fun t kt => ?_) ?_
              · skip
                refine XS.l2i X_176.here hx rfl (hb hby d_rm_lu_90) rfl ?_
                exact kt
              refine Goes.retI X_176 hx hlk hret (hb hby d_rm_lu_91) (by decide) (by decide) ?_
              try rw [K_176]
              exact ⟨_, _, rfl, N_176, K_173, f_148, Gsince__147, Glast__147, Grisk__147, Gfirst__147, Gheld__147, fun p => ha_147 ⟨p.1, p.2.2⟩, fun p => hb_147 (fun r => p ⟨r.1, ct0, r.2⟩)⟩
          · -- held
            refine Goes.go (U' := (T_119.setTop (mkF m 56 #[sR_ ax, sR_ bx, sU_, sU_] [(.ref ax)]))) (fun t kt => ?_) ?_
            · skip
              refine XS.ifnullYes X_119.here hx rfl (pc0 := 45) (pc' := 55) rfl (hb hby d_rm_lu_45) rfl (by decide) (by decide) ?_
              refine XS.aloadN X_119.here hx rfl (hb hby d_rm_lu_55) rfl rfl ?_
              exact kt
            rcases fo with _ | ox_177
            · -- none
              have lk_177 := Lf
              obtain rfl : fv = Value.null := Lf
              obtain ⟨v_178, T_178, L_178, X_178, q_178, st_178⟩ := callVirtual X_119 hx hZ (y := (⟨"com/example/dead_letter_replay/deadletterreplay/queue/Carries", "floor", "()Ljava/lang/Long;"⟩ : MethodName)) (z := (⟨"com/example/dead_letter_replay/deadletterreplay/queue/Carries", "floor", "()Ljava/lang/Long;"⟩ : MethodName)) (W := 0) hown (wdOf hw 103 rfl) (wdOf hw 10 rfl) (notFace_of_selects (args := #[]) (mvT hZ (wdOf hw 12 rfl))) (wdOf hw 12 rfl) (wdOf hw 11 rfl) (wdOf hw 2 rfl) (wdOf hw 13 rfl) (by decide) (rm_floor l Z a0 hw [] ax (some (cf_1, ce_1, ct_1, cb_1)) none none hd h0 n0 Z0 ⟨_, _, _, _, E0, F0_since, F0_last, F0_risk, F0_first, F0_held, ck_1, lk_177⟩ (by rw [if_neg ch])) (by decide) (by decide) (by decide) (by decide) K_119 E0 (g := (mkF m 56 #[sR_ ax, sR_ bx, sU_, sU_] [(.ref ax)])) rfl (by rw [hml]; rfl) (argsL := []) (rest := []) (lenOf pd_5 rfl) rfl rfl (Nat.le_refl _) (hb hby d_rm_lu_56)
              obtain ⟨ow_178, q_178⟩ := q_178
              obtain ⟨rfl, q_178⟩ := q_178
              have q_178 := And.intro (rfl : (0 : Nat) = 0) q_178
              obtain ⟨u_178, n_178, K_178, W_178⟩ := q_178
              obtain rfl : ow_178 = Value.null := W_178
              have N_178 := Fr.app N_119 n_178
              refine Goes.go (U' := (T_178.setTop (mkF m 59 #[sR_ ax, sR_ bx, sU_, sU_] [.null]))) st_178 ?_
              refine Goes.go (U' := (T_178.setTop (mkF m 62 #[sR_ ax, sR_ bx, .val .null, sU_] [(.ref bx), (.ref ax)]))) (fun t kt => ?_) ?_
              · skip
                refine XS.astoreN X_178.here hx rfl (hb hby d_rm_lu_59) rfl rfl (l' := #[sR_ ax, sR_ bx, .val .null, sU_]) rfl ?_
                refine XS.aloadN X_178.here hx rfl (hb hby d_rm_lu_60) rfl rfl ?_
                refine XS.aloadN X_178.here hx rfl (hb hby d_rm_lu_61) rfl rfl ?_
                exact kt
              obtain ⟨v_179, T_179, L_179, X_179, q_179, st_179⟩ := callPrivate X_178 hx hZ (y := (⟨"com/example/dead_letter_replay/deadletterreplay/queue/Carries", "countedBefore", "(Lcom/example/dead_letter_replay/deadletterreplay/queue/Carries$Carried;)I"⟩ : MethodName)) (W := 0) hown (wdOf hw 82 rfl) (wdOf hw 83 rfl) (wdOf hw 84 rfl) (wdOf hw 1 rfl) (wdOf hw 2 rfl) (wdOf hw 85 rfl) (by decide) (rm_cb l Z a0 hw [] ax bx sv rv hd cb (.ref cr_1) .null .null (some (cf_1, ce_1, ct_1, cb_1)) none ce ct h0 n0 Z0 O BC o0 E0 F0_since F0_last F0_risk F0_first F0_held rfl ck_1 Eb Fb_from Fb_era Fb_transaction Fb_backend lk_177) (by decide) (by decide) (by decide) (by decide) K_178 E0 (g := (mkF m 62 #[sR_ ax, sR_ bx, .val .null, sU_] [(.ref bx), (.ref ax)])) rfl (by rw [hml]; rfl) (argsL := [(.ref bx)]) (rest := []) (lenOf pd_7 rfl) rfl rfl (Nat.le_refl _) (hb hby d_rm_lu_62)
              obtain ⟨hx_179, cz_179, rfl, n_179, K_179, GE__179, Gsince__179, Glast__179, Grisk__179, Gfirst__179, Gheld__179, ha_179, hb_179⟩ := q_179
              have N_179 := Fr.app N_178 n_179
              have f_180 : Exa Z T_179.heap ax "com/example/dead_letter_replay/deadletterreplay/queue/Carries" := E0.keep K_179
              have f_186 : CarV Z T_179.heap (.ref cr_1) (some (cf_1, ce_1, ct_1, cb_1)) := ck_1.keepX K_179 E0 (by decide) (by decide)
              have f_187 : LongV Z T_179.heap .null none := lk_177.keepX K_179 E0 (by decide)
              have f_188 : Exa Z T_179.heap bx "com/example/dead_letter_replay/deadletterreplay/queue/Carries$Carried" := Eb.keep K_179
              have f_189 : Fld Z T_179.heap bx "com/example/dead_letter_replay/deadletterreplay/queue/Carries$Carried" "from" "Ljava/lang/Long;" .null := Fb_from.keep K_179 (ninS (ne_exa Eb E0 (by decide)) nin0)
              have f_190 : Fld Z T_179.heap bx "com/example/dead_letter_replay/deadletterreplay/queue/Carries$Carried" "era" "J" (.long ce) := Fb_era.keep K_179 (ninS (ne_exa Eb E0 (by decide)) nin0)
              have f_191 : Fld Z T_179.heap bx "com/example/dead_letter_replay/deadletterreplay/queue/Carries$Carried" "transaction" "J" (.long ct) := Fb_transaction.keep K_179 (ninS (ne_exa Eb E0 (by decide)) nin0)
              have f_192 : Fld Z T_179.heap bx "com/example/dead_letter_replay/deadletterreplay/queue/Carries$Carried" "backend" "I" (.int cb) := Fb_backend.keep K_179 (ninS (ne_exa Eb E0 (by decide)) nin0)
              have f_193 : LongV Z T_179.heap .null none := lk_120.keepX K_179 E0 (by decide)
              have f_194 : Old Z n0 T_179.heap := O.keep K_179 (allS o0 all0)
              have f_195 : Exa Z T_179.heap cr_1 "com/example/dead_letter_replay/deadletterreplay/queue/Carries$Carried" := cE_1.keep K_179
              have f_196 : Fld Z T_179.heap cr_1 "com/example/dead_letter_replay/deadletterreplay/queue/Carries$Carried" "from" "Ljava/lang/Long;" cv_1 := cF_1.keep K_179 (ninS (ne_exa cE_1 E0 (by decide)) nin0)
              have f_197 : Fld Z T_179.heap cr_1 "com/example/dead_letter_replay/deadletterreplay/queue/Carries$Carried" "era" "J" (.long ce_1) := cG_1.keep K_179 (ninS (ne_exa cE_1 E0 (by decide)) nin0)
              have f_198 : Fld Z T_179.heap cr_1 "com/example/dead_letter_replay/deadletterreplay/queue/Carries$Carried" "transaction" "J" (.long ct_1) := cH_1.keep K_179 (ninS (ne_exa cE_1 E0 (by decide)) nin0)
              have f_199 : Fld Z T_179.heap cr_1 "com/example/dead_letter_replay/deadletterreplay/queue/Carries$Carried" "backend" "I" (.int cb_1) := cI_1.keep K_179 (ninS (ne_exa cE_1 E0 (by decide)) nin0)
              have f_200 : LongV Z T_179.heap cv_1 cf_1 := cL_1.keepX K_179 E0 (by decide)
              have K_201 : Keep h0 T_179.heap [ax] := K0.trans K_179 (allS (P := fun x => x ∈ [ax] ∨ h0.size ≤ x) (Or.inl (List.mem_of_getElem? (i := 0) rfl)) all0)
              have y_201 : n0 ≤ T_179.heap.size := Nat.le_trans Z0 K_201.1
              refine Goes.go (U' := (T_179.setTop (mkF m 65 #[sR_ ax, sR_ bx, .val .null, sU_] [(.int cz_179)]))) st_179 ?_
              refine Goes.go (U' := (T_179.setTop (mkF m 91 #[sR_ ax, sR_ bx, .val .null, sI_ cz_179] [(.int cz_179)]))) (fun t kt => ?_) ?_
              · skip
                refine XS.istoreN X_179.here hx rfl (hb hby d_rm_lu_65) rfl (l' := #[sR_ ax, sR_ bx, .val .null, sI_ cz_179]) rfl ?_
                refine XS.aloadN X_179.here hx rfl (hb hby d_rm_lu_66) rfl rfl ?_
                refine XS.ifnonnullNo X_179.here hx rfl (hb hby d_rm_lu_67) rfl ?_
                refine XS.iloadN X_179.here hx rfl (hb hby d_rm_lu_70) rfl ?_
                refine XS.goto X_179.here hx rfl (pc0 := 71) (pc' := 91) rfl (hb hby d_rm_lu_71) (by decide) (by decide) ?_
                exact kt
              refine Goes.retI X_179 hx hlk hret (hb hby d_rm_lu_91) (by decide) (by decide) ?_
              try rw [(rfl : T_179.heap = T_179.heap)]
              exact ⟨_, _, rfl, N_179, K_201, f_180, Gsince__179, Glast__179, Grisk__179, Gfirst__179, Gheld__179, fun p => ha_179 ⟨p.1, p.2.2⟩, fun p => hb_179 (fun r => p ⟨r.1, ct0, r.2⟩)⟩
            · -- some
              have lk_177 := Lf
              obtain ⟨or_177, rfl, oe_177, of_177⟩ := Lf
              obtain ⟨v_202, T_202, L_202, X_202, q_202, st_202⟩ := callVirtual X_119 hx hZ (y := (⟨"com/example/dead_letter_replay/deadletterreplay/queue/Carries", "floor", "()Ljava/lang/Long;"⟩ : MethodName)) (z := (⟨"com/example/dead_letter_replay/deadletterreplay/queue/Carries", "floor", "()Ljava/lang/Long;"⟩ : MethodName)) (W := 0) hown (wdOf hw 103 rfl) (wdOf hw 10 rfl) (notFace_of_selects (args := #[]) (mvT hZ (wdOf hw 12 rfl))) (wdOf hw 12 rfl) (wdOf hw 11 rfl) (wdOf hw 2 rfl) (wdOf hw 13 rfl) (by decide) (rm_floor l Z a0 hw [] ax (some (cf_1, ce_1, ct_1, cb_1)) (some ox_177) none hd h0 n0 Z0 ⟨_, _, _, _, E0, F0_since, F0_last, F0_risk, F0_first, F0_held, ck_1, lk_177⟩ (by rw [if_neg ch])) (by decide) (by decide) (by decide) (by decide) K_119 E0 (g := (mkF m 56 #[sR_ ax, sR_ bx, sU_, sU_] [(.ref ax)])) rfl (by rw [hml]; rfl) (argsL := []) (rest := []) (lenOf pd_5 rfl) rfl rfl (Nat.le_refl _) (hb hby d_rm_lu_56)
              obtain ⟨ow_202, q_202⟩ := q_202
              obtain ⟨rfl, q_202⟩ := q_202
              have q_202 := And.intro (rfl : (0 : Nat) = 0) q_202
              obtain ⟨u_202, n_202, K_202, W_202⟩ := q_202
              obtain rfl : ow_202 = Value.null := W_202
              have N_202 := Fr.app N_119 n_202
              refine Goes.go (U' := (T_202.setTop (mkF m 59 #[sR_ ax, sR_ bx, sU_, sU_] [.null]))) st_202 ?_
              refine Goes.go (U' := (T_202.setTop (mkF m 62 #[sR_ ax, sR_ bx, .val .null, sU_] [(.ref bx), (.ref ax)]))) (fun t kt => ?_) ?_
              · skip
                refine XS.astoreN X_202.here hx rfl (hb hby d_rm_lu_59) rfl rfl (l' := #[sR_ ax, sR_ bx, .val .null, sU_]) rfl ?_
                refine XS.aloadN X_202.here hx rfl (hb hby d_rm_lu_60) rfl rfl ?_
                refine XS.aloadN X_202.here hx rfl (hb hby d_rm_lu_61) rfl rfl ?_
                exact kt
              obtain ⟨v_203, T_203, L_203, X_203, q_203, st_203⟩ := callPrivate X_202 hx hZ (y := (⟨"com/example/dead_letter_replay/deadletterreplay/queue/Carries", "countedBefore", "(Lcom/example/dead_letter_replay/deadletterreplay/queue/Carries$Carried;)I"⟩ : MethodName)) (W := 0) hown (wdOf hw 82 rfl) (wdOf hw 83 rfl) (wdOf hw 84 rfl) (wdOf hw 1 rfl) (wdOf hw 2 rfl) (wdOf hw 85 rfl) (by decide) (rm_cb l Z a0 hw [] ax bx sv rv hd cb (.ref cr_1) (.ref or_177) .null (some (cf_1, ce_1, ct_1, cb_1)) none ce ct h0 n0 Z0 O BC o0 E0 F0_since F0_last F0_risk F0_first F0_held rfl ck_1 Eb Fb_from Fb_era Fb_transaction Fb_backend lk_120) (by decide) (by decide) (by decide) (by decide) K_202 E0 (g := (mkF m 62 #[sR_ ax, sR_ bx, .val .null, sU_] [(.ref bx), (.ref ax)])) rfl (by rw [hml]; rfl) (argsL := [(.ref bx)]) (rest := []) (lenOf pd_7 rfl) rfl rfl (Nat.le_refl _) (hb hby d_rm_lu_62)
              obtain ⟨hx_203, cz_203, rfl, n_203, K_203, GE__203, Gsince__203, Glast__203, Grisk__203, Gfirst__203, Gheld__203, ha_203, hb_203⟩ := q_203
              have N_203 := Fr.app N_202 n_203
              have f_204 : Exa Z T_203.heap ax "com/example/dead_letter_replay/deadletterreplay/queue/Carries" := E0.keep K_203
              have f_210 : CarV Z T_203.heap (.ref cr_1) (some (cf_1, ce_1, ct_1, cb_1)) := ck_1.keepX K_203 E0 (by decide) (by decide)
              have f_211 : LongV Z T_203.heap (.ref or_177) (some ox_177) := lk_177.keepX K_203 E0 (by decide)
              have f_212 : Exa Z T_203.heap bx "com/example/dead_letter_replay/deadletterreplay/queue/Carries$Carried" := Eb.keep K_203
              have f_213 : Fld Z T_203.heap bx "com/example/dead_letter_replay/deadletterreplay/queue/Carries$Carried" "from" "Ljava/lang/Long;" .null := Fb_from.keep K_203 (ninS (ne_exa Eb E0 (by decide)) nin0)
              have f_214 : Fld Z T_203.heap bx "com/example/dead_letter_replay/deadletterreplay/queue/Carries$Carried" "era" "J" (.long ce) := Fb_era.keep K_203 (ninS (ne_exa Eb E0 (by decide)) nin0)
              have f_215 : Fld Z T_203.heap bx "com/example/dead_letter_replay/deadletterreplay/queue/Carries$Carried" "transaction" "J" (.long ct) := Fb_transaction.keep K_203 (ninS (ne_exa Eb E0 (by decide)) nin0)
              have f_216 : Fld Z T_203.heap bx "com/example/dead_letter_replay/deadletterreplay/queue/Carries$Carried" "backend" "I" (.int cb) := Fb_backend.keep K_203 (ninS (ne_exa Eb E0 (by decide)) nin0)
              have f_217 : LongV Z T_203.heap .null none := lk_120.keepX K_203 E0 (by decide)
              have f_218 : Old Z n0 T_203.heap := O.keep K_203 (allS o0 all0)
              have f_219 : Exa Z T_203.heap cr_1 "com/example/dead_letter_replay/deadletterreplay/queue/Carries$Carried" := cE_1.keep K_203
              have f_220 : Fld Z T_203.heap cr_1 "com/example/dead_letter_replay/deadletterreplay/queue/Carries$Carried" "from" "Ljava/lang/Long;" cv_1 := cF_1.keep K_203 (ninS (ne_exa cE_1 E0 (by decide)) nin0)
              have f_221 : Fld Z T_203.heap cr_1 "com/example/dead_letter_replay/deadletterreplay/queue/Carries$Carried" "era" "J" (.long ce_1) := cG_1.keep K_203 (ninS (ne_exa cE_1 E0 (by decide)) nin0)
              have f_222 : Fld Z T_203.heap cr_1 "com/example/dead_letter_replay/deadletterreplay/queue/Carries$Carried" "transaction" "J" (.long ct_1) := cH_1.keep K_203 (ninS (ne_exa cE_1 E0 (by decide)) nin0)
              have f_223 : Fld Z T_203.heap cr_1 "com/example/dead_letter_replay/deadletterreplay/queue/Carries$Carried" "backend" "I" (.int cb_1) := cI_1.keep K_203 (ninS (ne_exa cE_1 E0 (by decide)) nin0)
              have f_224 : LongV Z T_203.heap cv_1 cf_1 := cL_1.keepX K_203 E0 (by decide)
              have f_225 : Exa Z T_203.heap or_177 "java/lang/Long" := oe_177.keep K_203
              have f_226 : Fld Z T_203.heap or_177 "java/lang/Long" "value" "J" (.long ox_177) := of_177.keep K_203 (ninS (ne_exa oe_177 E0 (by decide)) nin0)
              have K_227 : Keep h0 T_203.heap [ax] := K0.trans K_203 (allS (P := fun x => x ∈ [ax] ∨ h0.size ≤ x) (Or.inl (List.mem_of_getElem? (i := 0) rfl)) all0)
              have y_227 : n0 ≤ T_203.heap.size := Nat.le_trans Z0 K_227.1
              refine Goes.go (U' := (T_203.setTop (mkF m 65 #[sR_ ax, sR_ bx, .val .null, sU_] [(.int cz_203)]))) st_203 ?_
              refine Goes.go (U' := (T_203.setTop (mkF m 91 #[sR_ ax, sR_ bx, .val .null, sI_ cz_203] [(.int cz_203)]))) (fun t kt => ?_) ?_
              · skip
                refine XS.istoreN X_203.here hx rfl (hb hby d_rm_lu_65) rfl (l' := #[sR_ ax, sR_ bx, .val .null, sI_ cz_203]) rfl ?_
                refine XS.aloadN X_203.here hx rfl (hb hby d_rm_lu_66) rfl rfl ?_
                refine XS.ifnonnullNo X_203.here hx rfl (hb hby d_rm_lu_67) rfl ?_
                refine XS.iloadN X_203.here hx rfl (hb hby d_rm_lu_70) rfl ?_
                refine XS.goto X_203.here hx rfl (pc0 := 71) (pc' := 91) rfl (hb hby d_rm_lu_71) (by decide) (by decide) ?_
                exact kt
              refine Goes.retI X_203 hx hlk hret (hb hby d_rm_lu_91) (by decide) (by decide) ?_
              try rw [(rfl : T_203.heap = T_203.heap)]
              exact ⟨_, _, rfl, N_203, K_227, f_204, Gsince__203, Glast__203, Grisk__203, Gfirst__203, Gheld__203, fun p => ha_203 ⟨p.1, p.2.2⟩, fun p => hb_203 (fun r => p ⟨r.1, ct0, r.2⟩)⟩
        · -- some
          have lk_120 := Lv
          obtain ⟨or_120, rfl, oe_120, of_120⟩ := Lv
          refine Goes.go (U' := (T_119.setTop (mkF m 49 #[sR_ ax, sR_ bx, sU_, sU_] [(.ref bx)]))) (fun t kt => ?_) ?_
          · skip
            refine XS.ifnullNo X_119.here hx rfl (hb hby d_rm_lu_45) rfl ?_
            refine XS.aloadN X_119.here hx rfl (hb hby d_rm_lu_48) rfl rfl ?_
            exact kt
          obtain ⟨v_228, T_228, L_228, X_228, q_228, st_228⟩ := callVirtual X_119 hx hZ (y := (⟨"com/example/dead_letter_replay/deadletterreplay/queue/Carries$Carried", "from", "()Ljava/lang/Long;"⟩ : MethodName)) (z := (⟨"com/example/dead_letter_replay/deadletterreplay/queue/Carries$Carried", "from", "()Ljava/lang/Long;"⟩ : MethodName)) (W := 0) hown (wdOf hw 77 rfl) (wdOf hw 78 rfl) (notFace_of_selects (args := #[]) (mvT hZ (wdOf hw 80 rfl))) (wdOf hw 80 rfl) (wdOf hw 79 rfl) (wdOf hw 55 rfl) (wdOf hw 81 rfl) (by decide) (rm_from l Z a0 hw [] bx (.ref or_120) rfl h0 n0 Z0 Fb_from) (by decide) (by decide) (by decide) (by decide) K_119 Eb (g := (mkF m 49 #[sR_ ax, sR_ bx, sU_, sU_] [(.ref bx)])) rfl (by rw [hml]; rfl) (argsL := []) (rest := []) (lenOf pd_5 rfl) rfl rfl (Nat.le_refl _) (hb hby d_rm_lu_49)
          obtain ⟨rfl, n_228, K_228⟩ := q_228
          have N_228 := Fr.app N_119 n_228
          refine Goes.go (U' := (T_228.setTop (mkF m 52 #[sR_ ax, sR_ bx, sU_, sU_] [(.ref or_120)]))) st_228 ?_
          refine Goes.go (U' := (T_228.setTop (mkF m 62 #[sR_ ax, sR_ bx, sR_ or_120, sU_] [(.ref bx), (.ref ax)]))) (fun t kt => ?_) ?_
          · skip
            refine XS.goto X_228.here hx rfl (pc0 := 52) (pc' := 59) rfl (hb hby d_rm_lu_52) (by decide) (by decide) ?_
            refine XS.astoreN X_228.here hx rfl (hb hby d_rm_lu_59) rfl rfl (l' := #[sR_ ax, sR_ bx, sR_ or_120, sU_]) rfl ?_
            refine XS.aloadN X_228.here hx rfl (hb hby d_rm_lu_60) rfl rfl ?_
            refine XS.aloadN X_228.here hx rfl (hb hby d_rm_lu_61) rfl rfl ?_
            exact kt
          obtain ⟨v_229, T_229, L_229, X_229, q_229, st_229⟩ := callPrivate X_228 hx hZ (y := (⟨"com/example/dead_letter_replay/deadletterreplay/queue/Carries", "countedBefore", "(Lcom/example/dead_letter_replay/deadletterreplay/queue/Carries$Carried;)I"⟩ : MethodName)) (W := 0) hown (wdOf hw 82 rfl) (wdOf hw 83 rfl) (wdOf hw 84 rfl) (wdOf hw 1 rfl) (wdOf hw 2 rfl) (wdOf hw 85 rfl) (by decide) (rm_cb l Z a0 hw [] ax bx sv rv hd cb (.ref cr_1) fv (.ref or_120) (some (cf_1, ce_1, ct_1, cb_1)) (some ox_120) ce ct h0 n0 Z0 O BC o0 E0 F0_since F0_last F0_risk F0_first F0_held Lf.isRef ck_1 Eb Fb_from Fb_era Fb_transaction Fb_backend lk_120) (by decide) (by decide) (by decide) (by decide) K_228 E0 (g := (mkF m 62 #[sR_ ax, sR_ bx, sR_ or_120, sU_] [(.ref bx), (.ref ax)])) rfl (by rw [hml]; rfl) (argsL := [(.ref bx)]) (rest := []) (lenOf pd_7 rfl) rfl rfl (Nat.le_refl _) (hb hby d_rm_lu_62)
          obtain ⟨hx_229, cz_229, rfl, n_229, K_229, GE__229, Gsince__229, Glast__229, Grisk__229, Gfirst__229, Gheld__229, ha_229, hb_229⟩ := q_229
          have N_229 := Fr.app N_228 n_229
          have f_230 : Exa Z T_229.heap ax "com/example/dead_letter_replay/deadletterreplay/queue/Carries" := E0.keep K_229
          have f_236 : CarV Z T_229.heap (.ref cr_1) (some (cf_1, ce_1, ct_1, cb_1)) := ck_1.keepX K_229 E0 (by decide) (by decide)
          have f_237 : LongV Z T_229.heap fv fo := Lf.keepX K_229 E0 (by decide)
          have f_238 : Exa Z T_229.heap bx "com/example/dead_letter_replay/deadletterreplay/queue/Carries$Carried" := Eb.keep K_229
          have f_239 : Fld Z T_229.heap bx "com/example/dead_letter_replay/deadletterreplay/queue/Carries$Carried" "from" "Ljava/lang/Long;" (.ref or_120) := Fb_from.keep K_229 (ninS (ne_exa Eb E0 (by decide)) nin0)
          have f_240 : Fld Z T_229.heap bx "com/example/dead_letter_replay/deadletterreplay/queue/Carries$Carried" "era" "J" (.long ce) := Fb_era.keep K_229 (ninS (ne_exa Eb E0 (by decide)) nin0)
          have f_241 : Fld Z T_229.heap bx "com/example/dead_letter_replay/deadletterreplay/queue/Carries$Carried" "transaction" "J" (.long ct) := Fb_transaction.keep K_229 (ninS (ne_exa Eb E0 (by decide)) nin0)
          have f_242 : Fld Z T_229.heap bx "com/example/dead_letter_replay/deadletterreplay/queue/Carries$Carried" "backend" "I" (.int cb) := Fb_backend.keep K_229 (ninS (ne_exa Eb E0 (by decide)) nin0)
          have f_243 : LongV Z T_229.heap (.ref or_120) (some ox_120) := lk_120.keepX K_229 E0 (by decide)
          have f_244 : Old Z n0 T_229.heap := O.keep K_229 (allS o0 all0)
          have f_245 : Exa Z T_229.heap cr_1 "com/example/dead_letter_replay/deadletterreplay/queue/Carries$Carried" := cE_1.keep K_229
          have f_246 : Fld Z T_229.heap cr_1 "com/example/dead_letter_replay/deadletterreplay/queue/Carries$Carried" "from" "Ljava/lang/Long;" cv_1 := cF_1.keep K_229 (ninS (ne_exa cE_1 E0 (by decide)) nin0)
          have f_247 : Fld Z T_229.heap cr_1 "com/example/dead_letter_replay/deadletterreplay/queue/Carries$Carried" "era" "J" (.long ce_1) := cG_1.keep K_229 (ninS (ne_exa cE_1 E0 (by decide)) nin0)
          have f_248 : Fld Z T_229.heap cr_1 "com/example/dead_letter_replay/deadletterreplay/queue/Carries$Carried" "transaction" "J" (.long ct_1) := cH_1.keep K_229 (ninS (ne_exa cE_1 E0 (by decide)) nin0)
          have f_249 : Fld Z T_229.heap cr_1 "com/example/dead_letter_replay/deadletterreplay/queue/Carries$Carried" "backend" "I" (.int cb_1) := cI_1.keep K_229 (ninS (ne_exa cE_1 E0 (by decide)) nin0)
          have f_250 : LongV Z T_229.heap cv_1 cf_1 := cL_1.keepX K_229 E0 (by decide)
          have f_251 : Exa Z T_229.heap or_120 "java/lang/Long" := oe_120.keep K_229
          have f_252 : Fld Z T_229.heap or_120 "java/lang/Long" "value" "J" (.long ox_120) := of_120.keep K_229 (ninS (ne_exa oe_120 E0 (by decide)) nin0)
          have K_253 : Keep h0 T_229.heap [ax] := K0.trans K_229 (allS (P := fun x => x ∈ [ax] ∨ h0.size ≤ x) (Or.inl (List.mem_of_getElem? (i := 0) rfl)) all0)
          have y_253 : n0 ≤ T_229.heap.size := Nat.le_trans Z0 K_253.1
          refine Goes.go (U' := (T_229.setTop (mkF m 65 #[sR_ ax, sR_ bx, sR_ or_120, sU_] [(.int cz_229)]))) st_229 ?_
          refine Goes.go (U' := (T_229.setTop (mkF m 77 #[sR_ ax, sR_ bx, sR_ or_120, sI_ cz_229] [(.ref bx), (.long (cz_229.toInt64))]))) (fun t kt => ?_) ?_
          · skip
            refine XS.istoreN X_229.here hx rfl (hb hby d_rm_lu_65) rfl (l' := #[sR_ ax, sR_ bx, sR_ or_120, sI_ cz_229]) rfl ?_
            refine XS.aloadN X_229.here hx rfl (hb hby d_rm_lu_66) rfl rfl ?_
            refine XS.ifnonnullYes X_229.here hx rfl (pc0 := 67) (pc' := 74) rfl (hb hby d_rm_lu_67) rfl (by decide) (by decide) ?_
            refine XS.iloadN X_229.here hx rfl (hb hby d_rm_lu_74) rfl ?_
            refine XS.i2l X_229.here hx rfl (hb hby d_rm_lu_75) rfl ?_
            refine XS.aloadN X_229.here hx rfl (hb hby d_rm_lu_76) rfl rfl ?_
            exact kt
          obtain ⟨v_254, T_254, L_254, X_254, q_254, st_254⟩ := callVirtual X_229 hx hZ (y := (⟨"com/example/dead_letter_replay/deadletterreplay/queue/Carries$Carried", "era", "()J"⟩ : MethodName)) (z := (⟨"com/example/dead_letter_replay/deadletterreplay/queue/Carries$Carried", "era", "()J"⟩ : MethodName)) (W := 2) hown (wdOf hw 86 rfl) (wdOf hw 87 rfl) (notFace_of_selects (args := #[]) (mvT hZ (wdOf hw 89 rfl))) (wdOf hw 89 rfl) (wdOf hw 88 rfl) (wdOf hw 55 rfl) (wdOf hw 90 rfl) (by decide) (rm_era l Z a0 hw [] bx ce T_229.heap n0 y_253 f_240) (by decide) (by decide) (by decide) (by decide) (rfl : T_229.heap = T_229.heap) f_238 (g := (mkF m 77 #[sR_ ax, sR_ bx, sR_ or_120, sI_ cz_229] [(.ref bx), (.long (cz_229.toInt64))])) rfl (by rw [hml]; rfl) (argsL := []) (rest := [(.long (cz_229.toInt64))]) (lenOf pd_2 rfl) rfl rfl (Nat.le_refl _) (hb hby d_rm_lu_77)
          obtain ⟨rfl, n_254, K_254⟩ := q_254
          have N_254 := Fr.app N_229 n_254
          refine Goes.go (U' := (T_254.setTop (mkF m 80 #[sR_ ax, sR_ bx, sR_ or_120, sI_ cz_229] [(.long ce), (.long (cz_229.toInt64))]))) st_254 ?_
          refine Goes.go (U' := (T_254.setTop (mkF m 81 #[sR_ ax, sR_ bx, sR_ or_120, sI_ cz_229] [(.ref or_120), (.long ce), (.long (cz_229.toInt64))]))) (fun t kt => ?_) ?_
          · skip
            refine XS.aloadN X_254.here hx rfl (hb hby d_rm_lu_80) rfl rfl ?_
            exact kt
          obtain ⟨v_255, T_255, L_255, X_255, q_255, st_255⟩ := callVirtual X_254 hx hZ (y := (⟨"java/lang/Long", "longValue", "()J"⟩ : MethodName)) (z := (⟨"java/lang/Long", "longValue", "()J"⟩ : MethodName)) (W := 4) hown (wdOf hw 91 rfl) (wdOf hw 92 rfl) (notFace_of_selects (args := #[]) (mvT hZ (wdOf hw 94 rfl))) (wdOf hw 94 rfl) (wdOf hw 93 rfl) (wdOf hw 35 rfl) (wdOf hw 95 rfl) (by decide) (rm_lv l Z a0 hw [] or_120 ox_120 T_229.heap n0 y_253 f_252) (by decide) (by decide) (by decide) (by decide) K_254 f_251 (g := (mkF m 81 #[sR_ ax, sR_ bx, sR_ or_120, sI_ cz_229] [(.ref or_120), (.long ce), (.long (cz_229.toInt64))])) rfl (by rw [hml]; rfl) (argsL := []) (rest := [(.long ce), (.long (cz_229.toInt64))]) (lenOf pd_2 rfl) rfl rfl (Nat.le_refl _) (hb hby d_rm_lu_81)
          obtain ⟨rfl, n_255, K_255⟩ := q_255
          have N_255 := Fr.app N_254 n_255
          refine Goes.go (U' := (T_255.setTop (mkF m 84 #[sR_ ax, sR_ bx, sR_ or_120, sI_ cz_229] [(.long ox_120), (.long ce), (.long (cz_229.toInt64))]))) st_255 ?_
          refine Goes.go (U' := (T_255.setTop (mkF m 87 #[sR_ ax, sR_ bx, sR_ or_120, sI_ cz_229] [(.long ((ce - ox_120) + (1 : Int64))), (.long (cz_229.toInt64))]))) (fun t kt => ?_) ?_
          · skip
            refine XS.lsub X_255.here hx rfl (hb hby d_rm_lu_84) rfl ?_
            refine XS.lconst X_255.here hx rfl (hb hby d_rm_lu_85) ?_
            refine XS.ladd X_255.here hx rfl (hb hby d_rm_lu_86) rfl ?_
            exact kt
          obtain ⟨v_256, T_256, L_256, X_256, q_256, st_256⟩ := callStatic X_255 hx hZ (y := (⟨"java/lang/Math", "min", "(JJ)J"⟩ : MethodName)) (W := 0) hown (wdOf hw 96 rfl) (wdOf hw 97 rfl) (wdOf hw 98 rfl) (wdOf hw 99 rfl) (by decide) (rm_min l Z a0 hw [] (cz_229.toInt64) ((ce - ox_120) + (1 : Int64)) T_229.heap n0 y_253) (by decide) (by decide) (by decide) (by decide) K_255 (g := (mkF m 87 #[sR_ ax, sR_ bx, sR_ or_120, sI_ cz_229] [(.long ((ce - ox_120) + (1 : Int64))), (.long (cz_229.toInt64))])) rfl (by rw [hml]; rfl) (argsL := [(.long (cz_229.toInt64)), (.long ((ce - ox_120) + (1 : Int64)))]) (rest := []) (lenOf pd_8 rfl) rfl rfl (Nat.le_refl _) (hb hby d_rm_lu_87)
          obtain ⟨mz_256, rfl, n_256, K_256, -⟩ := q_256
          have N_256 := Fr.app N_255 n_256
          refine Goes.go (U' := (T_256.setTop (mkF m 90 #[sR_ ax, sR_ bx, sR_ or_120, sI_ cz_229] [(.long mz_256)]))) st_256 ?_
          refine Goes.go (U' := (T_256.setTop (mkF m 91 #[sR_ ax, sR_ bx, sR_ or_120, sI_ cz_229] [(.int (mz_256.toInt32))]))) (fun t kt => ?_) ?_
          · skip
            refine XS.l2i X_256.here hx rfl (hb hby d_rm_lu_90) rfl ?_
            exact kt
          refine Goes.retI X_256 hx hlk hret (hb hby d_rm_lu_91) (by decide) (by decide) ?_
          try rw [K_256]
          exact ⟨_, _, rfl, N_256, K_253, f_230, Gsince__229, Glast__229, Grisk__229, Gfirst__229, Gheld__229, fun p => ha_229 ⟨p.1, p.2.2⟩, fun p => hb_229 (fun r => p ⟨r.1, ct0, r.2⟩)⟩
    · -- not cb = cb_1
      refine Goes.go (U' := (T_114.setTop (mkF m 42 #[sR_ ax, sR_ bx, sU_, sU_] [(.ref bx)]))) (fun t kt => ?_) ?_
      · skip
        refine XS.icmpYes X_114.here hx rfl (pc0 := 18) (pc' := 41) rfl (hb hby d_rm_lu_18) rfl (XT.ii_ne_t cq) (by decide) (by decide) ?_
        refine XS.aloadN X_114.here hx rfl (hb hby d_rm_lu_41) rfl rfl ?_
        exact kt
      obtain ⟨v_257, T_257, L_257, X_257, q_257, st_257⟩ := callVirtual X_114 hx hZ (y := (⟨"com/example/dead_letter_replay/deadletterreplay/queue/Carries$Carried", "from", "()Ljava/lang/Long;"⟩ : MethodName)) (z := (⟨"com/example/dead_letter_replay/deadletterreplay/queue/Carries$Carried", "from", "()Ljava/lang/Long;"⟩ : MethodName)) (W := 0) hown (wdOf hw 77 rfl) (wdOf hw 78 rfl) (notFace_of_selects (args := #[]) (mvT hZ (wdOf hw 80 rfl))) (wdOf hw 80 rfl) (wdOf hw 79 rfl) (wdOf hw 55 rfl) (wdOf hw 81 rfl) (by decide) (rm_from l Z a0 hw [] bx cv Lv.isRef h0 n0 Z0 Fb_from) (by decide) (by decide) (by decide) (by decide) K_114 Eb (g := (mkF m 42 #[sR_ ax, sR_ bx, sU_, sU_] [(.ref bx)])) rfl (by rw [hml]; rfl) (argsL := []) (rest := []) (lenOf pd_5 rfl) rfl rfl (Nat.le_refl _) (hb hby d_rm_lu_42)
      obtain ⟨rfl, n_257, K_257⟩ := q_257
      have N_257 := Fr.app N_114 n_257
      refine Goes.go (U' := (T_257.setTop (mkF m 45 #[sR_ ax, sR_ bx, sU_, sU_] [cv]))) st_257 ?_
      rcases co with _ | ox_258
      · -- none
        have lk_258 := Lv
        obtain rfl : cv = Value.null := Lv
        by_cases ch : hd = 0
        · -- held
          refine Goes.go (U' := (T_257.setTop (mkF m 56 #[sR_ ax, sR_ bx, sU_, sU_] [(.ref ax)]))) (fun t kt => ?_) ?_
          · skip
            refine XS.ifnullYes X_257.here hx rfl (pc0 := 45) (pc' := 55) rfl (hb hby d_rm_lu_45) rfl (by decide) (by decide) ?_
            refine XS.aloadN X_257.here hx rfl (hb hby d_rm_lu_55) rfl rfl ?_
            exact kt
          rcases fo with _ | ox_259
          · -- none
            have lk_259 := Lf
            obtain rfl : fv = Value.null := Lf
            obtain ⟨v_260, T_260, L_260, X_260, q_260, st_260⟩ := callVirtual X_257 hx hZ (y := (⟨"com/example/dead_letter_replay/deadletterreplay/queue/Carries", "floor", "()Ljava/lang/Long;"⟩ : MethodName)) (z := (⟨"com/example/dead_letter_replay/deadletterreplay/queue/Carries", "floor", "()Ljava/lang/Long;"⟩ : MethodName)) (W := 0) hown (wdOf hw 103 rfl) (wdOf hw 10 rfl) (notFace_of_selects (args := #[]) (mvT hZ (wdOf hw 12 rfl))) (wdOf hw 12 rfl) (wdOf hw 11 rfl) (wdOf hw 2 rfl) (wdOf hw 13 rfl) (by decide) (rm_floor l Z a0 hw [] ax (some (cf_1, ce_1, ct_1, cb_1)) none none hd h0 n0 Z0 ⟨_, _, _, _, E0, F0_since, F0_last, F0_risk, F0_first, F0_held, ck_1, lk_259⟩ (by rw [if_pos ch])) (by decide) (by decide) (by decide) (by decide) K_257 E0 (g := (mkF m 56 #[sR_ ax, sR_ bx, sU_, sU_] [(.ref ax)])) rfl (by rw [hml]; rfl) (argsL := []) (rest := []) (lenOf pd_5 rfl) rfl rfl (Nat.le_refl _) (hb hby d_rm_lu_56)
            obtain ⟨ow_260, q_260⟩ := q_260
            obtain ⟨rfl, q_260⟩ := q_260
            have q_260 := And.intro (rfl : (0 : Nat) = 0) q_260
            obtain ⟨u_260, n_260, K_260, W_260⟩ := q_260
            obtain rfl : ow_260 = Value.null := W_260
            have N_260 := Fr.app N_257 n_260
            refine Goes.go (U' := (T_260.setTop (mkF m 59 #[sR_ ax, sR_ bx, sU_, sU_] [.null]))) st_260 ?_
            refine Goes.go (U' := (T_260.setTop (mkF m 62 #[sR_ ax, sR_ bx, .val .null, sU_] [(.ref bx), (.ref ax)]))) (fun t kt => ?_) ?_
            · skip
              refine XS.astoreN X_260.here hx rfl (hb hby d_rm_lu_59) rfl rfl (l' := #[sR_ ax, sR_ bx, .val .null, sU_]) rfl ?_
              refine XS.aloadN X_260.here hx rfl (hb hby d_rm_lu_60) rfl rfl ?_
              refine XS.aloadN X_260.here hx rfl (hb hby d_rm_lu_61) rfl rfl ?_
              exact kt
            obtain ⟨v_261, T_261, L_261, X_261, q_261, st_261⟩ := callPrivate X_260 hx hZ (y := (⟨"com/example/dead_letter_replay/deadletterreplay/queue/Carries", "countedBefore", "(Lcom/example/dead_letter_replay/deadletterreplay/queue/Carries$Carried;)I"⟩ : MethodName)) (W := 0) hown (wdOf hw 82 rfl) (wdOf hw 83 rfl) (wdOf hw 84 rfl) (wdOf hw 1 rfl) (wdOf hw 2 rfl) (wdOf hw 85 rfl) (by decide) (rm_cb l Z a0 hw [] ax bx sv rv hd cb (.ref cr_1) .null .null (some (cf_1, ce_1, ct_1, cb_1)) none ce ct h0 n0 Z0 O BC o0 E0 F0_since F0_last F0_risk F0_first F0_held rfl ck_1 Eb Fb_from Fb_era Fb_transaction Fb_backend lk_259) (by decide) (by decide) (by decide) (by decide) K_260 E0 (g := (mkF m 62 #[sR_ ax, sR_ bx, .val .null, sU_] [(.ref bx), (.ref ax)])) rfl (by rw [hml]; rfl) (argsL := [(.ref bx)]) (rest := []) (lenOf pd_7 rfl) rfl rfl (Nat.le_refl _) (hb hby d_rm_lu_62)
            obtain ⟨hx_261, cz_261, rfl, n_261, K_261, GE__261, Gsince__261, Glast__261, Grisk__261, Gfirst__261, Gheld__261, ha_261, hb_261⟩ := q_261
            have N_261 := Fr.app N_260 n_261
            have f_262 : Exa Z T_261.heap ax "com/example/dead_letter_replay/deadletterreplay/queue/Carries" := E0.keep K_261
            have f_268 : CarV Z T_261.heap (.ref cr_1) (some (cf_1, ce_1, ct_1, cb_1)) := ck_1.keepX K_261 E0 (by decide) (by decide)
            have f_269 : LongV Z T_261.heap .null none := lk_259.keepX K_261 E0 (by decide)
            have f_270 : Exa Z T_261.heap bx "com/example/dead_letter_replay/deadletterreplay/queue/Carries$Carried" := Eb.keep K_261
            have f_271 : Fld Z T_261.heap bx "com/example/dead_letter_replay/deadletterreplay/queue/Carries$Carried" "from" "Ljava/lang/Long;" .null := Fb_from.keep K_261 (ninS (ne_exa Eb E0 (by decide)) nin0)
            have f_272 : Fld Z T_261.heap bx "com/example/dead_letter_replay/deadletterreplay/queue/Carries$Carried" "era" "J" (.long ce) := Fb_era.keep K_261 (ninS (ne_exa Eb E0 (by decide)) nin0)
            have f_273 : Fld Z T_261.heap bx "com/example/dead_letter_replay/deadletterreplay/queue/Carries$Carried" "transaction" "J" (.long ct) := Fb_transaction.keep K_261 (ninS (ne_exa Eb E0 (by decide)) nin0)
            have f_274 : Fld Z T_261.heap bx "com/example/dead_letter_replay/deadletterreplay/queue/Carries$Carried" "backend" "I" (.int cb) := Fb_backend.keep K_261 (ninS (ne_exa Eb E0 (by decide)) nin0)
            have f_275 : LongV Z T_261.heap .null none := lk_258.keepX K_261 E0 (by decide)
            have f_276 : Old Z n0 T_261.heap := O.keep K_261 (allS o0 all0)
            have f_277 : Exa Z T_261.heap cr_1 "com/example/dead_letter_replay/deadletterreplay/queue/Carries$Carried" := cE_1.keep K_261
            have f_278 : Fld Z T_261.heap cr_1 "com/example/dead_letter_replay/deadletterreplay/queue/Carries$Carried" "from" "Ljava/lang/Long;" cv_1 := cF_1.keep K_261 (ninS (ne_exa cE_1 E0 (by decide)) nin0)
            have f_279 : Fld Z T_261.heap cr_1 "com/example/dead_letter_replay/deadletterreplay/queue/Carries$Carried" "era" "J" (.long ce_1) := cG_1.keep K_261 (ninS (ne_exa cE_1 E0 (by decide)) nin0)
            have f_280 : Fld Z T_261.heap cr_1 "com/example/dead_letter_replay/deadletterreplay/queue/Carries$Carried" "transaction" "J" (.long ct_1) := cH_1.keep K_261 (ninS (ne_exa cE_1 E0 (by decide)) nin0)
            have f_281 : Fld Z T_261.heap cr_1 "com/example/dead_letter_replay/deadletterreplay/queue/Carries$Carried" "backend" "I" (.int cb_1) := cI_1.keep K_261 (ninS (ne_exa cE_1 E0 (by decide)) nin0)
            have f_282 : LongV Z T_261.heap cv_1 cf_1 := cL_1.keepX K_261 E0 (by decide)
            have K_283 : Keep h0 T_261.heap [ax] := K0.trans K_261 (allS (P := fun x => x ∈ [ax] ∨ h0.size ≤ x) (Or.inl (List.mem_of_getElem? (i := 0) rfl)) all0)
            have y_283 : n0 ≤ T_261.heap.size := Nat.le_trans Z0 K_283.1
            refine Goes.go (U' := (T_261.setTop (mkF m 65 #[sR_ ax, sR_ bx, .val .null, sU_] [(.int cz_261)]))) st_261 ?_
            refine Goes.go (U' := (T_261.setTop (mkF m 91 #[sR_ ax, sR_ bx, .val .null, sI_ cz_261] [(.int cz_261)]))) (fun t kt => ?_) ?_
            · skip
              refine XS.istoreN X_261.here hx rfl (hb hby d_rm_lu_65) rfl (l' := #[sR_ ax, sR_ bx, .val .null, sI_ cz_261]) rfl ?_
              refine XS.aloadN X_261.here hx rfl (hb hby d_rm_lu_66) rfl rfl ?_
              refine XS.ifnonnullNo X_261.here hx rfl (hb hby d_rm_lu_67) rfl ?_
              refine XS.iloadN X_261.here hx rfl (hb hby d_rm_lu_70) rfl ?_
              refine XS.goto X_261.here hx rfl (pc0 := 71) (pc' := 91) rfl (hb hby d_rm_lu_71) (by decide) (by decide) ?_
              exact kt
            refine Goes.retI X_261 hx hlk hret (hb hby d_rm_lu_91) (by decide) (by decide) ?_
            try rw [(rfl : T_261.heap = T_261.heap)]
            exact ⟨_, _, rfl, N_261, K_283, f_262, Gsince__261, Glast__261, Grisk__261, Gfirst__261, Gheld__261, fun p => absurd p.1 cq, fun _ => hb_261 (fun p => cq p.1)⟩
          · -- some
            have lk_259 := Lf
            obtain ⟨or_259, rfl, oe_259, of_259⟩ := Lf
            obtain ⟨v_284, T_284, L_284, X_284, q_284, st_284⟩ := callVirtual X_257 hx hZ (y := (⟨"com/example/dead_letter_replay/deadletterreplay/queue/Carries", "floor", "()Ljava/lang/Long;"⟩ : MethodName)) (z := (⟨"com/example/dead_letter_replay/deadletterreplay/queue/Carries", "floor", "()Ljava/lang/Long;"⟩ : MethodName)) (W := 0) hown (wdOf hw 103 rfl) (wdOf hw 10 rfl) (notFace_of_selects (args := #[]) (mvT hZ (wdOf hw 12 rfl))) (wdOf hw 12 rfl) (wdOf hw 11 rfl) (wdOf hw 2 rfl) (wdOf hw 13 rfl) (by decide) (rm_floor l Z a0 hw [] ax (some (cf_1, ce_1, ct_1, cb_1)) (some ox_259) (some ox_259) hd h0 n0 Z0 ⟨_, _, _, _, E0, F0_since, F0_last, F0_risk, F0_first, F0_held, ck_1, lk_259⟩ (by rw [if_pos ch])) (by decide) (by decide) (by decide) (by decide) K_257 E0 (g := (mkF m 56 #[sR_ ax, sR_ bx, sU_, sU_] [(.ref ax)])) rfl (by rw [hml]; rfl) (argsL := []) (rest := []) (lenOf pd_5 rfl) rfl rfl (Nat.le_refl _) (hb hby d_rm_lu_56)
            obtain ⟨ow_284, q_284⟩ := q_284
            obtain ⟨rfl, q_284⟩ := q_284
            have q_284 := And.intro (rfl : (0 : Nat) = 0) q_284
            obtain ⟨u_284, n_284, K_284, W_284⟩ := q_284
            obtain ⟨wr_284, rfl, wE_284, wF_284⟩ := W_284
            have N_284 := Fr.app N_257 n_284
            refine Goes.go (U' := (T_284.setTop (mkF m 59 #[sR_ ax, sR_ bx, sU_, sU_] [(.ref wr_284)]))) st_284 ?_
            refine Goes.go (U' := (T_284.setTop (mkF m 62 #[sR_ ax, sR_ bx, sR_ wr_284, sU_] [(.ref bx), (.ref ax)]))) (fun t kt => ?_) ?_
            · skip
              refine XS.astoreN X_284.here hx rfl (hb hby d_rm_lu_59) rfl rfl (l' := #[sR_ ax, sR_ bx, sR_ wr_284, sU_]) rfl ?_
              refine XS.aloadN X_284.here hx rfl (hb hby d_rm_lu_60) rfl rfl ?_
              refine XS.aloadN X_284.here hx rfl (hb hby d_rm_lu_61) rfl rfl ?_
              exact kt
            obtain ⟨v_285, T_285, L_285, X_285, q_285, st_285⟩ := callPrivate X_284 hx hZ (y := (⟨"com/example/dead_letter_replay/deadletterreplay/queue/Carries", "countedBefore", "(Lcom/example/dead_letter_replay/deadletterreplay/queue/Carries$Carried;)I"⟩ : MethodName)) (W := 0) hown (wdOf hw 82 rfl) (wdOf hw 83 rfl) (wdOf hw 84 rfl) (wdOf hw 1 rfl) (wdOf hw 2 rfl) (wdOf hw 85 rfl) (by decide) (rm_cb l Z a0 hw [] ax bx sv rv hd cb (.ref cr_1) (.ref or_259) .null (some (cf_1, ce_1, ct_1, cb_1)) none ce ct h0 n0 Z0 O BC o0 E0 F0_since F0_last F0_risk F0_first F0_held rfl ck_1 Eb Fb_from Fb_era Fb_transaction Fb_backend lk_258) (by decide) (by decide) (by decide) (by decide) K_284 E0 (g := (mkF m 62 #[sR_ ax, sR_ bx, sR_ wr_284, sU_] [(.ref bx), (.ref ax)])) rfl (by rw [hml]; rfl) (argsL := [(.ref bx)]) (rest := []) (lenOf pd_7 rfl) rfl rfl (Nat.le_refl _) (hb hby d_rm_lu_62)
            obtain ⟨hx_285, cz_285, rfl, n_285, K_285, GE__285, Gsince__285, Glast__285, Grisk__285, Gfirst__285, Gheld__285, ha_285, hb_285⟩ := q_285
            have N_285 := Fr.app N_284 n_285
            have f_286 : Exa Z T_285.heap ax "com/example/dead_letter_replay/deadletterreplay/queue/Carries" := E0.keep K_285
            have f_292 : CarV Z T_285.heap (.ref cr_1) (some (cf_1, ce_1, ct_1, cb_1)) := ck_1.keepX K_285 E0 (by decide) (by decide)
            have f_293 : LongV Z T_285.heap (.ref or_259) (some ox_259) := lk_259.keepX K_285 E0 (by decide)
            have f_294 : Exa Z T_285.heap bx "com/example/dead_letter_replay/deadletterreplay/queue/Carries$Carried" := Eb.keep K_285
            have f_295 : Fld Z T_285.heap bx "com/example/dead_letter_replay/deadletterreplay/queue/Carries$Carried" "from" "Ljava/lang/Long;" .null := Fb_from.keep K_285 (ninS (ne_exa Eb E0 (by decide)) nin0)
            have f_296 : Fld Z T_285.heap bx "com/example/dead_letter_replay/deadletterreplay/queue/Carries$Carried" "era" "J" (.long ce) := Fb_era.keep K_285 (ninS (ne_exa Eb E0 (by decide)) nin0)
            have f_297 : Fld Z T_285.heap bx "com/example/dead_letter_replay/deadletterreplay/queue/Carries$Carried" "transaction" "J" (.long ct) := Fb_transaction.keep K_285 (ninS (ne_exa Eb E0 (by decide)) nin0)
            have f_298 : Fld Z T_285.heap bx "com/example/dead_letter_replay/deadletterreplay/queue/Carries$Carried" "backend" "I" (.int cb) := Fb_backend.keep K_285 (ninS (ne_exa Eb E0 (by decide)) nin0)
            have f_299 : LongV Z T_285.heap .null none := lk_258.keepX K_285 E0 (by decide)
            have f_300 : Old Z n0 T_285.heap := O.keep K_285 (allS o0 all0)
            have f_301 : Exa Z T_285.heap cr_1 "com/example/dead_letter_replay/deadletterreplay/queue/Carries$Carried" := cE_1.keep K_285
            have f_302 : Fld Z T_285.heap cr_1 "com/example/dead_letter_replay/deadletterreplay/queue/Carries$Carried" "from" "Ljava/lang/Long;" cv_1 := cF_1.keep K_285 (ninS (ne_exa cE_1 E0 (by decide)) nin0)
            have f_303 : Fld Z T_285.heap cr_1 "com/example/dead_letter_replay/deadletterreplay/queue/Carries$Carried" "era" "J" (.long ce_1) := cG_1.keep K_285 (ninS (ne_exa cE_1 E0 (by decide)) nin0)
            have f_304 : Fld Z T_285.heap cr_1 "com/example/dead_letter_replay/deadletterreplay/queue/Carries$Carried" "transaction" "J" (.long ct_1) := cH_1.keep K_285 (ninS (ne_exa cE_1 E0 (by decide)) nin0)
            have f_305 : Fld Z T_285.heap cr_1 "com/example/dead_letter_replay/deadletterreplay/queue/Carries$Carried" "backend" "I" (.int cb_1) := cI_1.keep K_285 (ninS (ne_exa cE_1 E0 (by decide)) nin0)
            have f_306 : LongV Z T_285.heap cv_1 cf_1 := cL_1.keepX K_285 E0 (by decide)
            have f_307 : Exa Z T_285.heap or_259 "java/lang/Long" := oe_259.keep K_285
            have f_308 : Fld Z T_285.heap or_259 "java/lang/Long" "value" "J" (.long ox_259) := of_259.keep K_285 (ninS (ne_exa oe_259 E0 (by decide)) nin0)
            have f_309 : Exa Z T_285.heap wr_284 "java/lang/Long" := wE_284.keep K_285
            have f_310 : Fld Z T_285.heap wr_284 "java/lang/Long" "value" "J" (.long ox_259) := wF_284.keep K_285 (ninS (ne_exa wE_284 E0 (by decide)) nin0)
            have K_311 : Keep h0 T_285.heap [ax] := K0.trans K_285 (allS (P := fun x => x ∈ [ax] ∨ h0.size ≤ x) (Or.inl (List.mem_of_getElem? (i := 0) rfl)) all0)
            have y_311 : n0 ≤ T_285.heap.size := Nat.le_trans Z0 K_311.1
            refine Goes.go (U' := (T_285.setTop (mkF m 65 #[sR_ ax, sR_ bx, sR_ wr_284, sU_] [(.int cz_285)]))) st_285 ?_
            refine Goes.go (U' := (T_285.setTop (mkF m 77 #[sR_ ax, sR_ bx, sR_ wr_284, sI_ cz_285] [(.ref bx), (.long (cz_285.toInt64))]))) (fun t kt => ?_) ?_
            · skip
              refine XS.istoreN X_285.here hx rfl (hb hby d_rm_lu_65) rfl (l' := #[sR_ ax, sR_ bx, sR_ wr_284, sI_ cz_285]) rfl ?_
              refine XS.aloadN X_285.here hx rfl (hb hby d_rm_lu_66) rfl rfl ?_
              refine XS.ifnonnullYes X_285.here hx rfl (pc0 := 67) (pc' := 74) rfl (hb hby d_rm_lu_67) rfl (by decide) (by decide) ?_
              refine XS.iloadN X_285.here hx rfl (hb hby d_rm_lu_74) rfl ?_
              refine XS.i2l X_285.here hx rfl (hb hby d_rm_lu_75) rfl ?_
              refine XS.aloadN X_285.here hx rfl (hb hby d_rm_lu_76) rfl rfl ?_
              exact kt
            obtain ⟨v_312, T_312, L_312, X_312, q_312, st_312⟩ := callVirtual X_285 hx hZ (y := (⟨"com/example/dead_letter_replay/deadletterreplay/queue/Carries$Carried", "era", "()J"⟩ : MethodName)) (z := (⟨"com/example/dead_letter_replay/deadletterreplay/queue/Carries$Carried", "era", "()J"⟩ : MethodName)) (W := 2) hown (wdOf hw 86 rfl) (wdOf hw 87 rfl) (notFace_of_selects (args := #[]) (mvT hZ (wdOf hw 89 rfl))) (wdOf hw 89 rfl) (wdOf hw 88 rfl) (wdOf hw 55 rfl) (wdOf hw 90 rfl) (by decide) (rm_era l Z a0 hw [] bx ce T_285.heap n0 y_311 f_296) (by decide) (by decide) (by decide) (by decide) (rfl : T_285.heap = T_285.heap) f_294 (g := (mkF m 77 #[sR_ ax, sR_ bx, sR_ wr_284, sI_ cz_285] [(.ref bx), (.long (cz_285.toInt64))])) rfl (by rw [hml]; rfl) (argsL := []) (rest := [(.long (cz_285.toInt64))]) (lenOf pd_2 rfl) rfl rfl (Nat.le_refl _) (hb hby d_rm_lu_77)
            obtain ⟨rfl, n_312, K_312⟩ := q_312
            have N_312 := Fr.app N_285 n_312
            refine Goes.go (U' := (T_312.setTop (mkF m 80 #[sR_ ax, sR_ bx, sR_ wr_284, sI_ cz_285] [(.long ce), (.long (cz_285.toInt64))]))) st_312 ?_
            refine Goes.go (U' := (T_312.setTop (mkF m 81 #[sR_ ax, sR_ bx, sR_ wr_284, sI_ cz_285] [(.ref wr_284), (.long ce), (.long (cz_285.toInt64))]))) (fun t kt => ?_) ?_
            · skip
              refine XS.aloadN X_312.here hx rfl (hb hby d_rm_lu_80) rfl rfl ?_
              exact kt
            obtain ⟨v_313, T_313, L_313, X_313, q_313, st_313⟩ := callVirtual X_312 hx hZ (y := (⟨"java/lang/Long", "longValue", "()J"⟩ : MethodName)) (z := (⟨"java/lang/Long", "longValue", "()J"⟩ : MethodName)) (W := 4) hown (wdOf hw 91 rfl) (wdOf hw 92 rfl) (notFace_of_selects (args := #[]) (mvT hZ (wdOf hw 94 rfl))) (wdOf hw 94 rfl) (wdOf hw 93 rfl) (wdOf hw 35 rfl) (wdOf hw 95 rfl) (by decide) (rm_lv l Z a0 hw [] wr_284 ox_259 T_285.heap n0 y_311 f_310) (by decide) (by decide) (by decide) (by decide) K_312 f_309 (g := (mkF m 81 #[sR_ ax, sR_ bx, sR_ wr_284, sI_ cz_285] [(.ref wr_284), (.long ce), (.long (cz_285.toInt64))])) rfl (by rw [hml]; rfl) (argsL := []) (rest := [(.long ce), (.long (cz_285.toInt64))]) (lenOf pd_2 rfl) rfl rfl (Nat.le_refl _) (hb hby d_rm_lu_81)
            obtain ⟨rfl, n_313, K_313⟩ := q_313
            have N_313 := Fr.app N_312 n_313
            refine Goes.go (U' := (T_313.setTop (mkF m 84 #[sR_ ax, sR_ bx, sR_ wr_284, sI_ cz_285] [(.long ox_259), (.long ce), (.long (cz_285.toInt64))]))) st_313 ?_
            refine Goes.go (U' := (T_313.setTop (mkF m 87 #[sR_ ax, sR_ bx, sR_ wr_284, sI_ cz_285] [(.long ((ce - ox_259) + (1 : Int64))), (.long (cz_285.toInt64))]))) (fun t kt => ?_) ?_
            · skip
              refine XS.lsub X_313.here hx rfl (hb hby d_rm_lu_84) rfl ?_
              refine XS.lconst X_313.here hx rfl (hb hby d_rm_lu_85) ?_
              refine XS.ladd X_313.here hx rfl (hb hby d_rm_lu_86) rfl ?_
              exact kt
            obtain ⟨v_314, T_314, L_314, X_314, q_314, st_314⟩ := callStatic X_313 hx hZ (y := (⟨"java/lang/Math", "min", "(JJ)J"⟩ : MethodName)) (W := 0) hown (wdOf hw 96 rfl) (wdOf hw 97 rfl) (wdOf hw 98 rfl) (wdOf hw 99 rfl) (by decide) (rm_min l Z a0 hw [] (cz_285.toInt64) ((ce - ox_259) + (1 : Int64)) T_285.heap n0 y_311) (by decide) (by decide) (by decide) (by decide) K_313 (g := (mkF m 87 #[sR_ ax, sR_ bx, sR_ wr_284, sI_ cz_285] [(.long ((ce - ox_259) + (1 : Int64))), (.long (cz_285.toInt64))])) rfl (by rw [hml]; rfl) (argsL := [(.long (cz_285.toInt64)), (.long ((ce - ox_259) + (1 : Int64)))]) (rest := []) (lenOf pd_8 rfl) rfl rfl (Nat.le_refl _) (hb hby d_rm_lu_87)
            obtain ⟨mz_314, rfl, n_314, K_314, -⟩ := q_314
            have N_314 := Fr.app N_313 n_314
            refine Goes.go (U' := (T_314.setTop (mkF m 90 #[sR_ ax, sR_ bx, sR_ wr_284, sI_ cz_285] [(.long mz_314)]))) st_314 ?_
            refine Goes.go (U' := (T_314.setTop (mkF m 91 #[sR_ ax, sR_ bx, sR_ wr_284, sI_ cz_285] [(.int (mz_314.toInt32))]))) (fun t kt => ?_) ?_
            · skip
              refine XS.l2i X_314.here hx rfl (hb hby d_rm_lu_90) rfl ?_
              exact kt
            refine Goes.retI X_314 hx hlk hret (hb hby d_rm_lu_91) (by decide) (by decide) ?_
            try rw [K_314]
            exact ⟨_, _, rfl, N_314, K_311, f_286, Gsince__285, Glast__285, Grisk__285, Gfirst__285, Gheld__285, fun p => absurd p.1 cq, fun _ => hb_285 (fun p => cq p.1)⟩
        · -- held
          refine Goes.go (U' := (T_257.setTop (mkF m 56 #[sR_ ax, sR_ bx, sU_, sU_] [(.ref ax)]))) (fun t kt => ?_) ?_
          · skip
            refine XS.ifnullYes X_257.here hx rfl (pc0 := 45) (pc' := 55) rfl (hb hby d_rm_lu_45) rfl (by decide) (by decide) ?_
            refine XS.aloadN X_257.here hx rfl (hb hby d_rm_lu_55) rfl rfl ?_
            exact kt
          rcases fo with _ | ox_315
          · -- none
            have lk_315 := Lf
            obtain rfl : fv = Value.null := Lf
            obtain ⟨v_316, T_316, L_316, X_316, q_316, st_316⟩ := callVirtual X_257 hx hZ (y := (⟨"com/example/dead_letter_replay/deadletterreplay/queue/Carries", "floor", "()Ljava/lang/Long;"⟩ : MethodName)) (z := (⟨"com/example/dead_letter_replay/deadletterreplay/queue/Carries", "floor", "()Ljava/lang/Long;"⟩ : MethodName)) (W := 0) hown (wdOf hw 103 rfl) (wdOf hw 10 rfl) (notFace_of_selects (args := #[]) (mvT hZ (wdOf hw 12 rfl))) (wdOf hw 12 rfl) (wdOf hw 11 rfl) (wdOf hw 2 rfl) (wdOf hw 13 rfl) (by decide) (rm_floor l Z a0 hw [] ax (some (cf_1, ce_1, ct_1, cb_1)) none none hd h0 n0 Z0 ⟨_, _, _, _, E0, F0_since, F0_last, F0_risk, F0_first, F0_held, ck_1, lk_315⟩ (by rw [if_neg ch])) (by decide) (by decide) (by decide) (by decide) K_257 E0 (g := (mkF m 56 #[sR_ ax, sR_ bx, sU_, sU_] [(.ref ax)])) rfl (by rw [hml]; rfl) (argsL := []) (rest := []) (lenOf pd_5 rfl) rfl rfl (Nat.le_refl _) (hb hby d_rm_lu_56)
            obtain ⟨ow_316, q_316⟩ := q_316
            obtain ⟨rfl, q_316⟩ := q_316
            have q_316 := And.intro (rfl : (0 : Nat) = 0) q_316
            obtain ⟨u_316, n_316, K_316, W_316⟩ := q_316
            obtain rfl : ow_316 = Value.null := W_316
            have N_316 := Fr.app N_257 n_316
            refine Goes.go (U' := (T_316.setTop (mkF m 59 #[sR_ ax, sR_ bx, sU_, sU_] [.null]))) st_316 ?_
            refine Goes.go (U' := (T_316.setTop (mkF m 62 #[sR_ ax, sR_ bx, .val .null, sU_] [(.ref bx), (.ref ax)]))) (fun t kt => ?_) ?_
            · skip
              refine XS.astoreN X_316.here hx rfl (hb hby d_rm_lu_59) rfl rfl (l' := #[sR_ ax, sR_ bx, .val .null, sU_]) rfl ?_
              refine XS.aloadN X_316.here hx rfl (hb hby d_rm_lu_60) rfl rfl ?_
              refine XS.aloadN X_316.here hx rfl (hb hby d_rm_lu_61) rfl rfl ?_
              exact kt
            obtain ⟨v_317, T_317, L_317, X_317, q_317, st_317⟩ := callPrivate X_316 hx hZ (y := (⟨"com/example/dead_letter_replay/deadletterreplay/queue/Carries", "countedBefore", "(Lcom/example/dead_letter_replay/deadletterreplay/queue/Carries$Carried;)I"⟩ : MethodName)) (W := 0) hown (wdOf hw 82 rfl) (wdOf hw 83 rfl) (wdOf hw 84 rfl) (wdOf hw 1 rfl) (wdOf hw 2 rfl) (wdOf hw 85 rfl) (by decide) (rm_cb l Z a0 hw [] ax bx sv rv hd cb (.ref cr_1) .null .null (some (cf_1, ce_1, ct_1, cb_1)) none ce ct h0 n0 Z0 O BC o0 E0 F0_since F0_last F0_risk F0_first F0_held rfl ck_1 Eb Fb_from Fb_era Fb_transaction Fb_backend lk_315) (by decide) (by decide) (by decide) (by decide) K_316 E0 (g := (mkF m 62 #[sR_ ax, sR_ bx, .val .null, sU_] [(.ref bx), (.ref ax)])) rfl (by rw [hml]; rfl) (argsL := [(.ref bx)]) (rest := []) (lenOf pd_7 rfl) rfl rfl (Nat.le_refl _) (hb hby d_rm_lu_62)
            obtain ⟨hx_317, cz_317, rfl, n_317, K_317, GE__317, Gsince__317, Glast__317, Grisk__317, Gfirst__317, Gheld__317, ha_317, hb_317⟩ := q_317
            have N_317 := Fr.app N_316 n_317
            have f_318 : Exa Z T_317.heap ax "com/example/dead_letter_replay/deadletterreplay/queue/Carries" := E0.keep K_317
            have f_324 : CarV Z T_317.heap (.ref cr_1) (some (cf_1, ce_1, ct_1, cb_1)) := ck_1.keepX K_317 E0 (by decide) (by decide)
            have f_325 : LongV Z T_317.heap .null none := lk_315.keepX K_317 E0 (by decide)
            have f_326 : Exa Z T_317.heap bx "com/example/dead_letter_replay/deadletterreplay/queue/Carries$Carried" := Eb.keep K_317
            have f_327 : Fld Z T_317.heap bx "com/example/dead_letter_replay/deadletterreplay/queue/Carries$Carried" "from" "Ljava/lang/Long;" .null := Fb_from.keep K_317 (ninS (ne_exa Eb E0 (by decide)) nin0)
            have f_328 : Fld Z T_317.heap bx "com/example/dead_letter_replay/deadletterreplay/queue/Carries$Carried" "era" "J" (.long ce) := Fb_era.keep K_317 (ninS (ne_exa Eb E0 (by decide)) nin0)
            have f_329 : Fld Z T_317.heap bx "com/example/dead_letter_replay/deadletterreplay/queue/Carries$Carried" "transaction" "J" (.long ct) := Fb_transaction.keep K_317 (ninS (ne_exa Eb E0 (by decide)) nin0)
            have f_330 : Fld Z T_317.heap bx "com/example/dead_letter_replay/deadletterreplay/queue/Carries$Carried" "backend" "I" (.int cb) := Fb_backend.keep K_317 (ninS (ne_exa Eb E0 (by decide)) nin0)
            have f_331 : LongV Z T_317.heap .null none := lk_258.keepX K_317 E0 (by decide)
            have f_332 : Old Z n0 T_317.heap := O.keep K_317 (allS o0 all0)
            have f_333 : Exa Z T_317.heap cr_1 "com/example/dead_letter_replay/deadletterreplay/queue/Carries$Carried" := cE_1.keep K_317
            have f_334 : Fld Z T_317.heap cr_1 "com/example/dead_letter_replay/deadletterreplay/queue/Carries$Carried" "from" "Ljava/lang/Long;" cv_1 := cF_1.keep K_317 (ninS (ne_exa cE_1 E0 (by decide)) nin0)
            have f_335 : Fld Z T_317.heap cr_1 "com/example/dead_letter_replay/deadletterreplay/queue/Carries$Carried" "era" "J" (.long ce_1) := cG_1.keep K_317 (ninS (ne_exa cE_1 E0 (by decide)) nin0)
            have f_336 : Fld Z T_317.heap cr_1 "com/example/dead_letter_replay/deadletterreplay/queue/Carries$Carried" "transaction" "J" (.long ct_1) := cH_1.keep K_317 (ninS (ne_exa cE_1 E0 (by decide)) nin0)
            have f_337 : Fld Z T_317.heap cr_1 "com/example/dead_letter_replay/deadletterreplay/queue/Carries$Carried" "backend" "I" (.int cb_1) := cI_1.keep K_317 (ninS (ne_exa cE_1 E0 (by decide)) nin0)
            have f_338 : LongV Z T_317.heap cv_1 cf_1 := cL_1.keepX K_317 E0 (by decide)
            have K_339 : Keep h0 T_317.heap [ax] := K0.trans K_317 (allS (P := fun x => x ∈ [ax] ∨ h0.size ≤ x) (Or.inl (List.mem_of_getElem? (i := 0) rfl)) all0)
            have y_339 : n0 ≤ T_317.heap.size := Nat.le_trans Z0 K_339.1
            refine Goes.go (U' := (T_317.setTop (mkF m 65 #[sR_ ax, sR_ bx, .val .null, sU_] [(.int cz_317)]))) st_317 ?_
            refine Goes.go (U' := (T_317.setTop (mkF m 91 #[sR_ ax, sR_ bx, .val .null, sI_ cz_317] [(.int cz_317)]))) (fun t kt => ?_) ?_
            · skip
              refine XS.istoreN X_317.here hx rfl (hb hby d_rm_lu_65) rfl (l' := #[sR_ ax, sR_ bx, .val .null, sI_ cz_317]) rfl ?_
              refine XS.aloadN X_317.here hx rfl (hb hby d_rm_lu_66) rfl rfl ?_
              refine XS.ifnonnullNo X_317.here hx rfl (hb hby d_rm_lu_67) rfl ?_
              refine XS.iloadN X_317.here hx rfl (hb hby d_rm_lu_70) rfl ?_
              refine XS.goto X_317.here hx rfl (pc0 := 71) (pc' := 91) rfl (hb hby d_rm_lu_71) (by decide) (by decide) ?_
              exact kt
            refine Goes.retI X_317 hx hlk hret (hb hby d_rm_lu_91) (by decide) (by decide) ?_
            try rw [(rfl : T_317.heap = T_317.heap)]
            exact ⟨_, _, rfl, N_317, K_339, f_318, Gsince__317, Glast__317, Grisk__317, Gfirst__317, Gheld__317, fun p => absurd p.1 cq, fun _ => hb_317 (fun p => cq p.1)⟩
          · -- some
            have lk_315 := Lf
            obtain ⟨or_315, rfl, oe_315, of_315⟩ := Lf
            obtain ⟨v_340, T_340, L_340, X_340, q_340, st_340⟩ := callVirtual X_257 hx hZ (y := (⟨"com/example/dead_letter_replay/deadletterreplay/queue/Carries", "floor", "()Ljava/lang/Long;"⟩ : MethodName)) (z := (⟨"com/example/dead_letter_replay/deadletterreplay/queue/Carries", "floor", "()Ljava/lang/Long;"⟩ : MethodName)) (W := 0) hown (wdOf hw 103 rfl) (wdOf hw 10 rfl) (notFace_of_selects (args := #[]) (mvT hZ (wdOf hw 12 rfl))) (wdOf hw 12 rfl) (wdOf hw 11 rfl) (wdOf hw 2 rfl) (wdOf hw 13 rfl) (by decide) (rm_floor l Z a0 hw [] ax (some (cf_1, ce_1, ct_1, cb_1)) (some ox_315) none hd h0 n0 Z0 ⟨_, _, _, _, E0, F0_since, F0_last, F0_risk, F0_first, F0_held, ck_1, lk_315⟩ (by rw [if_neg ch])) (by decide) (by decide) (by decide) (by decide) K_257 E0 (g := (mkF m 56 #[sR_ ax, sR_ bx, sU_, sU_] [(.ref ax)])) rfl (by rw [hml]; rfl) (argsL := []) (rest := []) (lenOf pd_5 rfl) rfl rfl (Nat.le_refl _) (hb hby d_rm_lu_56)
            obtain ⟨ow_340, q_340⟩ := q_340
            obtain ⟨rfl, q_340⟩ := q_340
            have q_340 := And.intro (rfl : (0 : Nat) = 0) q_340
            obtain ⟨u_340, n_340, K_340, W_340⟩ := q_340
            obtain rfl : ow_340 = Value.null := W_340
            have N_340 := Fr.app N_257 n_340
            refine Goes.go (U' := (T_340.setTop (mkF m 59 #[sR_ ax, sR_ bx, sU_, sU_] [.null]))) st_340 ?_
            refine Goes.go (U' := (T_340.setTop (mkF m 62 #[sR_ ax, sR_ bx, .val .null, sU_] [(.ref bx), (.ref ax)]))) (fun t kt => ?_) ?_
            · skip
              refine XS.astoreN X_340.here hx rfl (hb hby d_rm_lu_59) rfl rfl (l' := #[sR_ ax, sR_ bx, .val .null, sU_]) rfl ?_
              refine XS.aloadN X_340.here hx rfl (hb hby d_rm_lu_60) rfl rfl ?_
              refine XS.aloadN X_340.here hx rfl (hb hby d_rm_lu_61) rfl rfl ?_
              exact kt
            obtain ⟨v_341, T_341, L_341, X_341, q_341, st_341⟩ := callPrivate X_340 hx hZ (y := (⟨"com/example/dead_letter_replay/deadletterreplay/queue/Carries", "countedBefore", "(Lcom/example/dead_letter_replay/deadletterreplay/queue/Carries$Carried;)I"⟩ : MethodName)) (W := 0) hown (wdOf hw 82 rfl) (wdOf hw 83 rfl) (wdOf hw 84 rfl) (wdOf hw 1 rfl) (wdOf hw 2 rfl) (wdOf hw 85 rfl) (by decide) (rm_cb l Z a0 hw [] ax bx sv rv hd cb (.ref cr_1) (.ref or_315) .null (some (cf_1, ce_1, ct_1, cb_1)) none ce ct h0 n0 Z0 O BC o0 E0 F0_since F0_last F0_risk F0_first F0_held rfl ck_1 Eb Fb_from Fb_era Fb_transaction Fb_backend lk_258) (by decide) (by decide) (by decide) (by decide) K_340 E0 (g := (mkF m 62 #[sR_ ax, sR_ bx, .val .null, sU_] [(.ref bx), (.ref ax)])) rfl (by rw [hml]; rfl) (argsL := [(.ref bx)]) (rest := []) (lenOf pd_7 rfl) rfl rfl (Nat.le_refl _) (hb hby d_rm_lu_62)
            obtain ⟨hx_341, cz_341, rfl, n_341, K_341, GE__341, Gsince__341, Glast__341, Grisk__341, Gfirst__341, Gheld__341, ha_341, hb_341⟩ := q_341
            have N_341 := Fr.app N_340 n_341
            have f_342 : Exa Z T_341.heap ax "com/example/dead_letter_replay/deadletterreplay/queue/Carries" := E0.keep K_341
            have f_348 : CarV Z T_341.heap (.ref cr_1) (some (cf_1, ce_1, ct_1, cb_1)) := ck_1.keepX K_341 E0 (by decide) (by decide)
            have f_349 : LongV Z T_341.heap (.ref or_315) (some ox_315) := lk_315.keepX K_341 E0 (by decide)
            have f_350 : Exa Z T_341.heap bx "com/example/dead_letter_replay/deadletterreplay/queue/Carries$Carried" := Eb.keep K_341
            have f_351 : Fld Z T_341.heap bx "com/example/dead_letter_replay/deadletterreplay/queue/Carries$Carried" "from" "Ljava/lang/Long;" .null := Fb_from.keep K_341 (ninS (ne_exa Eb E0 (by decide)) nin0)
            have f_352 : Fld Z T_341.heap bx "com/example/dead_letter_replay/deadletterreplay/queue/Carries$Carried" "era" "J" (.long ce) := Fb_era.keep K_341 (ninS (ne_exa Eb E0 (by decide)) nin0)
            have f_353 : Fld Z T_341.heap bx "com/example/dead_letter_replay/deadletterreplay/queue/Carries$Carried" "transaction" "J" (.long ct) := Fb_transaction.keep K_341 (ninS (ne_exa Eb E0 (by decide)) nin0)
            have f_354 : Fld Z T_341.heap bx "com/example/dead_letter_replay/deadletterreplay/queue/Carries$Carried" "backend" "I" (.int cb) := Fb_backend.keep K_341 (ninS (ne_exa Eb E0 (by decide)) nin0)
            have f_355 : LongV Z T_341.heap .null none := lk_258.keepX K_341 E0 (by decide)
            have f_356 : Old Z n0 T_341.heap := O.keep K_341 (allS o0 all0)
            have f_357 : Exa Z T_341.heap cr_1 "com/example/dead_letter_replay/deadletterreplay/queue/Carries$Carried" := cE_1.keep K_341
            have f_358 : Fld Z T_341.heap cr_1 "com/example/dead_letter_replay/deadletterreplay/queue/Carries$Carried" "from" "Ljava/lang/Long;" cv_1 := cF_1.keep K_341 (ninS (ne_exa cE_1 E0 (by decide)) nin0)
            have f_359 : Fld Z T_341.heap cr_1 "com/example/dead_letter_replay/deadletterreplay/queue/Carries$Carried" "era" "J" (.long ce_1) := cG_1.keep K_341 (ninS (ne_exa cE_1 E0 (by decide)) nin0)
            have f_360 : Fld Z T_341.heap cr_1 "com/example/dead_letter_replay/deadletterreplay/queue/Carries$Carried" "transaction" "J" (.long ct_1) := cH_1.keep K_341 (ninS (ne_exa cE_1 E0 (by decide)) nin0)
            have f_361 : Fld Z T_341.heap cr_1 "com/example/dead_letter_replay/deadletterreplay/queue/Carries$Carried" "backend" "I" (.int cb_1) := cI_1.keep K_341 (ninS (ne_exa cE_1 E0 (by decide)) nin0)
            have f_362 : LongV Z T_341.heap cv_1 cf_1 := cL_1.keepX K_341 E0 (by decide)
            have f_363 : Exa Z T_341.heap or_315 "java/lang/Long" := oe_315.keep K_341
            have f_364 : Fld Z T_341.heap or_315 "java/lang/Long" "value" "J" (.long ox_315) := of_315.keep K_341 (ninS (ne_exa oe_315 E0 (by decide)) nin0)
            have K_365 : Keep h0 T_341.heap [ax] := K0.trans K_341 (allS (P := fun x => x ∈ [ax] ∨ h0.size ≤ x) (Or.inl (List.mem_of_getElem? (i := 0) rfl)) all0)
            have y_365 : n0 ≤ T_341.heap.size := Nat.le_trans Z0 K_365.1
            refine Goes.go (U' := (T_341.setTop (mkF m 65 #[sR_ ax, sR_ bx, .val .null, sU_] [(.int cz_341)]))) st_341 ?_
            refine Goes.go (U' := (T_341.setTop (mkF m 91 #[sR_ ax, sR_ bx, .val .null, sI_ cz_341] [(.int cz_341)]))) (fun t kt => ?_) ?_
            · skip
              refine XS.istoreN X_341.here hx rfl (hb hby d_rm_lu_65) rfl (l' := #[sR_ ax, sR_ bx, .val .null, sI_ cz_341]) rfl ?_
              refine XS.aloadN X_341.here hx rfl (hb hby d_rm_lu_66) rfl rfl ?_
              refine XS.ifnonnullNo X_341.here hx rfl (hb hby d_rm_lu_67) rfl ?_
              refine XS.iloadN X_341.here hx rfl (hb hby d_rm_lu_70) rfl ?_
              refine XS.goto X_341.here hx rfl (pc0 := 71) (pc' := 91) rfl (hb hby d_rm_lu_71) (by decide) (by decide) ?_
              exact kt
            refine Goes.retI X_341 hx hlk hret (hb hby d_rm_lu_91) (by decide) (by decide) ?_
            try rw [(rfl : T_341.heap = T_341.heap)]
            exact ⟨_, _, rfl, N_341, K_365, f_342, Gsince__341, Glast__341, Grisk__341, Gfirst__341, Gheld__341, fun p => absurd p.1 cq, fun _ => hb_341 (fun p => cq p.1)⟩
      · -- some
        have lk_258 := Lv
        obtain ⟨or_258, rfl, oe_258, of_258⟩ := Lv
        refine Goes.go (U' := (T_257.setTop (mkF m 49 #[sR_ ax, sR_ bx, sU_, sU_] [(.ref bx)]))) (fun t kt => ?_) ?_
        · skip
          refine XS.ifnullNo X_257.here hx rfl (hb hby d_rm_lu_45) rfl ?_
          refine XS.aloadN X_257.here hx rfl (hb hby d_rm_lu_48) rfl rfl ?_
          exact kt
        obtain ⟨v_366, T_366, L_366, X_366, q_366, st_366⟩ := callVirtual X_257 hx hZ (y := (⟨"com/example/dead_letter_replay/deadletterreplay/queue/Carries$Carried", "from", "()Ljava/lang/Long;"⟩ : MethodName)) (z := (⟨"com/example/dead_letter_replay/deadletterreplay/queue/Carries$Carried", "from", "()Ljava/lang/Long;"⟩ : MethodName)) (W := 0) hown (wdOf hw 77 rfl) (wdOf hw 78 rfl) (notFace_of_selects (args := #[]) (mvT hZ (wdOf hw 80 rfl))) (wdOf hw 80 rfl) (wdOf hw 79 rfl) (wdOf hw 55 rfl) (wdOf hw 81 rfl) (by decide) (rm_from l Z a0 hw [] bx (.ref or_258) rfl h0 n0 Z0 Fb_from) (by decide) (by decide) (by decide) (by decide) K_257 Eb (g := (mkF m 49 #[sR_ ax, sR_ bx, sU_, sU_] [(.ref bx)])) rfl (by rw [hml]; rfl) (argsL := []) (rest := []) (lenOf pd_5 rfl) rfl rfl (Nat.le_refl _) (hb hby d_rm_lu_49)
        obtain ⟨rfl, n_366, K_366⟩ := q_366
        have N_366 := Fr.app N_257 n_366
        refine Goes.go (U' := (T_366.setTop (mkF m 52 #[sR_ ax, sR_ bx, sU_, sU_] [(.ref or_258)]))) st_366 ?_
        refine Goes.go (U' := (T_366.setTop (mkF m 62 #[sR_ ax, sR_ bx, sR_ or_258, sU_] [(.ref bx), (.ref ax)]))) (fun t kt => ?_) ?_
        · skip
          refine XS.goto X_366.here hx rfl (pc0 := 52) (pc' := 59) rfl (hb hby d_rm_lu_52) (by decide) (by decide) ?_
          refine XS.astoreN X_366.here hx rfl (hb hby d_rm_lu_59) rfl rfl (l' := #[sR_ ax, sR_ bx, sR_ or_258, sU_]) rfl ?_
          refine XS.aloadN X_366.here hx rfl (hb hby d_rm_lu_60) rfl rfl ?_
          refine XS.aloadN X_366.here hx rfl (hb hby d_rm_lu_61) rfl rfl ?_
          exact kt
        obtain ⟨v_367, T_367, L_367, X_367, q_367, st_367⟩ := callPrivate X_366 hx hZ (y := (⟨"com/example/dead_letter_replay/deadletterreplay/queue/Carries", "countedBefore", "(Lcom/example/dead_letter_replay/deadletterreplay/queue/Carries$Carried;)I"⟩ : MethodName)) (W := 0) hown (wdOf hw 82 rfl) (wdOf hw 83 rfl) (wdOf hw 84 rfl) (wdOf hw 1 rfl) (wdOf hw 2 rfl) (wdOf hw 85 rfl) (by decide) (rm_cb l Z a0 hw [] ax bx sv rv hd cb (.ref cr_1) fv (.ref or_258) (some (cf_1, ce_1, ct_1, cb_1)) (some ox_258) ce ct h0 n0 Z0 O BC o0 E0 F0_since F0_last F0_risk F0_first F0_held Lf.isRef ck_1 Eb Fb_from Fb_era Fb_transaction Fb_backend lk_258) (by decide) (by decide) (by decide) (by decide) K_366 E0 (g := (mkF m 62 #[sR_ ax, sR_ bx, sR_ or_258, sU_] [(.ref bx), (.ref ax)])) rfl (by rw [hml]; rfl) (argsL := [(.ref bx)]) (rest := []) (lenOf pd_7 rfl) rfl rfl (Nat.le_refl _) (hb hby d_rm_lu_62)
        obtain ⟨hx_367, cz_367, rfl, n_367, K_367, GE__367, Gsince__367, Glast__367, Grisk__367, Gfirst__367, Gheld__367, ha_367, hb_367⟩ := q_367
        have N_367 := Fr.app N_366 n_367
        have f_368 : Exa Z T_367.heap ax "com/example/dead_letter_replay/deadletterreplay/queue/Carries" := E0.keep K_367
        have f_374 : CarV Z T_367.heap (.ref cr_1) (some (cf_1, ce_1, ct_1, cb_1)) := ck_1.keepX K_367 E0 (by decide) (by decide)
        have f_375 : LongV Z T_367.heap fv fo := Lf.keepX K_367 E0 (by decide)
        have f_376 : Exa Z T_367.heap bx "com/example/dead_letter_replay/deadletterreplay/queue/Carries$Carried" := Eb.keep K_367
        have f_377 : Fld Z T_367.heap bx "com/example/dead_letter_replay/deadletterreplay/queue/Carries$Carried" "from" "Ljava/lang/Long;" (.ref or_258) := Fb_from.keep K_367 (ninS (ne_exa Eb E0 (by decide)) nin0)
        have f_378 : Fld Z T_367.heap bx "com/example/dead_letter_replay/deadletterreplay/queue/Carries$Carried" "era" "J" (.long ce) := Fb_era.keep K_367 (ninS (ne_exa Eb E0 (by decide)) nin0)
        have f_379 : Fld Z T_367.heap bx "com/example/dead_letter_replay/deadletterreplay/queue/Carries$Carried" "transaction" "J" (.long ct) := Fb_transaction.keep K_367 (ninS (ne_exa Eb E0 (by decide)) nin0)
        have f_380 : Fld Z T_367.heap bx "com/example/dead_letter_replay/deadletterreplay/queue/Carries$Carried" "backend" "I" (.int cb) := Fb_backend.keep K_367 (ninS (ne_exa Eb E0 (by decide)) nin0)
        have f_381 : LongV Z T_367.heap (.ref or_258) (some ox_258) := lk_258.keepX K_367 E0 (by decide)
        have f_382 : Old Z n0 T_367.heap := O.keep K_367 (allS o0 all0)
        have f_383 : Exa Z T_367.heap cr_1 "com/example/dead_letter_replay/deadletterreplay/queue/Carries$Carried" := cE_1.keep K_367
        have f_384 : Fld Z T_367.heap cr_1 "com/example/dead_letter_replay/deadletterreplay/queue/Carries$Carried" "from" "Ljava/lang/Long;" cv_1 := cF_1.keep K_367 (ninS (ne_exa cE_1 E0 (by decide)) nin0)
        have f_385 : Fld Z T_367.heap cr_1 "com/example/dead_letter_replay/deadletterreplay/queue/Carries$Carried" "era" "J" (.long ce_1) := cG_1.keep K_367 (ninS (ne_exa cE_1 E0 (by decide)) nin0)
        have f_386 : Fld Z T_367.heap cr_1 "com/example/dead_letter_replay/deadletterreplay/queue/Carries$Carried" "transaction" "J" (.long ct_1) := cH_1.keep K_367 (ninS (ne_exa cE_1 E0 (by decide)) nin0)
        have f_387 : Fld Z T_367.heap cr_1 "com/example/dead_letter_replay/deadletterreplay/queue/Carries$Carried" "backend" "I" (.int cb_1) := cI_1.keep K_367 (ninS (ne_exa cE_1 E0 (by decide)) nin0)
        have f_388 : LongV Z T_367.heap cv_1 cf_1 := cL_1.keepX K_367 E0 (by decide)
        have f_389 : Exa Z T_367.heap or_258 "java/lang/Long" := oe_258.keep K_367
        have f_390 : Fld Z T_367.heap or_258 "java/lang/Long" "value" "J" (.long ox_258) := of_258.keep K_367 (ninS (ne_exa oe_258 E0 (by decide)) nin0)
        have K_391 : Keep h0 T_367.heap [ax] := K0.trans K_367 (allS (P := fun x => x ∈ [ax] ∨ h0.size ≤ x) (Or.inl (List.mem_of_getElem? (i := 0) rfl)) all0)
        have y_391 : n0 ≤ T_367.heap.size := Nat.le_trans Z0 K_391.1
        refine Goes.go (U' := (T_367.setTop (mkF m 65 #[sR_ ax, sR_ bx, sR_ or_258, sU_] [(.int cz_367)]))) st_367 ?_
        refine Goes.go (U' := (T_367.setTop (mkF m 77 #[sR_ ax, sR_ bx, sR_ or_258, sI_ cz_367] [(.ref bx), (.long (cz_367.toInt64))]))) (fun t kt => ?_) ?_
        · skip
          refine XS.istoreN X_367.here hx rfl (hb hby d_rm_lu_65) rfl (l' := #[sR_ ax, sR_ bx, sR_ or_258, sI_ cz_367]) rfl ?_
          refine XS.aloadN X_367.here hx rfl (hb hby d_rm_lu_66) rfl rfl ?_
          refine XS.ifnonnullYes X_367.here hx rfl (pc0 := 67) (pc' := 74) rfl (hb hby d_rm_lu_67) rfl (by decide) (by decide) ?_
          refine XS.iloadN X_367.here hx rfl (hb hby d_rm_lu_74) rfl ?_
          refine XS.i2l X_367.here hx rfl (hb hby d_rm_lu_75) rfl ?_
          refine XS.aloadN X_367.here hx rfl (hb hby d_rm_lu_76) rfl rfl ?_
          exact kt
        obtain ⟨v_392, T_392, L_392, X_392, q_392, st_392⟩ := callVirtual X_367 hx hZ (y := (⟨"com/example/dead_letter_replay/deadletterreplay/queue/Carries$Carried", "era", "()J"⟩ : MethodName)) (z := (⟨"com/example/dead_letter_replay/deadletterreplay/queue/Carries$Carried", "era", "()J"⟩ : MethodName)) (W := 2) hown (wdOf hw 86 rfl) (wdOf hw 87 rfl) (notFace_of_selects (args := #[]) (mvT hZ (wdOf hw 89 rfl))) (wdOf hw 89 rfl) (wdOf hw 88 rfl) (wdOf hw 55 rfl) (wdOf hw 90 rfl) (by decide) (rm_era l Z a0 hw [] bx ce T_367.heap n0 y_391 f_378) (by decide) (by decide) (by decide) (by decide) (rfl : T_367.heap = T_367.heap) f_376 (g := (mkF m 77 #[sR_ ax, sR_ bx, sR_ or_258, sI_ cz_367] [(.ref bx), (.long (cz_367.toInt64))])) rfl (by rw [hml]; rfl) (argsL := []) (rest := [(.long (cz_367.toInt64))]) (lenOf pd_2 rfl) rfl rfl (Nat.le_refl _) (hb hby d_rm_lu_77)
        obtain ⟨rfl, n_392, K_392⟩ := q_392
        have N_392 := Fr.app N_367 n_392
        refine Goes.go (U' := (T_392.setTop (mkF m 80 #[sR_ ax, sR_ bx, sR_ or_258, sI_ cz_367] [(.long ce), (.long (cz_367.toInt64))]))) st_392 ?_
        refine Goes.go (U' := (T_392.setTop (mkF m 81 #[sR_ ax, sR_ bx, sR_ or_258, sI_ cz_367] [(.ref or_258), (.long ce), (.long (cz_367.toInt64))]))) (fun t kt => ?_) ?_
        · skip
          refine XS.aloadN X_392.here hx rfl (hb hby d_rm_lu_80) rfl rfl ?_
          exact kt
        obtain ⟨v_393, T_393, L_393, X_393, q_393, st_393⟩ := callVirtual X_392 hx hZ (y := (⟨"java/lang/Long", "longValue", "()J"⟩ : MethodName)) (z := (⟨"java/lang/Long", "longValue", "()J"⟩ : MethodName)) (W := 4) hown (wdOf hw 91 rfl) (wdOf hw 92 rfl) (notFace_of_selects (args := #[]) (mvT hZ (wdOf hw 94 rfl))) (wdOf hw 94 rfl) (wdOf hw 93 rfl) (wdOf hw 35 rfl) (wdOf hw 95 rfl) (by decide) (rm_lv l Z a0 hw [] or_258 ox_258 T_367.heap n0 y_391 f_390) (by decide) (by decide) (by decide) (by decide) K_392 f_389 (g := (mkF m 81 #[sR_ ax, sR_ bx, sR_ or_258, sI_ cz_367] [(.ref or_258), (.long ce), (.long (cz_367.toInt64))])) rfl (by rw [hml]; rfl) (argsL := []) (rest := [(.long ce), (.long (cz_367.toInt64))]) (lenOf pd_2 rfl) rfl rfl (Nat.le_refl _) (hb hby d_rm_lu_81)
        obtain ⟨rfl, n_393, K_393⟩ := q_393
        have N_393 := Fr.app N_392 n_393
        refine Goes.go (U' := (T_393.setTop (mkF m 84 #[sR_ ax, sR_ bx, sR_ or_258, sI_ cz_367] [(.long ox_258), (.long ce), (.long (cz_367.toInt64))]))) st_393 ?_
        refine Goes.go (U' := (T_393.setTop (mkF m 87 #[sR_ ax, sR_ bx, sR_ or_258, sI_ cz_367] [(.long ((ce - ox_258) + (1 : Int64))), (.long (cz_367.toInt64))]))) (fun t kt => ?_) ?_
        · skip
          refine XS.lsub X_393.here hx rfl (hb hby d_rm_lu_84) rfl ?_
          refine XS.lconst X_393.here hx rfl (hb hby d_rm_lu_85) ?_
          refine XS.ladd X_393.here hx rfl (hb hby d_rm_lu_86) rfl ?_
          exact kt
        obtain ⟨v_394, T_394, L_394, X_394, q_394, st_394⟩ := callStatic X_393 hx hZ (y := (⟨"java/lang/Math", "min", "(JJ)J"⟩ : MethodName)) (W := 0) hown (wdOf hw 96 rfl) (wdOf hw 97 rfl) (wdOf hw 98 rfl) (wdOf hw 99 rfl) (by decide) (rm_min l Z a0 hw [] (cz_367.toInt64) ((ce - ox_258) + (1 : Int64)) T_367.heap n0 y_391) (by decide) (by decide) (by decide) (by decide) K_393 (g := (mkF m 87 #[sR_ ax, sR_ bx, sR_ or_258, sI_ cz_367] [(.long ((ce - ox_258) + (1 : Int64))), (.long (cz_367.toInt64))])) rfl (by rw [hml]; rfl) (argsL := [(.long (cz_367.toInt64)), (.long ((ce - ox_258) + (1 : Int64)))]) (rest := []) (lenOf pd_8 rfl) rfl rfl (Nat.le_refl _) (hb hby d_rm_lu_87)
        obtain ⟨mz_394, rfl, n_394, K_394, -⟩ := q_394
        have N_394 := Fr.app N_393 n_394
        refine Goes.go (U' := (T_394.setTop (mkF m 90 #[sR_ ax, sR_ bx, sR_ or_258, sI_ cz_367] [(.long mz_394)]))) st_394 ?_
        refine Goes.go (U' := (T_394.setTop (mkF m 91 #[sR_ ax, sR_ bx, sR_ or_258, sI_ cz_367] [(.int (mz_394.toInt32))]))) (fun t kt => ?_) ?_
        · skip
          refine XS.l2i X_394.here hx rfl (hb hby d_rm_lu_90) rfl ?_
          exact kt
        refine Goes.retI X_394 hx hlk hret (hb hby d_rm_lu_91) (by decide) (by decide) ?_
        try rw [K_394]
        exact ⟨_, _, rfl, N_394, K_391, f_368, Gsince__367, Glast__367, Grisk__367, Gfirst__367, Gheld__367, fun p => absurd p.1 cq, fun _ => hb_367 (fun p => cq p.1)⟩
theorem d_rm_cr_0 : decode prog_11_method_5_code 0 = .ok (.aload_n 1, 1) := by decide +kernel
theorem d_rm_cr_1 : decode prog_11_method_5_code 1 = .ok (.ifnonnull 16, 3) := by decide +kernel
theorem d_rm_cr_4 : decode prog_11_method_5_code 4 = .ok (.aload_n 0, 1) := by decide +kernel
theorem d_rm_cr_5 : decode prog_11_method_5_code 5 = .ok (.aconst_null, 1) := by decide +kernel
theorem d_rm_cr_6 : decode prog_11_method_5_code 6 = .ok (.putfield 30, 3) := by decide +kernel
theorem d_rm_cr_9 : decode prog_11_method_5_code 9 = .ok (.aload_n 0, 1) := by decide +kernel
theorem d_rm_cr_10 : decode prog_11_method_5_code 10 = .ok (.iconst 0, 1) := by decide +kernel
theorem d_rm_cr_11 : decode prog_11_method_5_code 11 = .ok (.putfield 19, 3) := by decide +kernel
theorem d_rm_cr_14 : decode prog_11_method_5_code 14 = .ok (.goto 35, 3) := by decide +kernel
theorem d_rm_cr_17 : decode prog_11_method_5_code 17 = .ok (.aload_n 0, 1) := by decide +kernel
theorem d_rm_cr_18 : decode prog_11_method_5_code 18 = .ok (.aload_n 0, 1) := by decide +kernel
theorem d_rm_cr_19 : decode prog_11_method_5_code 19 = .ok (.aload_n 1, 1) := by decide +kernel
theorem d_rm_cr_20 : decode prog_11_method_5_code 20 = .ok (.invokevirtual 34, 3) := by decide +kernel
theorem d_rm_cr_23 : decode prog_11_method_5_code 23 = .ok (.putfield 19, 3) := by decide +kernel
theorem d_rm_cr_26 : decode prog_11_method_5_code 26 = .ok (.aload_n 0, 1) := by decide +kernel
theorem d_rm_cr_27 : decode prog_11_method_5_code 27 = .ok (.aload_n 1, 1) := by decide +kernel
theorem d_rm_cr_28 : decode prog_11_method_5_code 28 = .ok (.putfield 30, 3) := by decide +kernel
theorem d_rm_cr_31 : decode prog_11_method_5_code 31 = .ok (.aload_n 0, 1) := by decide +kernel
theorem d_rm_cr_32 : decode prog_11_method_5_code 32 = .ok (.getfield 26, 3) := by decide +kernel
theorem d_rm_cr_35 : decode prog_11_method_5_code 35 = .ok (.ifnonnull 14, 3) := by decide +kernel
theorem d_rm_cr_38 : decode prog_11_method_5_code 38 = .ok (.aload_n 0, 1) := by decide +kernel
theorem d_rm_cr_39 : decode prog_11_method_5_code 39 = .ok (.aload_n 1, 1) := by decide +kernel
theorem d_rm_cr_40 : decode prog_11_method_5_code 40 = .ok (.invokevirtual 38, 3) := by decide +kernel
theorem d_rm_cr_43 : decode prog_11_method_5_code 43 = .ok (.invokestatic 44, 3) := by decide +kernel
theorem d_rm_cr_46 : decode prog_11_method_5_code 46 = .ok (.putfield 26, 3) := by decide +kernel
theorem d_rm_cr_49 : decode prog_11_method_5_code 49 = .ok (.aload_n 0, 1) := by decide +kernel
theorem d_rm_cr_50 : decode prog_11_method_5_code 50 = .ok (.iconst 1, 1) := by decide +kernel
theorem d_rm_cr_51 : decode prog_11_method_5_code 51 = .ok (.putfield 7, 3) := by decide +kernel
theorem d_rm_cr_54 : decode prog_11_method_5_code 54 = .ok (.return_, 1) := by decide +kernel
set_option maxHeartbeats 4000000 in
theorem ef_rm_cr (m : MethodId) (x0 : Addr) (x1 : Value) (rx1 : x1.isRef = true) : entryFrame m #[(.ref x0), x1] 2 = mkF m 0 #[.val (.ref x0), .val x1] [] := by simp [entryFrame, mkF, argsToLocals, catR, catN, catI, catJ, XT.cat1 rx1]
set_option maxRecDepth 65536 in
set_option maxHeartbeats 40000000 in
theorem rm_cr (l : Launch) (Z : State) (a0 : Array Value) (hw : ∀ d ∈ tables_1, d.before a0 Z = true) (ws : List Jvm.Cond) (ax : Addr) (xc : Value) (lo o : Option OwnC) (fo : Option Int64) (hd : Int32) (h0 : Heap) (n0 : Nat) (Z0 : n0 ≤ h0.size) (O : Old Z n0 h0) (BC : BoxC Z "java/lang/Long$LongCache" "[Ljava/lang/Long;" "java/lang/Long" "J" (fun i => .long (i.toInt32 - 128).toInt64)) (o0 : n0 ≤ ax) (S0 : CarS Z h0 ax lo fo hd) (Lx : CarV Z h0 xc o) :
    Pays l Z (⟨"com/example/dead_letter_replay/deadletterreplay/queue/Carries", "carried", "(Lcom/example/dead_letter_replay/deadletterreplay/queue/Carries$Carried;)V"⟩ : MethodName) prog_11_method_5_code 2 none ws ({ frames := 6, cells := 2, slots := 2, locals := 82 } : Room) #[(.ref ax), xc] h0 (fun v h L => ∃ hd', v = none ∧ Fr n0 L ∧ Keep h0 h [ax] ∧ CarS Z h ax o (OwnFst fo o) hd' ∧ (∀ c, o = some c → (OwnHit lo c → hd' = (1 : Int32)) ∧ (¬ OwnHit lo c → hd' = hd)) ∧ (o = none → hd' = hd)) := by
  refine Pays.of (plainFor_of_name (by first | (simp [plainName, overriddenIn]; done) | decide +kernel)) ?_
  intro p e s m below meth c s₁ hx hby hml hown hnm hret hlk hZ e0 X0
  have N0 := Fr.nil n0
  have K0 : Keep h0 h0 [ax] := Keep.refl _ _
  refine Goes.go (U' := (s₁.setTop (mkF m 0 #[sR_ ax, .val xc] []))) (fun t kt => castTop (ef_rm_cr m ax xc Lx.isRef) kt) ?_
  obtain ⟨sv_1, rv_1, lv_1, fv_1, Ea_1, Fs_1, Fl_1, Fr_1, Ff_1, Fh_1, Lc_1, Lf_1⟩ := S0
  rcases fo with _ | ox_2
  · -- none
    have lk_2 := Lf_1
    obtain rfl : fv_1 = Value.null := Lf_1
    rcases o with _ | ⟨cf_3, ce_3, ct_3, cb_3⟩
    · -- none
      have ck_3 := Lx
      obtain rfl : xc = Value.null := Lx
      refine Goes.go (U' := (s₁.setTop (mkF m 6 #[sR_ ax, .val .null] [.null, (.ref ax)]))) (fun t kt => ?_) ?_
      · skip
        refine XS.aloadN X0.here hx rfl (hb hby d_rm_cr_0) rfl rfl ?_
        refine XS.ifnonnullNo X0.here hx rfl (hb hby d_rm_cr_1) rfl ?_
        refine XS.aloadN X0.here hx rfl (hb hby d_rm_cr_4) rfl rfl ?_
        refine XS.aconstNull X0.here hx rfl (hb hby d_rm_cr_5) ?_
        exact kt
      obtain ⟨T_4, h_4, X_4, e_4, W_4, st_4⟩ := putF X0 hx hZ hown (host := "") (Or.inl (wdOf hw 23 rfl)) Via.refl e0 Fl_1 Ea_1 (Or.inl (wdOf hw 24 rfl)) (wdOf hw 1 rfl) (ty := (.object "com/example/dead_letter_replay/deadletterreplay/queue/Carries$Carried")) (by decide) rfl rfl (g := (mkF m 6 #[sR_ ax, .val .null] [.null, (.ref ax)])) rfl rfl (hb hby d_rm_cr_6)
      have N_4 := Fr.snoc X_4 N0 o0
      have f_5 : CarV Z h_4 .null none := ck_3.keepX (Keep.of_wr W_4) Ea_1 (by decide) (by decide)
      have f_6 : Old Z n0 h_4 := O.wr W_4 o0
      have f_7 : Exa Z h_4 ax "com/example/dead_letter_replay/deadletterreplay/queue/Carries" := Ea_1.wr W_4
      have f_8 : Fld Z h_4 ax "com/example/dead_letter_replay/deadletterreplay/queue/Carries" "since" "I" (.int sv_1) := Fs_1.other W_4 (Or.inr (slot_ne (Or.inl (wdOf hw 28 rfl)) (Or.inl (wdOf hw 24 rfl)) (by decide) (t := .int) (t' := (.object "com/example/dead_letter_replay/deadletterreplay/queue/Carries$Carried")) (by decide) (by decide)))
      have f_9 : Fld Z h_4 ax "com/example/dead_letter_replay/deadletterreplay/queue/Carries" "last" "Lcom/example/dead_letter_replay/deadletterreplay/queue/Carries$Carried;" .null := Fl_1.same W_4
      have f_10 : Fld Z h_4 ax "com/example/dead_letter_replay/deadletterreplay/queue/Carries" "risk" "I" (.int rv_1) := Fr_1.other W_4 (Or.inr (slot_ne (Or.inl (wdOf hw 26 rfl)) (Or.inl (wdOf hw 24 rfl)) (by decide) (t := .int) (t' := (.object "com/example/dead_letter_replay/deadletterreplay/queue/Carries$Carried")) (by decide) (by decide)))
      have f_11 : Fld Z h_4 ax "com/example/dead_letter_replay/deadletterreplay/queue/Carries" "first" "Ljava/lang/Long;" .null := Ff_1.other W_4 (Or.inr (slot_ne (Or.inl (wdOf hw 17 rfl)) (Or.inl (wdOf hw 24 rfl)) (by decide) (t := (.object "java/lang/Long")) (t' := (.object "com/example/dead_letter_replay/deadletterreplay/queue/Carries$Carried")) (by decide) (by decide)))
      have f_12 : Fld Z h_4 ax "com/example/dead_letter_replay/deadletterreplay/queue/Carries" "held" "Z" (.int hd) := Fh_1.other W_4 (Or.inr (slot_ne (Or.inl (wdOf hw 15 rfl)) (Or.inl (wdOf hw 24 rfl)) (by decide) (t := .boolean) (t' := (.object "com/example/dead_letter_replay/deadletterreplay/queue/Carries$Carried")) (by decide) (by decide)))
      have f_13 : CarV Z h_4 lv_1 lo := Lc_1.keepX (Keep.of_wr W_4) Ea_1 (by decide) (by decide)
      have f_14 : LongV Z h_4 .null none := lk_2.keepX (Keep.of_wr W_4) Ea_1 (by decide)
      have K_15 : Keep h0 h_4 [ax] := K0.wr W_4 (Or.inl (List.mem_of_getElem? (i := 0) rfl))
      have y_15 : n0 ≤ h_4.size := Nat.le_trans Z0 K_15.1
      refine Goes.go (U' := (T_4.setTop (mkF m 9 #[sR_ ax, .val .null] []))) st_4 ?_
      refine Goes.go (U' := (T_4.setTop (mkF m 11 #[sR_ ax, .val .null] [(.int (0 : Int32)), (.ref ax)]))) (fun t kt => ?_) ?_
      · skip
        refine XS.aloadN X_4.here hx rfl (hb hby d_rm_cr_9) rfl rfl ?_
        refine XS.iconst X_4.here hx rfl (hb hby d_rm_cr_10) ?_
        exact kt
      obtain ⟨T_16, h_16, X_16, e_16, W_16, st_16⟩ := putF X_4 hx hZ hown (host := "") (Or.inl (wdOf hw 25 rfl)) Via.refl e_4 f_10 f_7 (Or.inl (wdOf hw 26 rfl)) (wdOf hw 1 rfl) (ty := .int) (by decide) rfl rfl (g := (mkF m 11 #[sR_ ax, .val .null] [(.int (0 : Int32)), (.ref ax)])) rfl rfl (hb hby d_rm_cr_11)
      have N_16 := Fr.snoc X_16 N_4 o0
      have f_17 : CarV Z h_16 .null none := f_5.keepX (Keep.of_wr W_16) f_7 (by decide) (by decide)
      have f_18 : Old Z n0 h_16 := f_6.wr W_16 o0
      have f_19 : Exa Z h_16 ax "com/example/dead_letter_replay/deadletterreplay/queue/Carries" := f_7.wr W_16
      have f_20 : Fld Z h_16 ax "com/example/dead_letter_replay/deadletterreplay/queue/Carries" "since" "I" (.int sv_1) := f_8.other W_16 (Or.inr (slot_ne (Or.inl (wdOf hw 28 rfl)) (Or.inl (wdOf hw 26 rfl)) (by decide) (t := .int) (t' := .int) (by decide) (by decide)))
      have f_21 : Fld Z h_16 ax "com/example/dead_letter_replay/deadletterreplay/queue/Carries" "last" "Lcom/example/dead_letter_replay/deadletterreplay/queue/Carries$Carried;" .null := f_9.other W_16 (Or.inr (slot_ne (Or.inl (wdOf hw 24 rfl)) (Or.inl (wdOf hw 26 rfl)) (by decide) (t := (.object "com/example/dead_letter_replay/deadletterreplay/queue/Carries$Carried")) (t' := .int) (by decide) (by decide)))
      have f_22 : Fld Z h_16 ax "com/example/dead_letter_replay/deadletterreplay/queue/Carries" "risk" "I" (.int (0 : Int32)) := f_10.same W_16
      have f_23 : Fld Z h_16 ax "com/example/dead_letter_replay/deadletterreplay/queue/Carries" "first" "Ljava/lang/Long;" .null := f_11.other W_16 (Or.inr (slot_ne (Or.inl (wdOf hw 17 rfl)) (Or.inl (wdOf hw 26 rfl)) (by decide) (t := (.object "java/lang/Long")) (t' := .int) (by decide) (by decide)))
      have f_24 : Fld Z h_16 ax "com/example/dead_letter_replay/deadletterreplay/queue/Carries" "held" "Z" (.int hd) := f_12.other W_16 (Or.inr (slot_ne (Or.inl (wdOf hw 15 rfl)) (Or.inl (wdOf hw 26 rfl)) (by decide) (t := .boolean) (t' := .int) (by decide) (by decide)))
      have f_25 : CarV Z h_16 lv_1 lo := f_13.keepX (Keep.of_wr W_16) f_7 (by decide) (by decide)
      have f_26 : LongV Z h_16 .null none := f_14.keepX (Keep.of_wr W_16) f_7 (by decide)
      have K_27 : Keep h0 h_16 [ax] := K_15.wr W_16 (Or.inl (List.mem_of_getElem? (i := 0) rfl))
      have y_27 : n0 ≤ h_16.size := Nat.le_trans Z0 K_27.1
      refine Goes.go (U' := (T_16.setTop (mkF m 14 #[sR_ ax, .val .null] []))) st_16 ?_
      refine Goes.go (U' := (T_16.setTop (mkF m 51 #[sR_ ax, .val .null] [(.int (1 : Int32)), (.ref ax)]))) (fun t kt => ?_) ?_
      · skip
        refine XS.goto X_16.here hx rfl (pc0 := 14) (pc' := 49) rfl (hb hby d_rm_cr_14) (by decide) (by decide) ?_
        refine XS.aloadN X_16.here hx rfl (hb hby d_rm_cr_49) rfl rfl ?_
        refine XS.iconst X_16.here hx rfl (hb hby d_rm_cr_50) ?_
        exact kt
      obtain ⟨T_28, h_28, X_28, e_28, W_28, st_28⟩ := putF X_16 hx hZ hown (host := "") (Or.inl (wdOf hw 27 rfl)) Via.refl e_16 f_20 f_19 (Or.inl (wdOf hw 28 rfl)) (wdOf hw 1 rfl) (ty := .int) (by decide) rfl rfl (g := (mkF m 51 #[sR_ ax, .val .null] [(.int (1 : Int32)), (.ref ax)])) rfl rfl (hb hby d_rm_cr_51)
      have N_28 := Fr.snoc X_28 N_16 o0
      have f_29 : CarV Z h_28 .null none := f_17.keepX (Keep.of_wr W_28) f_19 (by decide) (by decide)
      have f_30 : Old Z n0 h_28 := f_18.wr W_28 o0
      have f_31 : Exa Z h_28 ax "com/example/dead_letter_replay/deadletterreplay/queue/Carries" := f_19.wr W_28
      have f_32 : Fld Z h_28 ax "com/example/dead_letter_replay/deadletterreplay/queue/Carries" "since" "I" (.int (1 : Int32)) := f_20.same W_28
      have f_33 : Fld Z h_28 ax "com/example/dead_letter_replay/deadletterreplay/queue/Carries" "last" "Lcom/example/dead_letter_replay/deadletterreplay/queue/Carries$Carried;" .null := f_21.other W_28 (Or.inr (slot_ne (Or.inl (wdOf hw 24 rfl)) (Or.inl (wdOf hw 28 rfl)) (by decide) (t := (.object "com/example/dead_letter_replay/deadletterreplay/queue/Carries$Carried")) (t' := .int) (by decide) (by decide)))
      have f_34 : Fld Z h_28 ax "com/example/dead_letter_replay/deadletterreplay/queue/Carries" "risk" "I" (.int (0 : Int32)) := f_22.other W_28 (Or.inr (slot_ne (Or.inl (wdOf hw 26 rfl)) (Or.inl (wdOf hw 28 rfl)) (by decide) (t := .int) (t' := .int) (by decide) (by decide)))
      have f_35 : Fld Z h_28 ax "com/example/dead_letter_replay/deadletterreplay/queue/Carries" "first" "Ljava/lang/Long;" .null := f_23.other W_28 (Or.inr (slot_ne (Or.inl (wdOf hw 17 rfl)) (Or.inl (wdOf hw 28 rfl)) (by decide) (t := (.object "java/lang/Long")) (t' := .int) (by decide) (by decide)))
      have f_36 : Fld Z h_28 ax "com/example/dead_letter_replay/deadletterreplay/queue/Carries" "held" "Z" (.int hd) := f_24.other W_28 (Or.inr (slot_ne (Or.inl (wdOf hw 15 rfl)) (Or.inl (wdOf hw 28 rfl)) (by decide) (t := .boolean) (t' := .int) (by decide) (by decide)))
      have f_37 : CarV Z h_28 lv_1 lo := f_25.keepX (Keep.of_wr W_28) f_19 (by decide) (by decide)
      have f_38 : LongV Z h_28 .null none := f_26.keepX (Keep.of_wr W_28) f_19 (by decide)
      have K_39 : Keep h0 h_28 [ax] := K_27.wr W_28 (Or.inl (List.mem_of_getElem? (i := 0) rfl))
      have y_39 : n0 ≤ h_28.size := Nat.le_trans Z0 K_39.1
      refine Goes.go (U' := (T_28.setTop (mkF m 54 #[sR_ ax, .val .null] []))) st_28 ?_
      refine Goes.retV X_28 hx hlk hret (hb hby d_rm_cr_54) (by decide) (by decide) ?_
      try rw [e_28]
      exact ⟨_, rfl, N_28, K_39, ⟨_, _, _, _, f_31, f_32, f_33, f_34, f_35, f_36, rfl, f_38⟩, fun c q => (nomatch q), fun _ => rfl⟩
    · -- some
      have ck_3 := Lx
      obtain ⟨cr_3, cv_3, rfl, cE_3, cF_3, cG_3, cH_3, cI_3, cL_3⟩ := Lx
      refine Goes.go (U' := (s₁.setTop (mkF m 20 #[sR_ ax, sR_ cr_3] [(.ref cr_3), (.ref ax), (.ref ax)]))) (fun t kt => ?_) ?_
      · skip
        refine XS.aloadN X0.here hx rfl (hb hby d_rm_cr_0) rfl rfl ?_
        refine XS.ifnonnullYes X0.here hx rfl (pc0 := 1) (pc' := 17) rfl (hb hby d_rm_cr_1) rfl (by decide) (by decide) ?_
        refine XS.aloadN X0.here hx rfl (hb hby d_rm_cr_17) rfl rfl ?_
        refine XS.aloadN X0.here hx rfl (hb hby d_rm_cr_18) rfl rfl ?_
        refine XS.aloadN X0.here hx rfl (hb hby d_rm_cr_19) rfl rfl ?_
        exact kt
      obtain ⟨v_40, T_40, L_40, X_40, q_40, st_40⟩ := callPrivate X0 hx hZ (y := (⟨"com/example/dead_letter_replay/deadletterreplay/queue/Carries", "leftIfUndone", "(Lcom/example/dead_letter_replay/deadletterreplay/queue/Carries$Carried;)I"⟩ : MethodName)) (W := 1) hown (wdOf hw 73 rfl) (wdOf hw 74 rfl) (wdOf hw 75 rfl) (wdOf hw 1 rfl) (wdOf hw 2 rfl) (wdOf hw 76 rfl) (by decide) (rm_lu l Z a0 hw [] ax cr_3 sv_1 rv_1 hd cb_3 lv_1 .null cv_3 lo cf_3 none ce_3 ct_3 h0 n0 Z0 O BC o0 Ea_1 Fs_1 Fl_1 Fr_1 Ff_1 Fh_1 Lc_1 lk_2 cE_3 cF_3 cG_3 cH_3 cI_3 cL_3) (by decide) (by decide) (by decide) (by decide) e0 Ea_1 (g := (mkF m 20 #[sR_ ax, sR_ cr_3] [(.ref cr_3), (.ref ax), (.ref ax)])) rfl (by rw [hml]; rfl) (argsL := [(.ref cr_3)]) (rest := [(.ref ax)]) (lenOf pd_7 rfl) rfl rfl (Nat.le_refl _) (hb hby d_rm_cr_20)
      obtain ⟨hx_40, cz_40, rfl, n_40, K_40, GE__40, Gsince__40, Glast__40, Grisk__40, Gfirst__40, Gheld__40, ha_40, hb_40⟩ := q_40
      have N_40 := Fr.app N0 n_40
      have f_41 : CarV Z T_40.heap (.ref cr_3) (some (cf_3, ce_3, ct_3, cb_3)) := ck_3.keepX K_40 Ea_1 (by decide) (by decide)
      have f_42 : Old Z n0 T_40.heap := O.keep K_40 (allS o0 all0)
      have f_43 : Exa Z T_40.heap ax "com/example/dead_letter_replay/deadletterreplay/queue/Carries" := Ea_1.keep K_40
      have f_49 : CarV Z T_40.heap lv_1 lo := Lc_1.keepX K_40 Ea_1 (by decide) (by decide)
      have f_50 : LongV Z T_40.heap .null none := lk_2.keepX K_40 Ea_1 (by decide)
      have f_51 : Exa Z T_40.heap cr_3 "com/example/dead_letter_replay/deadletterreplay/queue/Carries$Carried" := cE_3.keep K_40
      have f_52 : Fld Z T_40.heap cr_3 "com/example/dead_letter_replay/deadletterreplay/queue/Carries$Carried" "from" "Ljava/lang/Long;" cv_3 := cF_3.keep K_40 (ninS (ne_exa cE_3 Ea_1 (by decide)) nin0)
      have f_53 : Fld Z T_40.heap cr_3 "com/example/dead_letter_replay/deadletterreplay/queue/Carries$Carried" "era" "J" (.long ce_3) := cG_3.keep K_40 (ninS (ne_exa cE_3 Ea_1 (by decide)) nin0)
      have f_54 : Fld Z T_40.heap cr_3 "com/example/dead_letter_replay/deadletterreplay/queue/Carries$Carried" "transaction" "J" (.long ct_3) := cH_3.keep K_40 (ninS (ne_exa cE_3 Ea_1 (by decide)) nin0)
      have f_55 : Fld Z T_40.heap cr_3 "com/example/dead_letter_replay/deadletterreplay/queue/Carries$Carried" "backend" "I" (.int cb_3) := cI_3.keep K_40 (ninS (ne_exa cE_3 Ea_1 (by decide)) nin0)
      have f_56 : LongV Z T_40.heap cv_3 cf_3 := cL_3.keepX K_40 Ea_1 (by decide)
      have K_57 : Keep h0 T_40.heap [ax] := K0.trans K_40 (allS (P := fun x => x ∈ [ax] ∨ h0.size ≤ x) (Or.inl (List.mem_of_getElem? (i := 0) rfl)) all0)
      have y_57 : n0 ≤ T_40.heap.size := Nat.le_trans Z0 K_57.1
      refine Goes.go (U' := (T_40.setTop (mkF m 23 #[sR_ ax, sR_ cr_3] [(.int cz_40), (.ref ax)]))) st_40 ?_
      obtain ⟨T_58, h_58, X_58, e_58, W_58, st_58⟩ := putF X_40 hx hZ hown (host := "") (Or.inl (wdOf hw 25 rfl)) Via.refl (rfl : T_40.heap = T_40.heap) Grisk__40 f_43 (Or.inl (wdOf hw 26 rfl)) (wdOf hw 1 rfl) (ty := .int) (by decide) rfl rfl (g := (mkF m 23 #[sR_ ax, sR_ cr_3] [(.int cz_40), (.ref ax)])) rfl rfl (hb hby d_rm_cr_23)
      have N_58 := Fr.snoc X_58 N_40 o0
      have f_59 : CarV Z h_58 (.ref cr_3) (some (cf_3, ce_3, ct_3, cb_3)) := f_41.keepX (Keep.of_wr W_58) f_43 (by decide) (by decide)
      have f_60 : Old Z n0 h_58 := f_42.wr W_58 o0
      have f_61 : Exa Z h_58 ax "com/example/dead_letter_replay/deadletterreplay/queue/Carries" := f_43.wr W_58
      have f_62 : CarV Z h_58 lv_1 lo := f_49.keepX (Keep.of_wr W_58) f_43 (by decide) (by decide)
      have f_63 : LongV Z h_58 .null none := f_50.keepX (Keep.of_wr W_58) f_43 (by decide)
      have f_64 : Exa Z h_58 cr_3 "com/example/dead_letter_replay/deadletterreplay/queue/Carries$Carried" := f_51.wr W_58
      have f_65 : Fld Z h_58 cr_3 "com/example/dead_letter_replay/deadletterreplay/queue/Carries$Carried" "from" "Ljava/lang/Long;" cv_3 := f_52.other W_58 (Or.inl (ne_exa f_51 f_43 (by decide)))
      have f_66 : Fld Z h_58 cr_3 "com/example/dead_letter_replay/deadletterreplay/queue/Carries$Carried" "era" "J" (.long ce_3) := f_53.other W_58 (Or.inl (ne_exa f_51 f_43 (by decide)))
      have f_67 : Fld Z h_58 cr_3 "com/example/dead_letter_replay/deadletterreplay/queue/Carries$Carried" "transaction" "J" (.long ct_3) := f_54.other W_58 (Or.inl (ne_exa f_51 f_43 (by decide)))
      have f_68 : Fld Z h_58 cr_3 "com/example/dead_letter_replay/deadletterreplay/queue/Carries$Carried" "backend" "I" (.int cb_3) := f_55.other W_58 (Or.inl (ne_exa f_51 f_43 (by decide)))
      have f_69 : LongV Z h_58 cv_3 cf_3 := f_56.keepX (Keep.of_wr W_58) f_43 (by decide)
      have f_70 : Fld Z h_58 ax "com/example/dead_letter_replay/deadletterreplay/queue/Carries" "since" "I" (.int sv_1) := Gsince__40.other W_58 (Or.inr (slot_ne (Or.inl (wdOf hw 28 rfl)) (Or.inl (wdOf hw 26 rfl)) (by decide) (t := .int) (t' := .int) (by decide) (by decide)))
      have f_71 : Fld Z h_58 ax "com/example/dead_letter_replay/deadletterreplay/queue/Carries" "last" "Lcom/example/dead_letter_replay/deadletterreplay/queue/Carries$Carried;" lv_1 := Glast__40.other W_58 (Or.inr (slot_ne (Or.inl (wdOf hw 24 rfl)) (Or.inl (wdOf hw 26 rfl)) (by decide) (t := (.object "com/example/dead_letter_replay/deadletterreplay/queue/Carries$Carried")) (t' := .int) (by decide) (by decide)))
      have f_72 : Fld Z h_58 ax "com/example/dead_letter_replay/deadletterreplay/queue/Carries" "risk" "I" (.int cz_40) := Grisk__40.same W_58
      have f_73 : Fld Z h_58 ax "com/example/dead_letter_replay/deadletterreplay/queue/Carries" "first" "Ljava/lang/Long;" .null := Gfirst__40.other W_58 (Or.inr (slot_ne (Or.inl (wdOf hw 17 rfl)) (Or.inl (wdOf hw 26 rfl)) (by decide) (t := (.object "java/lang/Long")) (t' := .int) (by decide) (by decide)))
      have f_74 : Fld Z h_58 ax "com/example/dead_letter_replay/deadletterreplay/queue/Carries" "held" "Z" (.int hx_40) := Gheld__40.other W_58 (Or.inr (slot_ne (Or.inl (wdOf hw 15 rfl)) (Or.inl (wdOf hw 26 rfl)) (by decide) (t := .boolean) (t' := .int) (by decide) (by decide)))
      have K_75 : Keep h0 h_58 [ax] := K_57.wr W_58 (Or.inl (List.mem_of_getElem? (i := 0) rfl))
      have y_75 : n0 ≤ h_58.size := Nat.le_trans Z0 K_75.1
      refine Goes.go (U' := (T_58.setTop (mkF m 26 #[sR_ ax, sR_ cr_3] []))) st_58 ?_
      refine Goes.go (U' := (T_58.setTop (mkF m 28 #[sR_ ax, sR_ cr_3] [(.ref cr_3), (.ref ax)]))) (fun t kt => ?_) ?_
      · skip
        refine XS.aloadN X_58.here hx rfl (hb hby d_rm_cr_26) rfl rfl ?_
        refine XS.aloadN X_58.here hx rfl (hb hby d_rm_cr_27) rfl rfl ?_
        exact kt
      obtain ⟨T_76, h_76, X_76, e_76, W_76, st_76⟩ := putF X_58 hx hZ hown (host := "") (Or.inl (wdOf hw 23 rfl)) Via.refl e_58 f_71 f_61 (Or.inl (wdOf hw 24 rfl)) (wdOf hw 1 rfl) (ty := (.object "com/example/dead_letter_replay/deadletterreplay/queue/Carries$Carried")) (by decide) rfl rfl (g := (mkF m 28 #[sR_ ax, sR_ cr_3] [(.ref cr_3), (.ref ax)])) rfl rfl (hb hby d_rm_cr_28)
      have N_76 := Fr.snoc X_76 N_58 o0
      have f_77 : CarV Z h_76 (.ref cr_3) (some (cf_3, ce_3, ct_3, cb_3)) := f_59.keepX (Keep.of_wr W_76) f_61 (by decide) (by decide)
      have f_78 : Old Z n0 h_76 := f_60.wr W_76 o0
      have f_79 : Exa Z h_76 ax "com/example/dead_letter_replay/deadletterreplay/queue/Carries" := f_61.wr W_76
      have f_80 : CarV Z h_76 lv_1 lo := f_62.keepX (Keep.of_wr W_76) f_61 (by decide) (by decide)
      have f_81 : LongV Z h_76 .null none := f_63.keepX (Keep.of_wr W_76) f_61 (by decide)
      have f_82 : Exa Z h_76 cr_3 "com/example/dead_letter_replay/deadletterreplay/queue/Carries$Carried" := f_64.wr W_76
      have f_83 : Fld Z h_76 cr_3 "com/example/dead_letter_replay/deadletterreplay/queue/Carries$Carried" "from" "Ljava/lang/Long;" cv_3 := f_65.other W_76 (Or.inl (ne_exa f_64 f_61 (by decide)))
      have f_84 : Fld Z h_76 cr_3 "com/example/dead_letter_replay/deadletterreplay/queue/Carries$Carried" "era" "J" (.long ce_3) := f_66.other W_76 (Or.inl (ne_exa f_64 f_61 (by decide)))
      have f_85 : Fld Z h_76 cr_3 "com/example/dead_letter_replay/deadletterreplay/queue/Carries$Carried" "transaction" "J" (.long ct_3) := f_67.other W_76 (Or.inl (ne_exa f_64 f_61 (by decide)))
      have f_86 : Fld Z h_76 cr_3 "com/example/dead_letter_replay/deadletterreplay/queue/Carries$Carried" "backend" "I" (.int cb_3) := f_68.other W_76 (Or.inl (ne_exa f_64 f_61 (by decide)))
      have f_87 : LongV Z h_76 cv_3 cf_3 := f_69.keepX (Keep.of_wr W_76) f_61 (by decide)
      have f_88 : Fld Z h_76 ax "com/example/dead_letter_replay/deadletterreplay/queue/Carries" "since" "I" (.int sv_1) := f_70.other W_76 (Or.inr (slot_ne (Or.inl (wdOf hw 28 rfl)) (Or.inl (wdOf hw 24 rfl)) (by decide) (t := .int) (t' := (.object "com/example/dead_letter_replay/deadletterreplay/queue/Carries$Carried")) (by decide) (by decide)))
      have f_89 : Fld Z h_76 ax "com/example/dead_letter_replay/deadletterreplay/queue/Carries" "last" "Lcom/example/dead_letter_replay/deadletterreplay/queue/Carries$Carried;" (.ref cr_3) := f_71.same W_76
      have f_90 : Fld Z h_76 ax "com/example/dead_letter_replay/deadletterreplay/queue/Carries" "risk" "I" (.int cz_40) := f_72.other W_76 (Or.inr (slot_ne (Or.inl (wdOf hw 26 rfl)) (Or.inl (wdOf hw 24 rfl)) (by decide) (t := .int) (t' := (.object "com/example/dead_letter_replay/deadletterreplay/queue/Carries$Carried")) (by decide) (by decide)))
      have f_91 : Fld Z h_76 ax "com/example/dead_letter_replay/deadletterreplay/queue/Carries" "first" "Ljava/lang/Long;" .null := f_73.other W_76 (Or.inr (slot_ne (Or.inl (wdOf hw 17 rfl)) (Or.inl (wdOf hw 24 rfl)) (by decide) (t := (.object "java/lang/Long")) (t' := (.object "com/example/dead_letter_replay/deadletterreplay/queue/Carries$Carried")) (by decide) (by decide)))
      have f_92 : Fld Z h_76 ax "com/example/dead_letter_replay/deadletterreplay/queue/Carries" "held" "Z" (.int hx_40) := f_74.other W_76 (Or.inr (slot_ne (Or.inl (wdOf hw 15 rfl)) (Or.inl (wdOf hw 24 rfl)) (by decide) (t := .boolean) (t' := (.object "com/example/dead_letter_replay/deadletterreplay/queue/Carries$Carried")) (by decide) (by decide)))
      have K_93 : Keep h0 h_76 [ax] := K_75.wr W_76 (Or.inl (List.mem_of_getElem? (i := 0) rfl))
      have y_93 : n0 ≤ h_76.size := Nat.le_trans Z0 K_93.1
      refine Goes.go (U' := (T_76.setTop (mkF m 31 #[sR_ ax, sR_ cr_3] []))) st_76 ?_
      refine Goes.go (U' := (T_76.setTop (mkF m 32 #[sR_ ax, sR_ cr_3] [(.ref ax)]))) (fun t kt => ?_) ?_
      · skip
        refine XS.aloadN X_76.here hx rfl (hb hby d_rm_cr_31) rfl rfl ?_
        exact kt
      obtain ⟨T_94, X_94, e_94, st_94⟩ := getF X_76 hx hZ hown (host := "") (Or.inl (wdOf hw 16 rfl)) Via.refl e_76 f_91 (g := (mkF m 32 #[sR_ ax, sR_ cr_3] [(.ref ax)])) rfl rfl (hb hby d_rm_cr_32)
      refine Goes.go (U' := (T_94.setTop (mkF m 35 #[sR_ ax, sR_ cr_3] [.null]))) st_94 ?_
      refine Goes.go (U' := (T_94.setTop (mkF m 40 #[sR_ ax, sR_ cr_3] [(.ref cr_3), (.ref ax)]))) (fun t kt => ?_) ?_
      · skip
        refine XS.ifnonnullNo X_94.here hx rfl (hb hby d_rm_cr_35) rfl ?_
        refine XS.aloadN X_94.here hx rfl (hb hby d_rm_cr_38) rfl rfl ?_
        refine XS.aloadN X_94.here hx rfl (hb hby d_rm_cr_39) rfl rfl ?_
        exact kt
      obtain ⟨v_95, T_95, L_95, X_95, q_95, st_95⟩ := callVirtual X_94 hx hZ (y := (⟨"com/example/dead_letter_replay/deadletterreplay/queue/Carries$Carried", "era", "()J"⟩ : MethodName)) (z := (⟨"com/example/dead_letter_replay/deadletterreplay/queue/Carries$Carried", "era", "()J"⟩ : MethodName)) (W := 1) hown (wdOf hw 86 rfl) (wdOf hw 87 rfl) (notFace_of_selects (args := #[]) (mvT hZ (wdOf hw 89 rfl))) (wdOf hw 89 rfl) (wdOf hw 88 rfl) (wdOf hw 55 rfl) (wdOf hw 90 rfl) (by decide) (rm_era l Z a0 hw [] cr_3 ce_3 h_76 n0 y_93 f_84) (by decide) (by decide) (by decide) (by decide) e_94 f_82 (g := (mkF m 40 #[sR_ ax, sR_ cr_3] [(.ref cr_3), (.ref ax)])) rfl (by rw [hml]; rfl) (argsL := []) (rest := [(.ref ax)]) (lenOf pd_2 rfl) rfl rfl (Nat.le_refl _) (hb hby d_rm_cr_40)
      obtain ⟨rfl, n_95, K_95⟩ := q_95
      have N_95 := Fr.app N_76 n_95
      refine Goes.go (U' := (T_95.setTop (mkF m 43 #[sR_ ax, sR_ cr_3] [(.long ce_3), (.ref ax)]))) st_95 ?_
      obtain ⟨v_96, T_96, L_96, X_96, q_96, st_96⟩ := callStatic X_95 hx hZ (y := (⟨"java/lang/Long", "valueOf", "(J)Ljava/lang/Long;"⟩ : MethodName)) (W := 1) hown (wdOf hw 100 rfl) (wdOf hw 34 rfl) (wdOf hw 35 rfl) (wdOf hw 36 rfl) (by decide) (rm_vo l Z a0 hw [] ce_3 h_76 n0 y_93 f_78 BC) (by decide) (by decide) (by decide) (by decide) K_95 (g := (mkF m 43 #[sR_ ax, sR_ cr_3] [(.long ce_3), (.ref ax)])) rfl (by rw [hml]; rfl) (argsL := [(.long ce_3)]) (rest := [(.ref ax)]) (lenOf pd_4 rfl) rfl rfl (Nat.le_refl _) (hb hby d_rm_cr_43)
      obtain ⟨r_96, rfl, n_96, K_96, Ev_96, Fv_96⟩ := q_96
      have N_96 := Fr.app N_95 n_96
      have f_97 : CarV Z T_96.heap (.ref cr_3) (some (cf_3, ce_3, ct_3, cb_3)) := f_77.ext K_96
      have f_98 : Old Z n0 T_96.heap := f_78.ext K_96
      have f_99 : Exa Z T_96.heap ax "com/example/dead_letter_replay/deadletterreplay/queue/Carries" := f_79.ext K_96
      have f_100 : CarV Z T_96.heap lv_1 lo := f_80.ext K_96
      have f_101 : LongV Z T_96.heap .null none := f_81.ext K_96
      have f_102 : Exa Z T_96.heap cr_3 "com/example/dead_letter_replay/deadletterreplay/queue/Carries$Carried" := f_82.ext K_96
      have f_103 : Fld Z T_96.heap cr_3 "com/example/dead_letter_replay/deadletterreplay/queue/Carries$Carried" "from" "Ljava/lang/Long;" cv_3 := f_83.ext K_96
      have f_104 : Fld Z T_96.heap cr_3 "com/example/dead_letter_replay/deadletterreplay/queue/Carries$Carried" "era" "J" (.long ce_3) := f_84.ext K_96
      have f_105 : Fld Z T_96.heap cr_3 "com/example/dead_letter_replay/deadletterreplay/queue/Carries$Carried" "transaction" "J" (.long ct_3) := f_85.ext K_96
      have f_106 : Fld Z T_96.heap cr_3 "com/example/dead_letter_replay/deadletterreplay/queue/Carries$Carried" "backend" "I" (.int cb_3) := f_86.ext K_96
      have f_107 : LongV Z T_96.heap cv_3 cf_3 := f_87.ext K_96
      have f_108 : Fld Z T_96.heap ax "com/example/dead_letter_replay/deadletterreplay/queue/Carries" "since" "I" (.int sv_1) := f_88.ext K_96
      have f_109 : Fld Z T_96.heap ax "com/example/dead_letter_replay/deadletterreplay/queue/Carries" "last" "Lcom/example/dead_letter_replay/deadletterreplay/queue/Carries$Carried;" (.ref cr_3) := f_89.ext K_96
      have f_110 : Fld Z T_96.heap ax "com/example/dead_letter_replay/deadletterreplay/queue/Carries" "risk" "I" (.int cz_40) := f_90.ext K_96
      have f_111 : Fld Z T_96.heap ax "com/example/dead_letter_replay/deadletterreplay/queue/Carries" "first" "Ljava/lang/Long;" .null := f_91.ext K_96
      have f_112 : Fld Z T_96.heap ax "com/example/dead_letter_replay/deadletterreplay/queue/Carries" "held" "Z" (.int hx_40) := f_92.ext K_96
      have K_113 : Keep h0 T_96.heap [ax] := K_93.ext K_96
      have y_113 : n0 ≤ T_96.heap.size := Nat.le_trans Z0 K_113.1
      refine Goes.go (U' := (T_96.setTop (mkF m 46 #[sR_ ax, sR_ cr_3] [(.ref r_96), (.ref ax)]))) st_96 ?_
      obtain ⟨T_114, h_114, X_114, e_114, W_114, st_114⟩ := putF X_96 hx hZ hown (host := "") (Or.inl (wdOf hw 16 rfl)) Via.refl (rfl : T_96.heap = T_96.heap) f_111 f_99 (Or.inl (wdOf hw 17 rfl)) (wdOf hw 1 rfl) (ty := (.object "java/lang/Long")) (by decide) rfl rfl (g := (mkF m 46 #[sR_ ax, sR_ cr_3] [(.ref r_96), (.ref ax)])) rfl rfl (hb hby d_rm_cr_46)
      have N_114 := Fr.snoc X_114 N_96 o0
      have f_115 : CarV Z h_114 (.ref cr_3) (some (cf_3, ce_3, ct_3, cb_3)) := f_97.keepX (Keep.of_wr W_114) f_99 (by decide) (by decide)
      have f_116 : Old Z n0 h_114 := f_98.wr W_114 o0
      have f_117 : Exa Z h_114 ax "com/example/dead_letter_replay/deadletterreplay/queue/Carries" := f_99.wr W_114
      have f_118 : CarV Z h_114 lv_1 lo := f_100.keepX (Keep.of_wr W_114) f_99 (by decide) (by decide)
      have f_119 : LongV Z h_114 .null none := f_101.keepX (Keep.of_wr W_114) f_99 (by decide)
      have f_120 : Exa Z h_114 cr_3 "com/example/dead_letter_replay/deadletterreplay/queue/Carries$Carried" := f_102.wr W_114
      have f_121 : Fld Z h_114 cr_3 "com/example/dead_letter_replay/deadletterreplay/queue/Carries$Carried" "from" "Ljava/lang/Long;" cv_3 := f_103.other W_114 (Or.inl (ne_exa f_102 f_99 (by decide)))
      have f_122 : Fld Z h_114 cr_3 "com/example/dead_letter_replay/deadletterreplay/queue/Carries$Carried" "era" "J" (.long ce_3) := f_104.other W_114 (Or.inl (ne_exa f_102 f_99 (by decide)))
      have f_123 : Fld Z h_114 cr_3 "com/example/dead_letter_replay/deadletterreplay/queue/Carries$Carried" "transaction" "J" (.long ct_3) := f_105.other W_114 (Or.inl (ne_exa f_102 f_99 (by decide)))
      have f_124 : Fld Z h_114 cr_3 "com/example/dead_letter_replay/deadletterreplay/queue/Carries$Carried" "backend" "I" (.int cb_3) := f_106.other W_114 (Or.inl (ne_exa f_102 f_99 (by decide)))
      have f_125 : LongV Z h_114 cv_3 cf_3 := f_107.keepX (Keep.of_wr W_114) f_99 (by decide)
      have f_126 : Fld Z h_114 ax "com/example/dead_letter_replay/deadletterreplay/queue/Carries" "since" "I" (.int sv_1) := f_108.other W_114 (Or.inr (slot_ne (Or.inl (wdOf hw 28 rfl)) (Or.inl (wdOf hw 17 rfl)) (by decide) (t := .int) (t' := (.object "java/lang/Long")) (by decide) (by decide)))
      have f_127 : Fld Z h_114 ax "com/example/dead_letter_replay/deadletterreplay/queue/Carries" "last" "Lcom/example/dead_letter_replay/deadletterreplay/queue/Carries$Carried;" (.ref cr_3) := f_109.other W_114 (Or.inr (slot_ne (Or.inl (wdOf hw 24 rfl)) (Or.inl (wdOf hw 17 rfl)) (by decide) (t := (.object "com/example/dead_letter_replay/deadletterreplay/queue/Carries$Carried")) (t' := (.object "java/lang/Long")) (by decide) (by decide)))
      have f_128 : Fld Z h_114 ax "com/example/dead_letter_replay/deadletterreplay/queue/Carries" "risk" "I" (.int cz_40) := f_110.other W_114 (Or.inr (slot_ne (Or.inl (wdOf hw 26 rfl)) (Or.inl (wdOf hw 17 rfl)) (by decide) (t := .int) (t' := (.object "java/lang/Long")) (by decide) (by decide)))
      have f_129 : Fld Z h_114 ax "com/example/dead_letter_replay/deadletterreplay/queue/Carries" "first" "Ljava/lang/Long;" (.ref r_96) := f_111.same W_114
      have f_130 : Fld Z h_114 ax "com/example/dead_letter_replay/deadletterreplay/queue/Carries" "held" "Z" (.int hx_40) := f_112.other W_114 (Or.inr (slot_ne (Or.inl (wdOf hw 15 rfl)) (Or.inl (wdOf hw 17 rfl)) (by decide) (t := .boolean) (t' := (.object "java/lang/Long")) (by decide) (by decide)))
      have f_131 : Exa Z h_114 r_96 "java/lang/Long" := Ev_96.wr W_114
      have f_132 : Fld Z h_114 r_96 "java/lang/Long" "value" "J" (.long ce_3) := Fv_96.other W_114 (Or.inl (ne_exa Ev_96 f_99 (by decide)))
      have K_133 : Keep h0 h_114 [ax] := K_113.wr W_114 (Or.inl (List.mem_of_getElem? (i := 0) rfl))
      have y_133 : n0 ≤ h_114.size := Nat.le_trans Z0 K_133.1
      refine Goes.go (U' := (T_114.setTop (mkF m 49 #[sR_ ax, sR_ cr_3] []))) st_114 ?_
      refine Goes.go (U' := (T_114.setTop (mkF m 51 #[sR_ ax, sR_ cr_3] [(.int (1 : Int32)), (.ref ax)]))) (fun t kt => ?_) ?_
      · skip
        refine XS.aloadN X_114.here hx rfl (hb hby d_rm_cr_49) rfl rfl ?_
        refine XS.iconst X_114.here hx rfl (hb hby d_rm_cr_50) ?_
        exact kt
      obtain ⟨T_134, h_134, X_134, e_134, W_134, st_134⟩ := putF X_114 hx hZ hown (host := "") (Or.inl (wdOf hw 27 rfl)) Via.refl e_114 f_126 f_117 (Or.inl (wdOf hw 28 rfl)) (wdOf hw 1 rfl) (ty := .int) (by decide) rfl rfl (g := (mkF m 51 #[sR_ ax, sR_ cr_3] [(.int (1 : Int32)), (.ref ax)])) rfl rfl (hb hby d_rm_cr_51)
      have N_134 := Fr.snoc X_134 N_114 o0
      have f_135 : CarV Z h_134 (.ref cr_3) (some (cf_3, ce_3, ct_3, cb_3)) := f_115.keepX (Keep.of_wr W_134) f_117 (by decide) (by decide)
      have f_136 : Old Z n0 h_134 := f_116.wr W_134 o0
      have f_137 : Exa Z h_134 ax "com/example/dead_letter_replay/deadletterreplay/queue/Carries" := f_117.wr W_134
      have f_138 : CarV Z h_134 lv_1 lo := f_118.keepX (Keep.of_wr W_134) f_117 (by decide) (by decide)
      have f_139 : LongV Z h_134 .null none := f_119.keepX (Keep.of_wr W_134) f_117 (by decide)
      have f_140 : Exa Z h_134 cr_3 "com/example/dead_letter_replay/deadletterreplay/queue/Carries$Carried" := f_120.wr W_134
      have f_141 : Fld Z h_134 cr_3 "com/example/dead_letter_replay/deadletterreplay/queue/Carries$Carried" "from" "Ljava/lang/Long;" cv_3 := f_121.other W_134 (Or.inl (ne_exa f_120 f_117 (by decide)))
      have f_142 : Fld Z h_134 cr_3 "com/example/dead_letter_replay/deadletterreplay/queue/Carries$Carried" "era" "J" (.long ce_3) := f_122.other W_134 (Or.inl (ne_exa f_120 f_117 (by decide)))
      have f_143 : Fld Z h_134 cr_3 "com/example/dead_letter_replay/deadletterreplay/queue/Carries$Carried" "transaction" "J" (.long ct_3) := f_123.other W_134 (Or.inl (ne_exa f_120 f_117 (by decide)))
      have f_144 : Fld Z h_134 cr_3 "com/example/dead_letter_replay/deadletterreplay/queue/Carries$Carried" "backend" "I" (.int cb_3) := f_124.other W_134 (Or.inl (ne_exa f_120 f_117 (by decide)))
      have f_145 : LongV Z h_134 cv_3 cf_3 := f_125.keepX (Keep.of_wr W_134) f_117 (by decide)
      have f_146 : Fld Z h_134 ax "com/example/dead_letter_replay/deadletterreplay/queue/Carries" "since" "I" (.int (1 : Int32)) := f_126.same W_134
      have f_147 : Fld Z h_134 ax "com/example/dead_letter_replay/deadletterreplay/queue/Carries" "last" "Lcom/example/dead_letter_replay/deadletterreplay/queue/Carries$Carried;" (.ref cr_3) := f_127.other W_134 (Or.inr (slot_ne (Or.inl (wdOf hw 24 rfl)) (Or.inl (wdOf hw 28 rfl)) (by decide) (t := (.object "com/example/dead_letter_replay/deadletterreplay/queue/Carries$Carried")) (t' := .int) (by decide) (by decide)))
      have f_148 : Fld Z h_134 ax "com/example/dead_letter_replay/deadletterreplay/queue/Carries" "risk" "I" (.int cz_40) := f_128.other W_134 (Or.inr (slot_ne (Or.inl (wdOf hw 26 rfl)) (Or.inl (wdOf hw 28 rfl)) (by decide) (t := .int) (t' := .int) (by decide) (by decide)))
      have f_149 : Fld Z h_134 ax "com/example/dead_letter_replay/deadletterreplay/queue/Carries" "first" "Ljava/lang/Long;" (.ref r_96) := f_129.other W_134 (Or.inr (slot_ne (Or.inl (wdOf hw 17 rfl)) (Or.inl (wdOf hw 28 rfl)) (by decide) (t := (.object "java/lang/Long")) (t' := .int) (by decide) (by decide)))
      have f_150 : Fld Z h_134 ax "com/example/dead_letter_replay/deadletterreplay/queue/Carries" "held" "Z" (.int hx_40) := f_130.other W_134 (Or.inr (slot_ne (Or.inl (wdOf hw 15 rfl)) (Or.inl (wdOf hw 28 rfl)) (by decide) (t := .boolean) (t' := .int) (by decide) (by decide)))
      have f_151 : Exa Z h_134 r_96 "java/lang/Long" := f_131.wr W_134
      have f_152 : Fld Z h_134 r_96 "java/lang/Long" "value" "J" (.long ce_3) := f_132.other W_134 (Or.inl (ne_exa f_131 f_117 (by decide)))
      have K_153 : Keep h0 h_134 [ax] := K_133.wr W_134 (Or.inl (List.mem_of_getElem? (i := 0) rfl))
      have y_153 : n0 ≤ h_134.size := Nat.le_trans Z0 K_153.1
      refine Goes.go (U' := (T_134.setTop (mkF m 54 #[sR_ ax, sR_ cr_3] []))) st_134 ?_
      refine Goes.retV X_134 hx hlk hret (hb hby d_rm_cr_54) (by decide) (by decide) ?_
      try rw [e_134]
      exact ⟨_, rfl, N_134, K_153, ⟨_, _, _, _, f_137, f_146, f_147, f_148, f_149, f_150, f_135, ⟨_, rfl, f_151, f_152⟩⟩, fun c q => by cases q; exact ⟨ha_40, hb_40⟩, fun q => (nomatch q)⟩
  · -- some
    have lk_2 := Lf_1
    obtain ⟨or_2, rfl, oe_2, of_2⟩ := Lf_1
    rcases o with _ | ⟨cf_154, ce_154, ct_154, cb_154⟩
    · -- none
      have ck_154 := Lx
      obtain rfl : xc = Value.null := Lx
      refine Goes.go (U' := (s₁.setTop (mkF m 6 #[sR_ ax, .val .null] [.null, (.ref ax)]))) (fun t kt => ?_) ?_
      · skip
        refine XS.aloadN X0.here hx rfl (hb hby d_rm_cr_0) rfl rfl ?_
        refine XS.ifnonnullNo X0.here hx rfl (hb hby d_rm_cr_1) rfl ?_
        refine XS.aloadN X0.here hx rfl (hb hby d_rm_cr_4) rfl rfl ?_
        refine XS.aconstNull X0.here hx rfl (hb hby d_rm_cr_5) ?_
        exact kt
      obtain ⟨T_155, h_155, X_155, e_155, W_155, st_155⟩ := putF X0 hx hZ hown (host := "") (Or.inl (wdOf hw 23 rfl)) Via.refl e0 Fl_1 Ea_1 (Or.inl (wdOf hw 24 rfl)) (wdOf hw 1 rfl) (ty := (.object "com/example/dead_letter_replay/deadletterreplay/queue/Carries$Carried")) (by decide) rfl rfl (g := (mkF m 6 #[sR_ ax, .val .null] [.null, (.ref ax)])) rfl rfl (hb hby d_rm_cr_6)
      have N_155 := Fr.snoc X_155 N0 o0
      have f_156 : CarV Z h_155 .null none := ck_154.keepX (Keep.of_wr W_155) Ea_1 (by decide) (by decide)
      have f_157 : Old Z n0 h_155 := O.wr W_155 o0
      have f_158 : Exa Z h_155 ax "com/example/dead_letter_replay/deadletterreplay/queue/Carries" := Ea_1.wr W_155
      have f_159 : Fld Z h_155 ax "com/example/dead_letter_replay/deadletterreplay/queue/Carries" "since" "I" (.int sv_1) := Fs_1.other W_155 (Or.inr (slot_ne (Or.inl (wdOf hw 28 rfl)) (Or.inl (wdOf hw 24 rfl)) (by decide) (t := .int) (t' := (.object "com/example/dead_letter_replay/deadletterreplay/queue/Carries$Carried")) (by decide) (by decide)))
      have f_160 : Fld Z h_155 ax "com/example/dead_letter_replay/deadletterreplay/queue/Carries" "last" "Lcom/example/dead_letter_replay/deadletterreplay/queue/Carries$Carried;" .null := Fl_1.same W_155
      have f_161 : Fld Z h_155 ax "com/example/dead_letter_replay/deadletterreplay/queue/Carries" "risk" "I" (.int rv_1) := Fr_1.other W_155 (Or.inr (slot_ne (Or.inl (wdOf hw 26 rfl)) (Or.inl (wdOf hw 24 rfl)) (by decide) (t := .int) (t' := (.object "com/example/dead_letter_replay/deadletterreplay/queue/Carries$Carried")) (by decide) (by decide)))
      have f_162 : Fld Z h_155 ax "com/example/dead_letter_replay/deadletterreplay/queue/Carries" "first" "Ljava/lang/Long;" (.ref or_2) := Ff_1.other W_155 (Or.inr (slot_ne (Or.inl (wdOf hw 17 rfl)) (Or.inl (wdOf hw 24 rfl)) (by decide) (t := (.object "java/lang/Long")) (t' := (.object "com/example/dead_letter_replay/deadletterreplay/queue/Carries$Carried")) (by decide) (by decide)))
      have f_163 : Fld Z h_155 ax "com/example/dead_letter_replay/deadletterreplay/queue/Carries" "held" "Z" (.int hd) := Fh_1.other W_155 (Or.inr (slot_ne (Or.inl (wdOf hw 15 rfl)) (Or.inl (wdOf hw 24 rfl)) (by decide) (t := .boolean) (t' := (.object "com/example/dead_letter_replay/deadletterreplay/queue/Carries$Carried")) (by decide) (by decide)))
      have f_164 : CarV Z h_155 lv_1 lo := Lc_1.keepX (Keep.of_wr W_155) Ea_1 (by decide) (by decide)
      have f_165 : LongV Z h_155 (.ref or_2) (some ox_2) := lk_2.keepX (Keep.of_wr W_155) Ea_1 (by decide)
      have f_166 : Exa Z h_155 or_2 "java/lang/Long" := oe_2.wr W_155
      have f_167 : Fld Z h_155 or_2 "java/lang/Long" "value" "J" (.long ox_2) := of_2.other W_155 (Or.inl (ne_exa oe_2 Ea_1 (by decide)))
      have K_168 : Keep h0 h_155 [ax] := K0.wr W_155 (Or.inl (List.mem_of_getElem? (i := 0) rfl))
      have y_168 : n0 ≤ h_155.size := Nat.le_trans Z0 K_168.1
      refine Goes.go (U' := (T_155.setTop (mkF m 9 #[sR_ ax, .val .null] []))) st_155 ?_
      refine Goes.go (U' := (T_155.setTop (mkF m 11 #[sR_ ax, .val .null] [(.int (0 : Int32)), (.ref ax)]))) (fun t kt => ?_) ?_
      · skip
        refine XS.aloadN X_155.here hx rfl (hb hby d_rm_cr_9) rfl rfl ?_
        refine XS.iconst X_155.here hx rfl (hb hby d_rm_cr_10) ?_
        exact kt
      obtain ⟨T_169, h_169, X_169, e_169, W_169, st_169⟩ := putF X_155 hx hZ hown (host := "") (Or.inl (wdOf hw 25 rfl)) Via.refl e_155 f_161 f_158 (Or.inl (wdOf hw 26 rfl)) (wdOf hw 1 rfl) (ty := .int) (by decide) rfl rfl (g := (mkF m 11 #[sR_ ax, .val .null] [(.int (0 : Int32)), (.ref ax)])) rfl rfl (hb hby d_rm_cr_11)
      have N_169 := Fr.snoc X_169 N_155 o0
      have f_170 : CarV Z h_169 .null none := f_156.keepX (Keep.of_wr W_169) f_158 (by decide) (by decide)
      have f_171 : Old Z n0 h_169 := f_157.wr W_169 o0
      have f_172 : Exa Z h_169 ax "com/example/dead_letter_replay/deadletterreplay/queue/Carries" := f_158.wr W_169
      have f_173 : Fld Z h_169 ax "com/example/dead_letter_replay/deadletterreplay/queue/Carries" "since" "I" (.int sv_1) := f_159.other W_169 (Or.inr (slot_ne (Or.inl (wdOf hw 28 rfl)) (Or.inl (wdOf hw 26 rfl)) (by decide) (t := .int) (t' := .int) (by decide) (by decide)))
      have f_174 : Fld Z h_169 ax "com/example/dead_letter_replay/deadletterreplay/queue/Carries" "last" "Lcom/example/dead_letter_replay/deadletterreplay/queue/Carries$Carried;" .null := f_160.other W_169 (Or.inr (slot_ne (Or.inl (wdOf hw 24 rfl)) (Or.inl (wdOf hw 26 rfl)) (by decide) (t := (.object "com/example/dead_letter_replay/deadletterreplay/queue/Carries$Carried")) (t' := .int) (by decide) (by decide)))
      have f_175 : Fld Z h_169 ax "com/example/dead_letter_replay/deadletterreplay/queue/Carries" "risk" "I" (.int (0 : Int32)) := f_161.same W_169
      have f_176 : Fld Z h_169 ax "com/example/dead_letter_replay/deadletterreplay/queue/Carries" "first" "Ljava/lang/Long;" (.ref or_2) := f_162.other W_169 (Or.inr (slot_ne (Or.inl (wdOf hw 17 rfl)) (Or.inl (wdOf hw 26 rfl)) (by decide) (t := (.object "java/lang/Long")) (t' := .int) (by decide) (by decide)))
      have f_177 : Fld Z h_169 ax "com/example/dead_letter_replay/deadletterreplay/queue/Carries" "held" "Z" (.int hd) := f_163.other W_169 (Or.inr (slot_ne (Or.inl (wdOf hw 15 rfl)) (Or.inl (wdOf hw 26 rfl)) (by decide) (t := .boolean) (t' := .int) (by decide) (by decide)))
      have f_178 : CarV Z h_169 lv_1 lo := f_164.keepX (Keep.of_wr W_169) f_158 (by decide) (by decide)
      have f_179 : LongV Z h_169 (.ref or_2) (some ox_2) := f_165.keepX (Keep.of_wr W_169) f_158 (by decide)
      have f_180 : Exa Z h_169 or_2 "java/lang/Long" := f_166.wr W_169
      have f_181 : Fld Z h_169 or_2 "java/lang/Long" "value" "J" (.long ox_2) := f_167.other W_169 (Or.inl (ne_exa f_166 f_158 (by decide)))
      have K_182 : Keep h0 h_169 [ax] := K_168.wr W_169 (Or.inl (List.mem_of_getElem? (i := 0) rfl))
      have y_182 : n0 ≤ h_169.size := Nat.le_trans Z0 K_182.1
      refine Goes.go (U' := (T_169.setTop (mkF m 14 #[sR_ ax, .val .null] []))) st_169 ?_
      refine Goes.go (U' := (T_169.setTop (mkF m 51 #[sR_ ax, .val .null] [(.int (1 : Int32)), (.ref ax)]))) (fun t kt => ?_) ?_
      · skip
        refine XS.goto X_169.here hx rfl (pc0 := 14) (pc' := 49) rfl (hb hby d_rm_cr_14) (by decide) (by decide) ?_
        refine XS.aloadN X_169.here hx rfl (hb hby d_rm_cr_49) rfl rfl ?_
        refine XS.iconst X_169.here hx rfl (hb hby d_rm_cr_50) ?_
        exact kt
      obtain ⟨T_183, h_183, X_183, e_183, W_183, st_183⟩ := putF X_169 hx hZ hown (host := "") (Or.inl (wdOf hw 27 rfl)) Via.refl e_169 f_173 f_172 (Or.inl (wdOf hw 28 rfl)) (wdOf hw 1 rfl) (ty := .int) (by decide) rfl rfl (g := (mkF m 51 #[sR_ ax, .val .null] [(.int (1 : Int32)), (.ref ax)])) rfl rfl (hb hby d_rm_cr_51)
      have N_183 := Fr.snoc X_183 N_169 o0
      have f_184 : CarV Z h_183 .null none := f_170.keepX (Keep.of_wr W_183) f_172 (by decide) (by decide)
      have f_185 : Old Z n0 h_183 := f_171.wr W_183 o0
      have f_186 : Exa Z h_183 ax "com/example/dead_letter_replay/deadletterreplay/queue/Carries" := f_172.wr W_183
      have f_187 : Fld Z h_183 ax "com/example/dead_letter_replay/deadletterreplay/queue/Carries" "since" "I" (.int (1 : Int32)) := f_173.same W_183
      have f_188 : Fld Z h_183 ax "com/example/dead_letter_replay/deadletterreplay/queue/Carries" "last" "Lcom/example/dead_letter_replay/deadletterreplay/queue/Carries$Carried;" .null := f_174.other W_183 (Or.inr (slot_ne (Or.inl (wdOf hw 24 rfl)) (Or.inl (wdOf hw 28 rfl)) (by decide) (t := (.object "com/example/dead_letter_replay/deadletterreplay/queue/Carries$Carried")) (t' := .int) (by decide) (by decide)))
      have f_189 : Fld Z h_183 ax "com/example/dead_letter_replay/deadletterreplay/queue/Carries" "risk" "I" (.int (0 : Int32)) := f_175.other W_183 (Or.inr (slot_ne (Or.inl (wdOf hw 26 rfl)) (Or.inl (wdOf hw 28 rfl)) (by decide) (t := .int) (t' := .int) (by decide) (by decide)))
      have f_190 : Fld Z h_183 ax "com/example/dead_letter_replay/deadletterreplay/queue/Carries" "first" "Ljava/lang/Long;" (.ref or_2) := f_176.other W_183 (Or.inr (slot_ne (Or.inl (wdOf hw 17 rfl)) (Or.inl (wdOf hw 28 rfl)) (by decide) (t := (.object "java/lang/Long")) (t' := .int) (by decide) (by decide)))
      have f_191 : Fld Z h_183 ax "com/example/dead_letter_replay/deadletterreplay/queue/Carries" "held" "Z" (.int hd) := f_177.other W_183 (Or.inr (slot_ne (Or.inl (wdOf hw 15 rfl)) (Or.inl (wdOf hw 28 rfl)) (by decide) (t := .boolean) (t' := .int) (by decide) (by decide)))
      have f_192 : CarV Z h_183 lv_1 lo := f_178.keepX (Keep.of_wr W_183) f_172 (by decide) (by decide)
      have f_193 : LongV Z h_183 (.ref or_2) (some ox_2) := f_179.keepX (Keep.of_wr W_183) f_172 (by decide)
      have f_194 : Exa Z h_183 or_2 "java/lang/Long" := f_180.wr W_183
      have f_195 : Fld Z h_183 or_2 "java/lang/Long" "value" "J" (.long ox_2) := f_181.other W_183 (Or.inl (ne_exa f_180 f_172 (by decide)))
      have K_196 : Keep h0 h_183 [ax] := K_182.wr W_183 (Or.inl (List.mem_of_getElem? (i := 0) rfl))
      have y_196 : n0 ≤ h_183.size := Nat.le_trans Z0 K_196.1
      refine Goes.go (U' := (T_183.setTop (mkF m 54 #[sR_ ax, .val .null] []))) st_183 ?_
      refine Goes.retV X_183 hx hlk hret (hb hby d_rm_cr_54) (by decide) (by decide) ?_
      try rw [e_183]
      exact ⟨_, rfl, N_183, K_196, ⟨_, _, _, _, f_186, f_187, f_188, f_189, f_190, f_191, rfl, f_193⟩, fun c q => (nomatch q), fun _ => rfl⟩
    · -- some
      have ck_154 := Lx
      obtain ⟨cr_154, cv_154, rfl, cE_154, cF_154, cG_154, cH_154, cI_154, cL_154⟩ := Lx
      refine Goes.go (U' := (s₁.setTop (mkF m 20 #[sR_ ax, sR_ cr_154] [(.ref cr_154), (.ref ax), (.ref ax)]))) (fun t kt => ?_) ?_
      · skip
        refine XS.aloadN X0.here hx rfl (hb hby d_rm_cr_0) rfl rfl ?_
        refine XS.ifnonnullYes X0.here hx rfl (pc0 := 1) (pc' := 17) rfl (hb hby d_rm_cr_1) rfl (by decide) (by decide) ?_
        refine XS.aloadN X0.here hx rfl (hb hby d_rm_cr_17) rfl rfl ?_
        refine XS.aloadN X0.here hx rfl (hb hby d_rm_cr_18) rfl rfl ?_
        refine XS.aloadN X0.here hx rfl (hb hby d_rm_cr_19) rfl rfl ?_
        exact kt
      obtain ⟨v_197, T_197, L_197, X_197, q_197, st_197⟩ := callPrivate X0 hx hZ (y := (⟨"com/example/dead_letter_replay/deadletterreplay/queue/Carries", "leftIfUndone", "(Lcom/example/dead_letter_replay/deadletterreplay/queue/Carries$Carried;)I"⟩ : MethodName)) (W := 1) hown (wdOf hw 73 rfl) (wdOf hw 74 rfl) (wdOf hw 75 rfl) (wdOf hw 1 rfl) (wdOf hw 2 rfl) (wdOf hw 76 rfl) (by decide) (rm_lu l Z a0 hw [] ax cr_154 sv_1 rv_1 hd cb_154 lv_1 (.ref or_2) cv_154 lo cf_154 (some ox_2) ce_154 ct_154 h0 n0 Z0 O BC o0 Ea_1 Fs_1 Fl_1 Fr_1 Ff_1 Fh_1 Lc_1 lk_2 cE_154 cF_154 cG_154 cH_154 cI_154 cL_154) (by decide) (by decide) (by decide) (by decide) e0 Ea_1 (g := (mkF m 20 #[sR_ ax, sR_ cr_154] [(.ref cr_154), (.ref ax), (.ref ax)])) rfl (by rw [hml]; rfl) (argsL := [(.ref cr_154)]) (rest := [(.ref ax)]) (lenOf pd_7 rfl) rfl rfl (Nat.le_refl _) (hb hby d_rm_cr_20)
      obtain ⟨hx_197, cz_197, rfl, n_197, K_197, GE__197, Gsince__197, Glast__197, Grisk__197, Gfirst__197, Gheld__197, ha_197, hb_197⟩ := q_197
      have N_197 := Fr.app N0 n_197
      have f_198 : CarV Z T_197.heap (.ref cr_154) (some (cf_154, ce_154, ct_154, cb_154)) := ck_154.keepX K_197 Ea_1 (by decide) (by decide)
      have f_199 : Old Z n0 T_197.heap := O.keep K_197 (allS o0 all0)
      have f_200 : Exa Z T_197.heap ax "com/example/dead_letter_replay/deadletterreplay/queue/Carries" := Ea_1.keep K_197
      have f_206 : CarV Z T_197.heap lv_1 lo := Lc_1.keepX K_197 Ea_1 (by decide) (by decide)
      have f_207 : LongV Z T_197.heap (.ref or_2) (some ox_2) := lk_2.keepX K_197 Ea_1 (by decide)
      have f_208 : Exa Z T_197.heap or_2 "java/lang/Long" := oe_2.keep K_197
      have f_209 : Fld Z T_197.heap or_2 "java/lang/Long" "value" "J" (.long ox_2) := of_2.keep K_197 (ninS (ne_exa oe_2 Ea_1 (by decide)) nin0)
      have f_210 : Exa Z T_197.heap cr_154 "com/example/dead_letter_replay/deadletterreplay/queue/Carries$Carried" := cE_154.keep K_197
      have f_211 : Fld Z T_197.heap cr_154 "com/example/dead_letter_replay/deadletterreplay/queue/Carries$Carried" "from" "Ljava/lang/Long;" cv_154 := cF_154.keep K_197 (ninS (ne_exa cE_154 Ea_1 (by decide)) nin0)
      have f_212 : Fld Z T_197.heap cr_154 "com/example/dead_letter_replay/deadletterreplay/queue/Carries$Carried" "era" "J" (.long ce_154) := cG_154.keep K_197 (ninS (ne_exa cE_154 Ea_1 (by decide)) nin0)
      have f_213 : Fld Z T_197.heap cr_154 "com/example/dead_letter_replay/deadletterreplay/queue/Carries$Carried" "transaction" "J" (.long ct_154) := cH_154.keep K_197 (ninS (ne_exa cE_154 Ea_1 (by decide)) nin0)
      have f_214 : Fld Z T_197.heap cr_154 "com/example/dead_letter_replay/deadletterreplay/queue/Carries$Carried" "backend" "I" (.int cb_154) := cI_154.keep K_197 (ninS (ne_exa cE_154 Ea_1 (by decide)) nin0)
      have f_215 : LongV Z T_197.heap cv_154 cf_154 := cL_154.keepX K_197 Ea_1 (by decide)
      have K_216 : Keep h0 T_197.heap [ax] := K0.trans K_197 (allS (P := fun x => x ∈ [ax] ∨ h0.size ≤ x) (Or.inl (List.mem_of_getElem? (i := 0) rfl)) all0)
      have y_216 : n0 ≤ T_197.heap.size := Nat.le_trans Z0 K_216.1
      refine Goes.go (U' := (T_197.setTop (mkF m 23 #[sR_ ax, sR_ cr_154] [(.int cz_197), (.ref ax)]))) st_197 ?_
      obtain ⟨T_217, h_217, X_217, e_217, W_217, st_217⟩ := putF X_197 hx hZ hown (host := "") (Or.inl (wdOf hw 25 rfl)) Via.refl (rfl : T_197.heap = T_197.heap) Grisk__197 f_200 (Or.inl (wdOf hw 26 rfl)) (wdOf hw 1 rfl) (ty := .int) (by decide) rfl rfl (g := (mkF m 23 #[sR_ ax, sR_ cr_154] [(.int cz_197), (.ref ax)])) rfl rfl (hb hby d_rm_cr_23)
      have N_217 := Fr.snoc X_217 N_197 o0
      have f_218 : CarV Z h_217 (.ref cr_154) (some (cf_154, ce_154, ct_154, cb_154)) := f_198.keepX (Keep.of_wr W_217) f_200 (by decide) (by decide)
      have f_219 : Old Z n0 h_217 := f_199.wr W_217 o0
      have f_220 : Exa Z h_217 ax "com/example/dead_letter_replay/deadletterreplay/queue/Carries" := f_200.wr W_217
      have f_221 : CarV Z h_217 lv_1 lo := f_206.keepX (Keep.of_wr W_217) f_200 (by decide) (by decide)
      have f_222 : LongV Z h_217 (.ref or_2) (some ox_2) := f_207.keepX (Keep.of_wr W_217) f_200 (by decide)
      have f_223 : Exa Z h_217 or_2 "java/lang/Long" := f_208.wr W_217
      have f_224 : Fld Z h_217 or_2 "java/lang/Long" "value" "J" (.long ox_2) := f_209.other W_217 (Or.inl (ne_exa f_208 f_200 (by decide)))
      have f_225 : Exa Z h_217 cr_154 "com/example/dead_letter_replay/deadletterreplay/queue/Carries$Carried" := f_210.wr W_217
      have f_226 : Fld Z h_217 cr_154 "com/example/dead_letter_replay/deadletterreplay/queue/Carries$Carried" "from" "Ljava/lang/Long;" cv_154 := f_211.other W_217 (Or.inl (ne_exa f_210 f_200 (by decide)))
      have f_227 : Fld Z h_217 cr_154 "com/example/dead_letter_replay/deadletterreplay/queue/Carries$Carried" "era" "J" (.long ce_154) := f_212.other W_217 (Or.inl (ne_exa f_210 f_200 (by decide)))
      have f_228 : Fld Z h_217 cr_154 "com/example/dead_letter_replay/deadletterreplay/queue/Carries$Carried" "transaction" "J" (.long ct_154) := f_213.other W_217 (Or.inl (ne_exa f_210 f_200 (by decide)))
      have f_229 : Fld Z h_217 cr_154 "com/example/dead_letter_replay/deadletterreplay/queue/Carries$Carried" "backend" "I" (.int cb_154) := f_214.other W_217 (Or.inl (ne_exa f_210 f_200 (by decide)))
      have f_230 : LongV Z h_217 cv_154 cf_154 := f_215.keepX (Keep.of_wr W_217) f_200 (by decide)
      have f_231 : Fld Z h_217 ax "com/example/dead_letter_replay/deadletterreplay/queue/Carries" "since" "I" (.int sv_1) := Gsince__197.other W_217 (Or.inr (slot_ne (Or.inl (wdOf hw 28 rfl)) (Or.inl (wdOf hw 26 rfl)) (by decide) (t := .int) (t' := .int) (by decide) (by decide)))
      have f_232 : Fld Z h_217 ax "com/example/dead_letter_replay/deadletterreplay/queue/Carries" "last" "Lcom/example/dead_letter_replay/deadletterreplay/queue/Carries$Carried;" lv_1 := Glast__197.other W_217 (Or.inr (slot_ne (Or.inl (wdOf hw 24 rfl)) (Or.inl (wdOf hw 26 rfl)) (by decide) (t := (.object "com/example/dead_letter_replay/deadletterreplay/queue/Carries$Carried")) (t' := .int) (by decide) (by decide)))
      have f_233 : Fld Z h_217 ax "com/example/dead_letter_replay/deadletterreplay/queue/Carries" "risk" "I" (.int cz_197) := Grisk__197.same W_217
      have f_234 : Fld Z h_217 ax "com/example/dead_letter_replay/deadletterreplay/queue/Carries" "first" "Ljava/lang/Long;" (.ref or_2) := Gfirst__197.other W_217 (Or.inr (slot_ne (Or.inl (wdOf hw 17 rfl)) (Or.inl (wdOf hw 26 rfl)) (by decide) (t := (.object "java/lang/Long")) (t' := .int) (by decide) (by decide)))
      have f_235 : Fld Z h_217 ax "com/example/dead_letter_replay/deadletterreplay/queue/Carries" "held" "Z" (.int hx_197) := Gheld__197.other W_217 (Or.inr (slot_ne (Or.inl (wdOf hw 15 rfl)) (Or.inl (wdOf hw 26 rfl)) (by decide) (t := .boolean) (t' := .int) (by decide) (by decide)))
      have K_236 : Keep h0 h_217 [ax] := K_216.wr W_217 (Or.inl (List.mem_of_getElem? (i := 0) rfl))
      have y_236 : n0 ≤ h_217.size := Nat.le_trans Z0 K_236.1
      refine Goes.go (U' := (T_217.setTop (mkF m 26 #[sR_ ax, sR_ cr_154] []))) st_217 ?_
      refine Goes.go (U' := (T_217.setTop (mkF m 28 #[sR_ ax, sR_ cr_154] [(.ref cr_154), (.ref ax)]))) (fun t kt => ?_) ?_
      · skip
        refine XS.aloadN X_217.here hx rfl (hb hby d_rm_cr_26) rfl rfl ?_
        refine XS.aloadN X_217.here hx rfl (hb hby d_rm_cr_27) rfl rfl ?_
        exact kt
      obtain ⟨T_237, h_237, X_237, e_237, W_237, st_237⟩ := putF X_217 hx hZ hown (host := "") (Or.inl (wdOf hw 23 rfl)) Via.refl e_217 f_232 f_220 (Or.inl (wdOf hw 24 rfl)) (wdOf hw 1 rfl) (ty := (.object "com/example/dead_letter_replay/deadletterreplay/queue/Carries$Carried")) (by decide) rfl rfl (g := (mkF m 28 #[sR_ ax, sR_ cr_154] [(.ref cr_154), (.ref ax)])) rfl rfl (hb hby d_rm_cr_28)
      have N_237 := Fr.snoc X_237 N_217 o0
      have f_238 : CarV Z h_237 (.ref cr_154) (some (cf_154, ce_154, ct_154, cb_154)) := f_218.keepX (Keep.of_wr W_237) f_220 (by decide) (by decide)
      have f_239 : Old Z n0 h_237 := f_219.wr W_237 o0
      have f_240 : Exa Z h_237 ax "com/example/dead_letter_replay/deadletterreplay/queue/Carries" := f_220.wr W_237
      have f_241 : CarV Z h_237 lv_1 lo := f_221.keepX (Keep.of_wr W_237) f_220 (by decide) (by decide)
      have f_242 : LongV Z h_237 (.ref or_2) (some ox_2) := f_222.keepX (Keep.of_wr W_237) f_220 (by decide)
      have f_243 : Exa Z h_237 or_2 "java/lang/Long" := f_223.wr W_237
      have f_244 : Fld Z h_237 or_2 "java/lang/Long" "value" "J" (.long ox_2) := f_224.other W_237 (Or.inl (ne_exa f_223 f_220 (by decide)))
      have f_245 : Exa Z h_237 cr_154 "com/example/dead_letter_replay/deadletterreplay/queue/Carries$Carried" := f_225.wr W_237
      have f_246 : Fld Z h_237 cr_154 "com/example/dead_letter_replay/deadletterreplay/queue/Carries$Carried" "from" "Ljava/lang/Long;" cv_154 := f_226.other W_237 (Or.inl (ne_exa f_225 f_220 (by decide)))
      have f_247 : Fld Z h_237 cr_154 "com/example/dead_letter_replay/deadletterreplay/queue/Carries$Carried" "era" "J" (.long ce_154) := f_227.other W_237 (Or.inl (ne_exa f_225 f_220 (by decide)))
      have f_248 : Fld Z h_237 cr_154 "com/example/dead_letter_replay/deadletterreplay/queue/Carries$Carried" "transaction" "J" (.long ct_154) := f_228.other W_237 (Or.inl (ne_exa f_225 f_220 (by decide)))
      have f_249 : Fld Z h_237 cr_154 "com/example/dead_letter_replay/deadletterreplay/queue/Carries$Carried" "backend" "I" (.int cb_154) := f_229.other W_237 (Or.inl (ne_exa f_225 f_220 (by decide)))
      have f_250 : LongV Z h_237 cv_154 cf_154 := f_230.keepX (Keep.of_wr W_237) f_220 (by decide)
      have f_251 : Fld Z h_237 ax "com/example/dead_letter_replay/deadletterreplay/queue/Carries" "since" "I" (.int sv_1) := f_231.other W_237 (Or.inr (slot_ne (Or.inl (wdOf hw 28 rfl)) (Or.inl (wdOf hw 24 rfl)) (by decide) (t := .int) (t' := (.object "com/example/dead_letter_replay/deadletterreplay/queue/Carries$Carried")) (by decide) (by decide)))
      have f_252 : Fld Z h_237 ax "com/example/dead_letter_replay/deadletterreplay/queue/Carries" "last" "Lcom/example/dead_letter_replay/deadletterreplay/queue/Carries$Carried;" (.ref cr_154) := f_232.same W_237
      have f_253 : Fld Z h_237 ax "com/example/dead_letter_replay/deadletterreplay/queue/Carries" "risk" "I" (.int cz_197) := f_233.other W_237 (Or.inr (slot_ne (Or.inl (wdOf hw 26 rfl)) (Or.inl (wdOf hw 24 rfl)) (by decide) (t := .int) (t' := (.object "com/example/dead_letter_replay/deadletterreplay/queue/Carries$Carried")) (by decide) (by decide)))
      have f_254 : Fld Z h_237 ax "com/example/dead_letter_replay/deadletterreplay/queue/Carries" "first" "Ljava/lang/Long;" (.ref or_2) := f_234.other W_237 (Or.inr (slot_ne (Or.inl (wdOf hw 17 rfl)) (Or.inl (wdOf hw 24 rfl)) (by decide) (t := (.object "java/lang/Long")) (t' := (.object "com/example/dead_letter_replay/deadletterreplay/queue/Carries$Carried")) (by decide) (by decide)))
      have f_255 : Fld Z h_237 ax "com/example/dead_letter_replay/deadletterreplay/queue/Carries" "held" "Z" (.int hx_197) := f_235.other W_237 (Or.inr (slot_ne (Or.inl (wdOf hw 15 rfl)) (Or.inl (wdOf hw 24 rfl)) (by decide) (t := .boolean) (t' := (.object "com/example/dead_letter_replay/deadletterreplay/queue/Carries$Carried")) (by decide) (by decide)))
      have K_256 : Keep h0 h_237 [ax] := K_236.wr W_237 (Or.inl (List.mem_of_getElem? (i := 0) rfl))
      have y_256 : n0 ≤ h_237.size := Nat.le_trans Z0 K_256.1
      refine Goes.go (U' := (T_237.setTop (mkF m 31 #[sR_ ax, sR_ cr_154] []))) st_237 ?_
      refine Goes.go (U' := (T_237.setTop (mkF m 32 #[sR_ ax, sR_ cr_154] [(.ref ax)]))) (fun t kt => ?_) ?_
      · skip
        refine XS.aloadN X_237.here hx rfl (hb hby d_rm_cr_31) rfl rfl ?_
        exact kt
      obtain ⟨T_257, X_257, e_257, st_257⟩ := getF X_237 hx hZ hown (host := "") (Or.inl (wdOf hw 16 rfl)) Via.refl e_237 f_254 (g := (mkF m 32 #[sR_ ax, sR_ cr_154] [(.ref ax)])) rfl rfl (hb hby d_rm_cr_32)
      refine Goes.go (U' := (T_257.setTop (mkF m 35 #[sR_ ax, sR_ cr_154] [(.ref or_2)]))) st_257 ?_
      refine Goes.go (U' := (T_257.setTop (mkF m 51 #[sR_ ax, sR_ cr_154] [(.int (1 : Int32)), (.ref ax)]))) (fun t kt => ?_) ?_
      · skip
        refine XS.ifnonnullYes X_257.here hx rfl (pc0 := 35) (pc' := 49) rfl (hb hby d_rm_cr_35) rfl (by decide) (by decide) ?_
        refine XS.aloadN X_257.here hx rfl (hb hby d_rm_cr_49) rfl rfl ?_
        refine XS.iconst X_257.here hx rfl (hb hby d_rm_cr_50) ?_
        exact kt
      obtain ⟨T_258, h_258, X_258, e_258, W_258, st_258⟩ := putF X_257 hx hZ hown (host := "") (Or.inl (wdOf hw 27 rfl)) Via.refl e_257 f_251 f_240 (Or.inl (wdOf hw 28 rfl)) (wdOf hw 1 rfl) (ty := .int) (by decide) rfl rfl (g := (mkF m 51 #[sR_ ax, sR_ cr_154] [(.int (1 : Int32)), (.ref ax)])) rfl rfl (hb hby d_rm_cr_51)
      have N_258 := Fr.snoc X_258 N_237 o0
      have f_259 : CarV Z h_258 (.ref cr_154) (some (cf_154, ce_154, ct_154, cb_154)) := f_238.keepX (Keep.of_wr W_258) f_240 (by decide) (by decide)
      have f_260 : Old Z n0 h_258 := f_239.wr W_258 o0
      have f_261 : Exa Z h_258 ax "com/example/dead_letter_replay/deadletterreplay/queue/Carries" := f_240.wr W_258
      have f_262 : CarV Z h_258 lv_1 lo := f_241.keepX (Keep.of_wr W_258) f_240 (by decide) (by decide)
      have f_263 : LongV Z h_258 (.ref or_2) (some ox_2) := f_242.keepX (Keep.of_wr W_258) f_240 (by decide)
      have f_264 : Exa Z h_258 or_2 "java/lang/Long" := f_243.wr W_258
      have f_265 : Fld Z h_258 or_2 "java/lang/Long" "value" "J" (.long ox_2) := f_244.other W_258 (Or.inl (ne_exa f_243 f_240 (by decide)))
      have f_266 : Exa Z h_258 cr_154 "com/example/dead_letter_replay/deadletterreplay/queue/Carries$Carried" := f_245.wr W_258
      have f_267 : Fld Z h_258 cr_154 "com/example/dead_letter_replay/deadletterreplay/queue/Carries$Carried" "from" "Ljava/lang/Long;" cv_154 := f_246.other W_258 (Or.inl (ne_exa f_245 f_240 (by decide)))
      have f_268 : Fld Z h_258 cr_154 "com/example/dead_letter_replay/deadletterreplay/queue/Carries$Carried" "era" "J" (.long ce_154) := f_247.other W_258 (Or.inl (ne_exa f_245 f_240 (by decide)))
      have f_269 : Fld Z h_258 cr_154 "com/example/dead_letter_replay/deadletterreplay/queue/Carries$Carried" "transaction" "J" (.long ct_154) := f_248.other W_258 (Or.inl (ne_exa f_245 f_240 (by decide)))
      have f_270 : Fld Z h_258 cr_154 "com/example/dead_letter_replay/deadletterreplay/queue/Carries$Carried" "backend" "I" (.int cb_154) := f_249.other W_258 (Or.inl (ne_exa f_245 f_240 (by decide)))
      have f_271 : LongV Z h_258 cv_154 cf_154 := f_250.keepX (Keep.of_wr W_258) f_240 (by decide)
      have f_272 : Fld Z h_258 ax "com/example/dead_letter_replay/deadletterreplay/queue/Carries" "since" "I" (.int (1 : Int32)) := f_251.same W_258
      have f_273 : Fld Z h_258 ax "com/example/dead_letter_replay/deadletterreplay/queue/Carries" "last" "Lcom/example/dead_letter_replay/deadletterreplay/queue/Carries$Carried;" (.ref cr_154) := f_252.other W_258 (Or.inr (slot_ne (Or.inl (wdOf hw 24 rfl)) (Or.inl (wdOf hw 28 rfl)) (by decide) (t := (.object "com/example/dead_letter_replay/deadletterreplay/queue/Carries$Carried")) (t' := .int) (by decide) (by decide)))
      have f_274 : Fld Z h_258 ax "com/example/dead_letter_replay/deadletterreplay/queue/Carries" "risk" "I" (.int cz_197) := f_253.other W_258 (Or.inr (slot_ne (Or.inl (wdOf hw 26 rfl)) (Or.inl (wdOf hw 28 rfl)) (by decide) (t := .int) (t' := .int) (by decide) (by decide)))
      have f_275 : Fld Z h_258 ax "com/example/dead_letter_replay/deadletterreplay/queue/Carries" "first" "Ljava/lang/Long;" (.ref or_2) := f_254.other W_258 (Or.inr (slot_ne (Or.inl (wdOf hw 17 rfl)) (Or.inl (wdOf hw 28 rfl)) (by decide) (t := (.object "java/lang/Long")) (t' := .int) (by decide) (by decide)))
      have f_276 : Fld Z h_258 ax "com/example/dead_letter_replay/deadletterreplay/queue/Carries" "held" "Z" (.int hx_197) := f_255.other W_258 (Or.inr (slot_ne (Or.inl (wdOf hw 15 rfl)) (Or.inl (wdOf hw 28 rfl)) (by decide) (t := .boolean) (t' := .int) (by decide) (by decide)))
      have K_277 : Keep h0 h_258 [ax] := K_256.wr W_258 (Or.inl (List.mem_of_getElem? (i := 0) rfl))
      have y_277 : n0 ≤ h_258.size := Nat.le_trans Z0 K_277.1
      refine Goes.go (U' := (T_258.setTop (mkF m 54 #[sR_ ax, sR_ cr_154] []))) st_258 ?_
      refine Goes.retV X_258 hx hlk hret (hb hby d_rm_cr_54) (by decide) (by decide) ?_
      try rw [e_258]
      exact ⟨_, rfl, N_258, K_277, ⟨_, _, _, _, f_261, f_272, f_273, f_274, f_275, f_276, f_259, f_263⟩, fun c q => by cases q; exact ⟨ha_197, hb_197⟩, fun q => (nomatch q)⟩
theorem d_rm_is_0 : decode method_2_code 0 = .ok (.iload_n 1, 1) := by decide +kernel
theorem d_rm_is_1 : decode method_2_code 1 = .ok (.ifCond .eq 13, 3) := by decide +kernel
theorem d_rm_is_4 : decode method_2_code 4 = .ok (.aload_n 0, 1) := by decide +kernel
theorem d_rm_is_5 : decode method_2_code 5 = .ok (.ifnonnull 7, 3) := by decide +kernel
theorem d_rm_is_8 : decode method_2_code 8 = .ok (.iconst 1, 1) := by decide +kernel
theorem d_rm_is_9 : decode method_2_code 9 = .ok (.goto 4, 3) := by decide +kernel
theorem d_rm_is_13 : decode method_2_code 13 = .ok (.ireturn, 1) := by decide +kernel
theorem d_rm_is_14 : decode method_2_code 14 = .ok (.aload_n 0, 1) := by decide +kernel
theorem d_rm_is_15 : decode method_2_code 15 = .ok (.ifnull 16, 3) := by decide +kernel
theorem d_rm_is_18 : decode method_2_code 18 = .ok (.aload_n 0, 1) := by decide +kernel
theorem d_rm_is_19 : decode method_2_code 19 = .ok (.invokevirtual 7, 3) := by decide +kernel
theorem d_rm_is_22 : decode method_2_code 22 = .ok (.lload_n 2, 1) := by decide +kernel
theorem d_rm_is_23 : decode method_2_code 23 = .ok (.lcmp, 1) := by decide +kernel
theorem d_rm_is_24 : decode method_2_code 24 = .ok (.ifCond .ne 7, 3) := by decide +kernel
theorem d_rm_is_27 : decode method_2_code 27 = .ok (.iconst 1, 1) := by decide +kernel
theorem d_rm_is_28 : decode method_2_code 28 = .ok (.goto 4, 3) := by decide +kernel
theorem d_rm_is_32 : decode method_2_code 32 = .ok (.ireturn, 1) := by decide +kernel
set_option maxHeartbeats 4000000 in
theorem ef_rm_is (m : MethodId) (x0 : Value) (x1 : Int32) (x2 : Int64) (rx0 : x0.isRef = true) : entryFrame m #[x0, (.int x1), (.long x2)] 4 = mkF m 0 #[.val x0, .val (.int x1), .val (.long x2), .second] [] := by simp [entryFrame, mkF, argsToLocals, catR, catN, catI, catJ, XT.cat1 rx0]
set_option maxRecDepth 65536 in
set_option maxHeartbeats 40000000 in
theorem rm_is (l : Launch) (Z : State) (a0 : Array Value) (hw : ∀ d ∈ tables_1, d.before a0 Z = true) (ws : List Jvm.Cond) (av : Value) (zf : Int32) (xv : Int64) (ao : Option Int64) (h0 : Heap) (n0 : Nat) (Z0 : n0 ≤ h0.size) (La : LongV Z h0 av ao) (hz1 : zf = 0 → ao = some xv) (hz2 : ¬ zf = 0 → ao = none) :
    Pays l Z (⟨"com/example/dead_letter_replay/deadletterreplay/queue/CarriesFloorPinLaw", "is", "(Ljava/lang/Long;ZJ)Z"⟩ : MethodName) method_2_code 4 (some .boolean) ws ({ frames := 1, cells := 0, slots := 0, locals := 12 } : Room) #[av, (.int zf), (.long xv)] h0 (fun v h L => v = some (.int 1) ∧ Fr n0 L ∧ h = h0) := by
  refine Pays.of (plainFor_of_name (by first | (simp [plainName, overriddenIn]; done) | decide +kernel)) ?_
  intro p e s m below meth c s₁ hx hby hml hown hnm hret hlk hZ e0 X0
  have N0 := Fr.nil n0
  have K0 : Keep h0 h0 [] := Keep.refl _ _
  refine Goes.go (U' := (s₁.setTop (mkF m 0 #[.val av, sI_ zf, sJ_ xv, sS_] []))) (fun t kt => castTop (ef_rm_is m av zf xv La.isRef) kt) ?_
  rcases ao with _ | ox_1
  · -- none
    have lk_1 := La
    obtain rfl : av = Value.null := La
    refine Goes.go (U' := (s₁.setTop (mkF m 1 #[.val .null, sI_ zf, sJ_ xv, sS_] [(.int zf)]))) (fun t kt => ?_) ?_
    · skip
      refine XS.iloadN X0.here hx rfl (hb hby d_rm_is_0) rfl ?_
      exact kt
    by_cases cz : zf = 0
    · -- zf = 0
      refine Goes.go (U' := (s₁.setTop (mkF m 14 #[.val .null, sI_ zf, sJ_ xv, sS_] []))) (fun t kt => ?_) ?_
      · skip
        refine XS.ifYes X0.here hx rfl (pc0 := 1) (pc' := 14) rfl (hb hby d_rm_is_1) rfl (XT.i0_eq_t cz) (by decide) (by decide) ?_
        exact kt
      exact nomatch (hz1 cz)
    · -- not zf = 0
      refine Goes.go (U' := (s₁.setTop (mkF m 13 #[.val .null, sI_ zf, sJ_ xv, sS_] [(.int (1 : Int32))]))) (fun t kt => ?_) ?_
      · skip
        refine XS.ifNo X0.here hx rfl (hb hby d_rm_is_1) rfl (XT.i0_eq_f cz) ?_
        refine XS.aloadN X0.here hx rfl (hb hby d_rm_is_4) rfl rfl ?_
        refine XS.ifnonnullNo X0.here hx rfl (hb hby d_rm_is_5) rfl ?_
        refine XS.iconst X0.here hx rfl (hb hby d_rm_is_8) ?_
        refine XS.goto X0.here hx rfl (pc0 := 9) (pc' := 13) rfl (hb hby d_rm_is_9) (by decide) (by decide) ?_
        exact kt
      refine Goes.retB X0 hx hlk hret (hb hby d_rm_is_13) (by decide) (by decide) ?_
      try rw [e0]
      exact ⟨rfl, N0, rfl⟩
  · -- some
    have lk_1 := La
    obtain ⟨or_1, rfl, oe_1, of_1⟩ := La
    refine Goes.go (U' := (s₁.setTop (mkF m 1 #[sR_ or_1, sI_ zf, sJ_ xv, sS_] [(.int zf)]))) (fun t kt => ?_) ?_
    · skip
      refine XS.iloadN X0.here hx rfl (hb hby d_rm_is_0) rfl ?_
      exact kt
    by_cases cz : zf = 0
    · -- zf = 0
      refine Goes.go (U' := (s₁.setTop (mkF m 19 #[sR_ or_1, sI_ zf, sJ_ xv, sS_] [(.ref or_1)]))) (fun t kt => ?_) ?_
      · skip
        refine XS.ifYes X0.here hx rfl (pc0 := 1) (pc' := 14) rfl (hb hby d_rm_is_1) rfl (XT.i0_eq_t cz) (by decide) (by decide) ?_
        refine XS.aloadN X0.here hx rfl (hb hby d_rm_is_14) rfl rfl ?_
        refine XS.ifnullNo X0.here hx rfl (hb hby d_rm_is_15) rfl ?_
        refine XS.aloadN X0.here hx rfl (hb hby d_rm_is_18) rfl rfl ?_
        exact kt
      obtain ⟨v_2, T_2, L_2, X_2, q_2, st_2⟩ := callVirtual X0 hx hZ (y := (⟨"java/lang/Long", "longValue", "()J"⟩ : MethodName)) (z := (⟨"java/lang/Long", "longValue", "()J"⟩ : MethodName)) (W := 0) hown (wdOf hw 101 rfl) (wdOf hw 92 rfl) (notFace_of_selects (args := #[]) (mvT hZ (wdOf hw 94 rfl))) (wdOf hw 94 rfl) (wdOf hw 93 rfl) (wdOf hw 35 rfl) (wdOf hw 95 rfl) (by decide) (rm_lv l Z a0 hw [] or_1 ox_1 h0 n0 Z0 of_1) (by decide) (by decide) (by decide) (by decide) e0 oe_1 (g := (mkF m 19 #[sR_ or_1, sI_ zf, sJ_ xv, sS_] [(.ref or_1)])) rfl (by rw [hml]; rfl) (argsL := []) (rest := []) (lenOf pd_2 rfl) rfl rfl (Nat.le_refl _) (hb hby d_rm_is_19)
      obtain ⟨rfl, n_2, K_2⟩ := q_2
      have N_2 := Fr.app N0 n_2
      refine Goes.go (U' := (T_2.setTop (mkF m 22 #[sR_ or_1, sI_ zf, sJ_ xv, sS_] [(.long ox_1)]))) st_2 ?_
      refine Goes.go (U' := (T_2.setTop (mkF m 32 #[sR_ or_1, sI_ zf, sJ_ xv, sS_] [(.int (1 : Int32))]))) (fun t kt => ?_) ?_
      · skip
        refine XS.lloadN X_2.here hx rfl (hb hby d_rm_is_22) rfl ?_
        refine XT.lcmp X_2.here hx rfl (hb hby d_rm_is_23) rfl ?_
        refine XS.ifNo X_2.here hx rfl (hb hby d_rm_is_24) rfl (XT.ll_ne_f (Option.some.inj (hz1 cz))) ?_
        refine XS.iconst X_2.here hx rfl (hb hby d_rm_is_27) ?_
        refine XS.goto X_2.here hx rfl (pc0 := 28) (pc' := 32) rfl (hb hby d_rm_is_28) (by decide) (by decide) ?_
        exact kt
      refine Goes.retB X_2 hx hlk hret (hb hby d_rm_is_32) (by decide) (by decide) ?_
      try rw [K_2]
      exact ⟨rfl, N_2, rfl⟩
    · -- not zf = 0
      refine Goes.go (U' := (s₁.setTop (mkF m 4 #[sR_ or_1, sI_ zf, sJ_ xv, sS_] []))) (fun t kt => ?_) ?_
      · skip
        refine XS.ifNo X0.here hx rfl (hb hby d_rm_is_1) rfl (XT.i0_eq_f cz) ?_
        exact kt
      exact nomatch (hz2 cz)
set_option maxRecDepth 65536 in
set_option maxHeartbeats 40000000 in
theorem law_606 (l : Launch) (Z : State) (a0 : Array Value) (hw : ∀ d ∈ tables_1, d.before a0 Z = true) (fl : Int32) (e1 e2 e3 f2 f3 : Int64) (p1 : Int32) (hf1 : Int32) (p2 : Int32) (s2b : Int32) (s2t : Int32) (hf2 : Int32) (x2 : Int32) (p3 : Int32) (s3b : Int32) (s3t : Int32) (hf3 : Int32) (x3 : Int32) (b2 : Int32) (b3 : Int32) (t2 : Int64) (t3 : Int64) (fv1 : Value) (o1 : Option Int64) (v2 : Int64) (fv2 : Value) (o2 : Option Int64) (v3 : Int64) (fv3 : Value) (o3 : Option Int64) (cv1 : Value) (d1 : Option OwnC) (cv2 : Value) (d2 : Option OwnC) (cv3 : Value) (d3 : Option OwnC) (ax : Addr) (h2 : Int32) (fp2 : Int32) (fst2 : Int64) (hd2 : Int32) (h3 : Int32) (h0 : Heap) (n0 : Nat) (Z0 : n0 ≤ h0.size) (p : Program) (e : Env) (s : State) (m : MethodId) (below : List Frame) (meth : Method) (c : Code) (hx : p.tables.exec = Jvm.exec) (hby : c.code = code) (hml : c.maxLocals = maxLocals) (hown : s.vm.findClass "com/example/dead_letter_replay/deadletterreplay/queue/CarriesFloorPinLaw" = some m.cls) (hnm : meth.name = "law") (hret : meth.sig.returnType = ret) (hlk : meth.locks = false) (hZ : Z.Warmed39 s.vm) (h : Heap) (T : State) (locs : List Loc) (X : Stand p l e room_1 s m #[(.int fl), (.long e1), (.long e2), (.long e3), (.long f2), (.long f3)] below meth c T locs 11 24) (eT : T.heap = h) (N : Fr n0 locs) (K0 : Keep h0 h []) (O : Old Z n0 h) (BC : BoxC Z "java/lang/Long$LongCache" "[Ljava/lang/Long;" "java/lang/Long" "J" (fun i => .long (i.toInt32 - 128).toInt64)) (hb2 : b2 = (0 : Int32) ↔ ¬ s2b = 0) (hb3 : b3 = b2 ↔ ¬ s3b = 0) (ht2 : t2 = (0 : Int64) ↔ ¬ s2t = 0) (ht3 : t3 = t2 ↔ ¬ s3t = 0) (L1 : LongV Z h fv1 o1) (L2 : LongV Z h fv2 o2) (ho2 : (hf2 = 0 → o2 = none) ∧ (¬ hf2 = 0 → o2 = some v2)) (L3 : LongV Z h fv3 o3) (ho3 : (hf3 = 0 → o3 = none) ∧ (¬ hf3 = 0 → o3 = some v3)) (C1 : CarV Z h cv1 d1) (hD1 : (p1 = 0 → d1 = none) ∧ (¬ p1 = 0 → d1 = some (o1, e1, (0 : Int64), (0 : Int32)))) (C2 : CarV Z h cv2 d2) (hD2 : (p2 = 0 → d2 = none) ∧ (¬ p2 = 0 → d2 = some (o2, e2, t2, b2))) (C3 : CarV Z h cv3 d3) (hD3 : (p3 = 0 → d3 = none) ∧ (¬ p3 = 0 → d3 = some (o3, e3, t3, b3))) (oa : n0 ≤ ax) (za : h0.size ≤ ax) (S : CarS Z h ax d2 (OwnFst (OwnFst none d1) d2) hd2) (H2 : ¬ h2 = 0 ↔ (¬ (0 : Int32) = 0 ∨ ∃ c, d2 = some c ∧ OwnHit d1 c)) (E2 : hd2 = 0 ↔ h2 = 0) (H3 : ¬ h3 = 0 ↔ (¬ hd2 = 0 ∨ ∃ c, d3 = some c ∧ OwnHit d2 c)) :
    Goes p e s below (fun v h L => v = some (.int 1) ∧ Fr n0 L) room_1.cells room_1.slots (T.setTop (mkF m 606 #[sI_ fl, sJ_ e1, sS_, sJ_ e2, sS_, sJ_ e3, sS_, sJ_ f2, sS_, sJ_ f3, sS_, sI_ p1, sI_ hf1, sI_ p2, sI_ s2b, sI_ s2t, sI_ hf2, sI_ x2, sI_ p3, sI_ s3b, sI_ s3t, sI_ hf3, sI_ x3, sI_ (0 : Int32), sI_ b2, sI_ b3, sJ_ (0 : Int64), sS_, sJ_ t2, sS_, sJ_ t3, sS_, .val fv1, sJ_ v2, sS_, .val fv2, sJ_ v3, sS_, .val fv3, .val cv1, .val cv2, .val cv3, sR_ ax, sI_ (1 : Int32), sI_ h2, sI_ fp2, sJ_ fst2, sS_, sI_ h3, sU_, sU_, sU_] [])) := by
  have sz0 : n0 ≤ h.size := Nat.le_trans Z0 K0.1
  refine Goes.go (U' := (T.setTop (mkF m 610 #[sI_ fl, sJ_ e1, sS_, sJ_ e2, sS_, sJ_ e3, sS_, sJ_ f2, sS_, sJ_ f3, sS_, sI_ p1, sI_ hf1, sI_ p2, sI_ s2b, sI_ s2t, sI_ hf2, sI_ x2, sI_ p3, sI_ s3b, sI_ s3t, sI_ hf3, sI_ x3, sI_ (0 : Int32), sI_ b2, sI_ b3, sJ_ (0 : Int64), sS_, sJ_ t2, sS_, sJ_ t3, sS_, .val fv1, sJ_ v2, sS_, .val fv2, sJ_ v3, sS_, .val fv3, .val cv1, .val cv2, .val cv3, sR_ ax, sI_ (1 : Int32), sI_ h2, sI_ fp2, sJ_ fst2, sS_, sI_ h3, sU_, sU_, sU_] [cv3, (.ref ax)]))) (fun t kt => ?_) ?_
  · skip
    refine XS.aload X.here hx rfl (hb hby at_606) rfl rfl ?_
    refine XS.aload X.here hx rfl (hb hby at_608) rfl C3.isRef ?_
    exact kt
  obtain ⟨v_1, T_1, L_1, X_1, q_1, st_1⟩ := callVirtual X hx hZ (y := (⟨"com/example/dead_letter_replay/deadletterreplay/queue/Carries", "carried", "(Lcom/example/dead_letter_replay/deadletterreplay/queue/Carries$Carried;)V"⟩ : MethodName)) (z := (⟨"com/example/dead_letter_replay/deadletterreplay/queue/Carries", "carried", "(Lcom/example/dead_letter_replay/deadletterreplay/queue/Carries$Carried;)V"⟩ : MethodName)) (W := 0) hown (wdOf hw 18 rfl) (wdOf hw 19 rfl) (notFace_of_selects (args := #[]) (mvT hZ (wdOf hw 21 rfl))) (wdOf hw 21 rfl) (wdOf hw 20 rfl) (wdOf hw 2 rfl) (wdOf hw 22 rfl) (by decide) (rm_cr l Z a0 hw [] ax cv3 d2 d3 (OwnFst (OwnFst none d1) d2) hd2 h n0 sz0 O BC oa S C3) (by decide) (by decide) (by decide) (by decide) eT S.exa (g := (mkF m 610 #[sI_ fl, sJ_ e1, sS_, sJ_ e2, sS_, sJ_ e3, sS_, sJ_ f2, sS_, sJ_ f3, sS_, sI_ p1, sI_ hf1, sI_ p2, sI_ s2b, sI_ s2t, sI_ hf2, sI_ x2, sI_ p3, sI_ s3b, sI_ s3t, sI_ hf3, sI_ x3, sI_ (0 : Int32), sI_ b2, sI_ b3, sJ_ (0 : Int64), sS_, sJ_ t2, sS_, sJ_ t3, sS_, .val fv1, sJ_ v2, sS_, .val fv2, sJ_ v3, sS_, .val fv3, .val cv1, .val cv2, .val cv3, sR_ ax, sI_ (1 : Int32), sI_ h2, sI_ fp2, sJ_ fst2, sS_, sI_ h3, sU_, sU_, sU_] [cv3, (.ref ax)])) rfl (by rw [hml]; rfl) (argsL := [cv3]) (rest := []) (lenOf pd_9 rfl) rfl rfl (Nat.le_refl _) (hb hby at_610)
  obtain ⟨hx_1, rfl, n_1, K_1, S_1, ha_1, hb_1⟩ := q_1
  have N_1 := Fr.app N n_1
  have f_2 : Old Z n0 T_1.heap := O.keep K_1 (allS oa all0)
  have f_3 : LongV Z T_1.heap fv1 o1 := L1.keepX K_1 S.exa (by decide)
  have f_4 : LongV Z T_1.heap fv2 o2 := L2.keepX K_1 S.exa (by decide)
  have f_5 : LongV Z T_1.heap fv3 o3 := L3.keepX K_1 S.exa (by decide)
  have f_6 : CarV Z T_1.heap cv1 d1 := C1.keepX K_1 S.exa (by decide) (by decide)
  have f_7 : CarV Z T_1.heap cv2 d2 := C2.keepX K_1 S.exa (by decide) (by decide)
  have f_8 : CarV Z T_1.heap cv3 d3 := C3.keepX K_1 S.exa (by decide) (by decide)
  have f_10 : Exa Z T_1.heap ax "com/example/dead_letter_replay/deadletterreplay/queue/Carries" := S.exa.keep K_1
  have K_11 : Keep h0 T_1.heap [] := K0.trans K_1 (allS (P := fun x => x ∈ [] ∨ h0.size ≤ x) (Or.inr za) all0)
  have y_11 : n0 ≤ T_1.heap.size := Nat.le_trans Z0 K_11.1
  refine Goes.go (U' := (T_1.setTop (mkF m 613 #[sI_ fl, sJ_ e1, sS_, sJ_ e2, sS_, sJ_ e3, sS_, sJ_ f2, sS_, sJ_ f3, sS_, sI_ p1, sI_ hf1, sI_ p2, sI_ s2b, sI_ s2t, sI_ hf2, sI_ x2, sI_ p3, sI_ s3b, sI_ s3t, sI_ hf3, sI_ x3, sI_ (0 : Int32), sI_ b2, sI_ b3, sJ_ (0 : Int64), sS_, sJ_ t2, sS_, sJ_ t3, sS_, .val fv1, sJ_ v2, sS_, .val fv2, sJ_ v3, sS_, .val fv3, .val cv1, .val cv2, .val cv3, sR_ ax, sI_ (1 : Int32), sI_ h2, sI_ fp2, sJ_ fst2, sS_, sI_ h3, sU_, sU_, sU_] []))) st_1 ?_
  have E3 := own_hd ha_1 hb_1 H3
  refine Goes.go (U' := (T_1.setTop (mkF m 615 #[sI_ fl, sJ_ e1, sS_, sJ_ e2, sS_, sJ_ e3, sS_, sJ_ f2, sS_, sJ_ f3, sS_, sI_ p1, sI_ hf1, sI_ p2, sI_ s2b, sI_ s2t, sI_ hf2, sI_ x2, sI_ p3, sI_ s3b, sI_ s3t, sI_ hf3, sI_ x3, sI_ (0 : Int32), sI_ b2, sI_ b3, sJ_ (0 : Int64), sS_, sJ_ t2, sS_, sJ_ t3, sS_, .val fv1, sJ_ v2, sS_, .val fv2, sJ_ v3, sS_, .val fv3, .val cv1, .val cv2, .val cv3, sR_ ax, sI_ (1 : Int32), sI_ h2, sI_ fp2, sJ_ fst2, sS_, sI_ h3, sU_, sU_, sU_] [(.int p1)]))) (fun t kt => ?_) ?_
  · skip
    refine XS.iload X_1.here hx rfl (hb hby at_613) rfl ?_
    exact kt
  by_cases c_12 : p1 = 0
  · -- p1 = 0
    refine Goes.go (U' := (T_1.setTop (mkF m 620 #[sI_ fl, sJ_ e1, sS_, sJ_ e2, sS_, sJ_ e3, sS_, sJ_ f2, sS_, sJ_ f3, sS_, sI_ p1, sI_ hf1, sI_ p2, sI_ s2b, sI_ s2t, sI_ hf2, sI_ x2, sI_ p3, sI_ s3b, sI_ s3t, sI_ hf3, sI_ x3, sI_ (0 : Int32), sI_ b2, sI_ b3, sJ_ (0 : Int64), sS_, sJ_ t2, sS_, sJ_ t3, sS_, .val fv1, sJ_ v2, sS_, .val fv2, sJ_ v3, sS_, .val fv3, .val cv1, .val cv2, .val cv3, sR_ ax, sI_ (1 : Int32), sI_ h2, sI_ fp2, sJ_ fst2, sS_, sI_ h3, sU_, sU_, sU_] [(.int p2)]))) (fun t kt => ?_) ?_
    · skip
      refine XS.ifNo X_1.here hx rfl (hb hby at_615) rfl (XT.i0_ne_f c_12) ?_
      refine XS.iload X_1.here hx rfl (hb hby at_618) rfl ?_
      exact kt
    by_cases c_13 : p2 = 0
    · -- p2 = 0
      refine Goes.go (U' := (T_1.setTop (mkF m 625 #[sI_ fl, sJ_ e1, sS_, sJ_ e2, sS_, sJ_ e3, sS_, sJ_ f2, sS_, sJ_ f3, sS_, sI_ p1, sI_ hf1, sI_ p2, sI_ s2b, sI_ s2t, sI_ hf2, sI_ x2, sI_ p3, sI_ s3b, sI_ s3t, sI_ hf3, sI_ x3, sI_ (0 : Int32), sI_ b2, sI_ b3, sJ_ (0 : Int64), sS_, sJ_ t2, sS_, sJ_ t3, sS_, .val fv1, sJ_ v2, sS_, .val fv2, sJ_ v3, sS_, .val fv3, .val cv1, .val cv2, .val cv3, sR_ ax, sI_ (1 : Int32), sI_ h2, sI_ fp2, sJ_ fst2, sS_, sI_ h3, sU_, sU_, sU_] [(.int p3)]))) (fun t kt => ?_) ?_
      · skip
        refine XS.ifNo X_1.here hx rfl (hb hby at_620) rfl (XT.i0_ne_f c_13) ?_
        refine XS.iload X_1.here hx rfl (hb hby at_623) rfl ?_
        exact kt
      by_cases c_14 : p3 = 0
      · -- p3 = 0
        have hfo : OwnFst (OwnFst (OwnFst none d1) d2) d3 = none := by rw [hD1.1 c_12, hD2.1 c_13, hD3.1 c_14]; rfl
        by_cases ch : h3 = 0
        · -- h3
          refine Goes.go (U' := (T_1.setTop (mkF m 664 #[sI_ fl, sJ_ e1, sS_, sJ_ e2, sS_, sJ_ e3, sS_, sJ_ f2, sS_, sJ_ f3, sS_, sI_ p1, sI_ hf1, sI_ p2, sI_ s2b, sI_ s2t, sI_ hf2, sI_ x2, sI_ p3, sI_ s3b, sI_ s3t, sI_ hf3, sI_ x3, sI_ (0 : Int32), sI_ b2, sI_ b3, sJ_ (0 : Int64), sS_, sJ_ t2, sS_, sJ_ t3, sS_, .val fv1, sJ_ v2, sS_, .val fv2, sJ_ v3, sS_, .val fv3, .val cv1, .val cv2, .val cv3, sR_ ax, sI_ (1 : Int32), sI_ h2, sI_ fp2, sJ_ fst2, sS_, sI_ h3, sI_ (0 : Int32), sJ_ e3, sS_] [(.ref ax)]))) (fun t kt => ?_) ?_
          · skip
            refine XS.ifYes X_1.here hx rfl (pc0 := 625) (pc' := 632) rfl (hb hby at_625) rfl (XT.i0_eq_t c_14) (by decide) (by decide) ?_
            refine XS.iconst X_1.here hx rfl (hb hby at_632) ?_
            refine XS.istore X_1.here hx rfl (hb hby at_633) rfl (l' := #[sI_ fl, sJ_ e1, sS_, sJ_ e2, sS_, sJ_ e3, sS_, sJ_ f2, sS_, sJ_ f3, sS_, sI_ p1, sI_ hf1, sI_ p2, sI_ s2b, sI_ s2t, sI_ hf2, sI_ x2, sI_ p3, sI_ s3b, sI_ s3t, sI_ hf3, sI_ x3, sI_ (0 : Int32), sI_ b2, sI_ b3, sJ_ (0 : Int64), sS_, sJ_ t2, sS_, sJ_ t3, sS_, .val fv1, sJ_ v2, sS_, .val fv2, sJ_ v3, sS_, .val fv3, .val cv1, .val cv2, .val cv3, sR_ ax, sI_ (1 : Int32), sI_ h2, sI_ fp2, sJ_ fst2, sS_, sI_ h3, sI_ (0 : Int32), sU_, sU_]) rfl ?_
            refine XS.iload X_1.here hx rfl (hb hby at_635) rfl ?_
            refine XS.ifYes X_1.here hx rfl (pc0 := 637) (pc' := 644) rfl (hb hby at_637) rfl (XT.i0_eq_t c_12) (by decide) (by decide) ?_
            refine XS.iload X_1.here hx rfl (hb hby at_644) rfl ?_
            refine XS.ifYes X_1.here hx rfl (pc0 := 646) (pc' := 653) rfl (hb hby at_646) rfl (XT.i0_eq_t c_13) (by decide) (by decide) ?_
            refine XS.lload X_1.here hx rfl (hb hby at_653) rfl ?_
            show Steps p.tables e below (T_1.setTop (mkF m 655 #[sI_ fl, sJ_ e1, sS_, sJ_ e2, sS_, sJ_ e3, sS_, sJ_ f2, sS_, sJ_ f3, sS_, sI_ p1, sI_ hf1, sI_ p2, sI_ s2b, sI_ s2t, sI_ hf2, sI_ x2, sI_ p3, sI_ s3b, sI_ s3t, sI_ hf3, sI_ x3, sI_ (0 : Int32), sI_ b2, sI_ b3, sJ_ (0 : Int64), sS_, sJ_ t2, sS_, sJ_ t3, sS_, .val fv1, sJ_ v2, sS_, .val fv2, sJ_ v3, sS_, .val fv3, .val cv1, .val cv2, .val cv3, sR_ ax, sI_ (1 : Int32), sI_ h2, sI_ fp2, sJ_ fst2, sS_, sI_ h3, sI_ (0 : Int32), sU_, sU_] [(.long e3)])) t
            refine XS.lstore X_1.here hx rfl (hb hby at_655) rfl (l' := #[sI_ fl, sJ_ e1, sS_, sJ_ e2, sS_, sJ_ e3, sS_, sJ_ f2, sS_, sJ_ f3, sS_, sI_ p1, sI_ hf1, sI_ p2, sI_ s2b, sI_ s2t, sI_ hf2, sI_ x2, sI_ p3, sI_ s3b, sI_ s3t, sI_ hf3, sI_ x3, sI_ (0 : Int32), sI_ b2, sI_ b3, sJ_ (0 : Int64), sS_, sJ_ t2, sS_, sJ_ t3, sS_, .val fv1, sJ_ v2, sS_, .val fv2, sJ_ v3, sS_, .val fv3, .val cv1, .val cv2, .val cv3, sR_ ax, sI_ (1 : Int32), sI_ h2, sI_ fp2, sJ_ fst2, sS_, sI_ h3, sI_ (0 : Int32), sJ_ e3, sS_]) rfl ?_
            refine XS.iload X_1.here hx rfl (hb hby at_657) rfl ?_
            refine XS.ifNo X_1.here hx rfl (hb hby at_659) rfl (XT.i0_eq_f (by decide)) ?_
            refine XS.aload X_1.here hx rfl (hb hby at_662) rfl rfl ?_
            exact kt
          obtain ⟨v_15, T_15, L_15, X_15, q_15, st_15⟩ := callVirtual X_1 hx hZ (y := (⟨"com/example/dead_letter_replay/deadletterreplay/queue/Carries", "floor", "()Ljava/lang/Long;"⟩ : MethodName)) (z := (⟨"com/example/dead_letter_replay/deadletterreplay/queue/Carries", "floor", "()Ljava/lang/Long;"⟩ : MethodName)) (W := 0) hown (wdOf hw 9 rfl) (wdOf hw 10 rfl) (notFace_of_selects (args := #[]) (mvT hZ (wdOf hw 12 rfl))) (wdOf hw 12 rfl) (wdOf hw 11 rfl) (wdOf hw 2 rfl) (wdOf hw 13 rfl) (by decide) (rm_floor l Z a0 hw [] ax d3 (OwnFst (OwnFst (OwnFst none d1) d2) d3) none hx_1 T_1.heap n0 y_11 S_1 (by rw [if_pos (E3.mpr ch), hfo])) (by decide) (by decide) (by decide) (by decide) (rfl : T_1.heap = T_1.heap) f_10 (g := (mkF m 664 #[sI_ fl, sJ_ e1, sS_, sJ_ e2, sS_, sJ_ e3, sS_, sJ_ f2, sS_, sJ_ f3, sS_, sI_ p1, sI_ hf1, sI_ p2, sI_ s2b, sI_ s2t, sI_ hf2, sI_ x2, sI_ p3, sI_ s3b, sI_ s3t, sI_ hf3, sI_ x3, sI_ (0 : Int32), sI_ b2, sI_ b3, sJ_ (0 : Int64), sS_, sJ_ t2, sS_, sJ_ t3, sS_, .val fv1, sJ_ v2, sS_, .val fv2, sJ_ v3, sS_, .val fv3, .val cv1, .val cv2, .val cv3, sR_ ax, sI_ (1 : Int32), sI_ h2, sI_ fp2, sJ_ fst2, sS_, sI_ h3, sI_ (0 : Int32), sJ_ e3, sS_] [(.ref ax)])) rfl (by rw [hml]; rfl) (argsL := []) (rest := []) (lenOf pd_5 rfl) rfl rfl (Nat.le_refl _) (hb hby at_664)
          obtain ⟨ow_15, rfl, n_15, K_15, W_15⟩ := q_15
          have N_15 := Fr.app N_1 n_15
          refine Goes.go (U' := (T_15.setTop (mkF m 667 #[sI_ fl, sJ_ e1, sS_, sJ_ e2, sS_, sJ_ e3, sS_, sJ_ f2, sS_, sJ_ f3, sS_, sI_ p1, sI_ hf1, sI_ p2, sI_ s2b, sI_ s2t, sI_ hf2, sI_ x2, sI_ p3, sI_ s3b, sI_ s3t, sI_ hf3, sI_ x3, sI_ (0 : Int32), sI_ b2, sI_ b3, sJ_ (0 : Int64), sS_, sJ_ t2, sS_, sJ_ t3, sS_, .val fv1, sJ_ v2, sS_, .val fv2, sJ_ v3, sS_, .val fv3, .val cv1, .val cv2, .val cv3, sR_ ax, sI_ (1 : Int32), sI_ h2, sI_ fp2, sJ_ fst2, sS_, sI_ h3, sI_ (0 : Int32), sJ_ e3, sS_] [ow_15]))) st_15 ?_
          refine Goes.go (U' := (T_15.setTop (mkF m 684 #[sI_ fl, sJ_ e1, sS_, sJ_ e2, sS_, sJ_ e3, sS_, sJ_ f2, sS_, sJ_ f3, sS_, sI_ p1, sI_ hf1, sI_ p2, sI_ s2b, sI_ s2t, sI_ hf2, sI_ x2, sI_ p3, sI_ s3b, sI_ s3t, sI_ hf3, sI_ x3, sI_ (0 : Int32), sI_ b2, sI_ b3, sJ_ (0 : Int64), sS_, sJ_ t2, sS_, sJ_ t3, sS_, .val fv1, sJ_ v2, sS_, .val fv2, sJ_ v3, sS_, .val fv3, .val cv1, .val cv2, .val cv3, sR_ ax, sI_ (1 : Int32), sI_ h2, sI_ fp2, sJ_ fst2, sS_, sI_ h3, sI_ (0 : Int32), sJ_ e3, sS_] [(.long e3), (.int (1 : Int32)), ow_15]))) (fun t kt => ?_) ?_
          · skip
            refine XS.iload X_15.here hx rfl (hb hby at_667) rfl ?_
            refine XS.ifNo X_15.here hx rfl (hb hby at_669) rfl (XT.i0_ne_f ch) ?_
            refine XS.iload X_15.here hx rfl (hb hby at_672) rfl ?_
            refine XS.ifNo X_15.here hx rfl (hb hby at_674) rfl (XT.i0_ne_f (by decide)) ?_
            refine XS.iconst X_15.here hx rfl (hb hby at_677) ?_
            refine XS.goto X_15.here hx rfl (pc0 := 678) (pc' := 682) rfl (hb hby at_678) (by decide) (by decide) ?_
            refine XS.lload X_15.here hx rfl (hb hby at_682) rfl ?_
            exact kt
          obtain ⟨v_16, T_16, L_16, X_16, q_16, st_16⟩ := callStatic X_15 hx hZ (y := (⟨"com/example/dead_letter_replay/deadletterreplay/queue/CarriesFloorPinLaw", "is", "(Ljava/lang/Long;ZJ)Z"⟩ : MethodName)) (W := 0) hown (wdOf hw 29 rfl) (wdOf hw 30 rfl) (wdOf hw 31 rfl) (wdOf hw 32 rfl) (by decide) (rm_is l Z a0 hw [] ow_15 (1 : Int32) e3 none T_1.heap n0 y_11 W_15 (by simp) (by simp)) (by decide) (by decide) (by decide) (by decide) K_15 (g := (mkF m 684 #[sI_ fl, sJ_ e1, sS_, sJ_ e2, sS_, sJ_ e3, sS_, sJ_ f2, sS_, sJ_ f3, sS_, sI_ p1, sI_ hf1, sI_ p2, sI_ s2b, sI_ s2t, sI_ hf2, sI_ x2, sI_ p3, sI_ s3b, sI_ s3t, sI_ hf3, sI_ x3, sI_ (0 : Int32), sI_ b2, sI_ b3, sJ_ (0 : Int64), sS_, sJ_ t2, sS_, sJ_ t3, sS_, .val fv1, sJ_ v2, sS_, .val fv2, sJ_ v3, sS_, .val fv3, .val cv1, .val cv2, .val cv3, sR_ ax, sI_ (1 : Int32), sI_ h2, sI_ fp2, sJ_ fst2, sS_, sI_ h3, sI_ (0 : Int32), sJ_ e3, sS_] [(.long e3), (.int (1 : Int32)), ow_15])) rfl (by rw [hml]; rfl) (argsL := [ow_15, (.int (1 : Int32)), (.long e3)]) (rest := []) (lenOf pd_10 rfl) rfl rfl (Nat.le_refl _) (hb hby at_684)
          obtain ⟨rfl, n_16, K_16⟩ := q_16
          have N_16 := Fr.app N_15 n_16
          refine Goes.go (U' := (T_16.setTop (mkF m 687 #[sI_ fl, sJ_ e1, sS_, sJ_ e2, sS_, sJ_ e3, sS_, sJ_ f2, sS_, sJ_ f3, sS_, sI_ p1, sI_ hf1, sI_ p2, sI_ s2b, sI_ s2t, sI_ hf2, sI_ x2, sI_ p3, sI_ s3b, sI_ s3t, sI_ hf3, sI_ x3, sI_ (0 : Int32), sI_ b2, sI_ b3, sJ_ (0 : Int64), sS_, sJ_ t2, sS_, sJ_ t3, sS_, .val fv1, sJ_ v2, sS_, .val fv2, sJ_ v3, sS_, .val fv3, .val cv1, .val cv2, .val cv3, sR_ ax, sI_ (1 : Int32), sI_ h2, sI_ fp2, sJ_ fst2, sS_, sI_ h3, sI_ (0 : Int32), sJ_ e3, sS_] [(.int (1 : Int32))]))) st_16 ?_
          refine Goes.go (U' := (T_16.setTop (mkF m 699 #[sI_ fl, sJ_ e1, sS_, sJ_ e2, sS_, sJ_ e3, sS_, sJ_ f2, sS_, sJ_ f3, sS_, sI_ p1, sI_ hf1, sI_ p2, sI_ s2b, sI_ s2t, sI_ hf2, sI_ x2, sI_ p3, sI_ s3b, sI_ s3t, sI_ hf3, sI_ x3, sI_ (0 : Int32), sI_ b2, sI_ b3, sJ_ (0 : Int64), sS_, sJ_ t2, sS_, sJ_ t3, sS_, .val fv1, sJ_ v2, sS_, .val fv2, sJ_ v3, sS_, .val fv3, .val cv1, .val cv2, .val cv3, sR_ ax, sI_ (1 : Int32), sI_ h2, sI_ fp2, sJ_ fst2, sS_, sI_ h3, sI_ (0 : Int32), sJ_ e3, sS_] [(.int (1 : Int32))]))) (fun t kt => ?_) ?_
          · skip
            refine XS.ifNo X_16.here hx rfl (hb hby at_687) rfl (XT.i0_eq_f (by decide)) ?_
            refine XS.iconst X_16.here hx rfl (hb hby at_690) ?_
            refine XS.goto X_16.here hx rfl (pc0 := 691) (pc' := 695) rfl (hb hby at_691) (by decide) (by decide) ?_
            refine XS.istore X_16.here hx rfl (hb hby at_695) rfl (l' := #[sI_ fl, sJ_ e1, sS_, sJ_ e2, sS_, sJ_ e3, sS_, sJ_ f2, sS_, sJ_ f3, sS_, sI_ p1, sI_ hf1, sI_ p2, sI_ s2b, sI_ s2t, sI_ hf2, sI_ x2, sI_ p3, sI_ s3b, sI_ s3t, sI_ hf3, sI_ x3, sI_ (0 : Int32), sI_ b2, sI_ b3, sJ_ (0 : Int64), sS_, sJ_ t2, sS_, sJ_ t3, sS_, .val fv1, sJ_ v2, sS_, .val fv2, sJ_ v3, sS_, .val fv3, .val cv1, .val cv2, .val cv3, sR_ ax, sI_ (1 : Int32), sI_ h2, sI_ fp2, sJ_ fst2, sS_, sI_ h3, sI_ (0 : Int32), sJ_ e3, sS_]) rfl ?_
            refine XS.iload X_16.here hx rfl (hb hby at_697) rfl ?_
            exact kt
          refine Goes.retB X_16 hx hlk hret (hb hby at_699) (by decide) (by decide) ?_
          try rw [K_16]
          exact ⟨rfl, N_16⟩
        · -- h3
          refine Goes.go (U' := (T_1.setTop (mkF m 664 #[sI_ fl, sJ_ e1, sS_, sJ_ e2, sS_, sJ_ e3, sS_, sJ_ f2, sS_, sJ_ f3, sS_, sI_ p1, sI_ hf1, sI_ p2, sI_ s2b, sI_ s2t, sI_ hf2, sI_ x2, sI_ p3, sI_ s3b, sI_ s3t, sI_ hf3, sI_ x3, sI_ (0 : Int32), sI_ b2, sI_ b3, sJ_ (0 : Int64), sS_, sJ_ t2, sS_, sJ_ t3, sS_, .val fv1, sJ_ v2, sS_, .val fv2, sJ_ v3, sS_, .val fv3, .val cv1, .val cv2, .val cv3, sR_ ax, sI_ (1 : Int32), sI_ h2, sI_ fp2, sJ_ fst2, sS_, sI_ h3, sI_ (0 : Int32), sJ_ e3, sS_] [(.ref ax)]))) (fun t kt => ?_) ?_
          · skip
            refine XS.ifYes X_1.here hx rfl (pc0 := 625) (pc' := 632) rfl (hb hby at_625) rfl (XT.i0_eq_t c_14) (by decide) (by decide) ?_
            refine XS.iconst X_1.here hx rfl (hb hby at_632) ?_
            refine XS.istore X_1.here hx rfl (hb hby at_633) rfl (l' := #[sI_ fl, sJ_ e1, sS_, sJ_ e2, sS_, sJ_ e3, sS_, sJ_ f2, sS_, sJ_ f3, sS_, sI_ p1, sI_ hf1, sI_ p2, sI_ s2b, sI_ s2t, sI_ hf2, sI_ x2, sI_ p3, sI_ s3b, sI_ s3t, sI_ hf3, sI_ x3, sI_ (0 : Int32), sI_ b2, sI_ b3, sJ_ (0 : Int64), sS_, sJ_ t2, sS_, sJ_ t3, sS_, .val fv1, sJ_ v2, sS_, .val fv2, sJ_ v3, sS_, .val fv3, .val cv1, .val cv2, .val cv3, sR_ ax, sI_ (1 : Int32), sI_ h2, sI_ fp2, sJ_ fst2, sS_, sI_ h3, sI_ (0 : Int32), sU_, sU_]) rfl ?_
            refine XS.iload X_1.here hx rfl (hb hby at_635) rfl ?_
            refine XS.ifYes X_1.here hx rfl (pc0 := 637) (pc' := 644) rfl (hb hby at_637) rfl (XT.i0_eq_t c_12) (by decide) (by decide) ?_
            refine XS.iload X_1.here hx rfl (hb hby at_644) rfl ?_
            refine XS.ifYes X_1.here hx rfl (pc0 := 646) (pc' := 653) rfl (hb hby at_646) rfl (XT.i0_eq_t c_13) (by decide) (by decide) ?_
            refine XS.lload X_1.here hx rfl (hb hby at_653) rfl ?_
            show Steps p.tables e below (T_1.setTop (mkF m 655 #[sI_ fl, sJ_ e1, sS_, sJ_ e2, sS_, sJ_ e3, sS_, sJ_ f2, sS_, sJ_ f3, sS_, sI_ p1, sI_ hf1, sI_ p2, sI_ s2b, sI_ s2t, sI_ hf2, sI_ x2, sI_ p3, sI_ s3b, sI_ s3t, sI_ hf3, sI_ x3, sI_ (0 : Int32), sI_ b2, sI_ b3, sJ_ (0 : Int64), sS_, sJ_ t2, sS_, sJ_ t3, sS_, .val fv1, sJ_ v2, sS_, .val fv2, sJ_ v3, sS_, .val fv3, .val cv1, .val cv2, .val cv3, sR_ ax, sI_ (1 : Int32), sI_ h2, sI_ fp2, sJ_ fst2, sS_, sI_ h3, sI_ (0 : Int32), sU_, sU_] [(.long e3)])) t
            refine XS.lstore X_1.here hx rfl (hb hby at_655) rfl (l' := #[sI_ fl, sJ_ e1, sS_, sJ_ e2, sS_, sJ_ e3, sS_, sJ_ f2, sS_, sJ_ f3, sS_, sI_ p1, sI_ hf1, sI_ p2, sI_ s2b, sI_ s2t, sI_ hf2, sI_ x2, sI_ p3, sI_ s3b, sI_ s3t, sI_ hf3, sI_ x3, sI_ (0 : Int32), sI_ b2, sI_ b3, sJ_ (0 : Int64), sS_, sJ_ t2, sS_, sJ_ t3, sS_, .val fv1, sJ_ v2, sS_, .val fv2, sJ_ v3, sS_, .val fv3, .val cv1, .val cv2, .val cv3, sR_ ax, sI_ (1 : Int32), sI_ h2, sI_ fp2, sJ_ fst2, sS_, sI_ h3, sI_ (0 : Int32), sJ_ e3, sS_]) rfl ?_
            refine XS.iload X_1.here hx rfl (hb hby at_657) rfl ?_
            refine XS.ifNo X_1.here hx rfl (hb hby at_659) rfl (XT.i0_eq_f (by decide)) ?_
            refine XS.aload X_1.here hx rfl (hb hby at_662) rfl rfl ?_
            exact kt
          obtain ⟨v_17, T_17, L_17, X_17, q_17, st_17⟩ := callVirtual X_1 hx hZ (y := (⟨"com/example/dead_letter_replay/deadletterreplay/queue/Carries", "floor", "()Ljava/lang/Long;"⟩ : MethodName)) (z := (⟨"com/example/dead_letter_replay/deadletterreplay/queue/Carries", "floor", "()Ljava/lang/Long;"⟩ : MethodName)) (W := 0) hown (wdOf hw 9 rfl) (wdOf hw 10 rfl) (notFace_of_selects (args := #[]) (mvT hZ (wdOf hw 12 rfl))) (wdOf hw 12 rfl) (wdOf hw 11 rfl) (wdOf hw 2 rfl) (wdOf hw 13 rfl) (by decide) (rm_floor l Z a0 hw [] ax d3 (OwnFst (OwnFst (OwnFst none d1) d2) d3) none hx_1 T_1.heap n0 y_11 S_1 (by rw [if_neg (fun q => ch (E3.mp q))])) (by decide) (by decide) (by decide) (by decide) (rfl : T_1.heap = T_1.heap) f_10 (g := (mkF m 664 #[sI_ fl, sJ_ e1, sS_, sJ_ e2, sS_, sJ_ e3, sS_, sJ_ f2, sS_, sJ_ f3, sS_, sI_ p1, sI_ hf1, sI_ p2, sI_ s2b, sI_ s2t, sI_ hf2, sI_ x2, sI_ p3, sI_ s3b, sI_ s3t, sI_ hf3, sI_ x3, sI_ (0 : Int32), sI_ b2, sI_ b3, sJ_ (0 : Int64), sS_, sJ_ t2, sS_, sJ_ t3, sS_, .val fv1, sJ_ v2, sS_, .val fv2, sJ_ v3, sS_, .val fv3, .val cv1, .val cv2, .val cv3, sR_ ax, sI_ (1 : Int32), sI_ h2, sI_ fp2, sJ_ fst2, sS_, sI_ h3, sI_ (0 : Int32), sJ_ e3, sS_] [(.ref ax)])) rfl (by rw [hml]; rfl) (argsL := []) (rest := []) (lenOf pd_5 rfl) rfl rfl (Nat.le_refl _) (hb hby at_664)
          obtain ⟨ow_17, rfl, n_17, K_17, W_17⟩ := q_17
          have N_17 := Fr.app N_1 n_17
          refine Goes.go (U' := (T_17.setTop (mkF m 667 #[sI_ fl, sJ_ e1, sS_, sJ_ e2, sS_, sJ_ e3, sS_, sJ_ f2, sS_, sJ_ f3, sS_, sI_ p1, sI_ hf1, sI_ p2, sI_ s2b, sI_ s2t, sI_ hf2, sI_ x2, sI_ p3, sI_ s3b, sI_ s3t, sI_ hf3, sI_ x3, sI_ (0 : Int32), sI_ b2, sI_ b3, sJ_ (0 : Int64), sS_, sJ_ t2, sS_, sJ_ t3, sS_, .val fv1, sJ_ v2, sS_, .val fv2, sJ_ v3, sS_, .val fv3, .val cv1, .val cv2, .val cv3, sR_ ax, sI_ (1 : Int32), sI_ h2, sI_ fp2, sJ_ fst2, sS_, sI_ h3, sI_ (0 : Int32), sJ_ e3, sS_] [ow_17]))) st_17 ?_
          refine Goes.go (U' := (T_17.setTop (mkF m 684 #[sI_ fl, sJ_ e1, sS_, sJ_ e2, sS_, sJ_ e3, sS_, sJ_ f2, sS_, sJ_ f3, sS_, sI_ p1, sI_ hf1, sI_ p2, sI_ s2b, sI_ s2t, sI_ hf2, sI_ x2, sI_ p3, sI_ s3b, sI_ s3t, sI_ hf3, sI_ x3, sI_ (0 : Int32), sI_ b2, sI_ b3, sJ_ (0 : Int64), sS_, sJ_ t2, sS_, sJ_ t3, sS_, .val fv1, sJ_ v2, sS_, .val fv2, sJ_ v3, sS_, .val fv3, .val cv1, .val cv2, .val cv3, sR_ ax, sI_ (1 : Int32), sI_ h2, sI_ fp2, sJ_ fst2, sS_, sI_ h3, sI_ (0 : Int32), sJ_ e3, sS_] [(.long e3), (.int (1 : Int32)), ow_17]))) (fun t kt => ?_) ?_
          · skip
            refine XS.iload X_17.here hx rfl (hb hby at_667) rfl ?_
            refine XS.ifYes X_17.here hx rfl (pc0 := 669) (pc' := 677) rfl (hb hby at_669) rfl (XT.i0_ne_t ch) (by decide) (by decide) ?_
            refine XS.iconst X_17.here hx rfl (hb hby at_677) ?_
            refine XS.goto X_17.here hx rfl (pc0 := 678) (pc' := 682) rfl (hb hby at_678) (by decide) (by decide) ?_
            refine XS.lload X_17.here hx rfl (hb hby at_682) rfl ?_
            exact kt
          obtain ⟨v_18, T_18, L_18, X_18, q_18, st_18⟩ := callStatic X_17 hx hZ (y := (⟨"com/example/dead_letter_replay/deadletterreplay/queue/CarriesFloorPinLaw", "is", "(Ljava/lang/Long;ZJ)Z"⟩ : MethodName)) (W := 0) hown (wdOf hw 29 rfl) (wdOf hw 30 rfl) (wdOf hw 31 rfl) (wdOf hw 32 rfl) (by decide) (rm_is l Z a0 hw [] ow_17 (1 : Int32) e3 none T_1.heap n0 y_11 W_17 (by simp) (by simp)) (by decide) (by decide) (by decide) (by decide) K_17 (g := (mkF m 684 #[sI_ fl, sJ_ e1, sS_, sJ_ e2, sS_, sJ_ e3, sS_, sJ_ f2, sS_, sJ_ f3, sS_, sI_ p1, sI_ hf1, sI_ p2, sI_ s2b, sI_ s2t, sI_ hf2, sI_ x2, sI_ p3, sI_ s3b, sI_ s3t, sI_ hf3, sI_ x3, sI_ (0 : Int32), sI_ b2, sI_ b3, sJ_ (0 : Int64), sS_, sJ_ t2, sS_, sJ_ t3, sS_, .val fv1, sJ_ v2, sS_, .val fv2, sJ_ v3, sS_, .val fv3, .val cv1, .val cv2, .val cv3, sR_ ax, sI_ (1 : Int32), sI_ h2, sI_ fp2, sJ_ fst2, sS_, sI_ h3, sI_ (0 : Int32), sJ_ e3, sS_] [(.long e3), (.int (1 : Int32)), ow_17])) rfl (by rw [hml]; rfl) (argsL := [ow_17, (.int (1 : Int32)), (.long e3)]) (rest := []) (lenOf pd_10 rfl) rfl rfl (Nat.le_refl _) (hb hby at_684)
          obtain ⟨rfl, n_18, K_18⟩ := q_18
          have N_18 := Fr.app N_17 n_18
          refine Goes.go (U' := (T_18.setTop (mkF m 687 #[sI_ fl, sJ_ e1, sS_, sJ_ e2, sS_, sJ_ e3, sS_, sJ_ f2, sS_, sJ_ f3, sS_, sI_ p1, sI_ hf1, sI_ p2, sI_ s2b, sI_ s2t, sI_ hf2, sI_ x2, sI_ p3, sI_ s3b, sI_ s3t, sI_ hf3, sI_ x3, sI_ (0 : Int32), sI_ b2, sI_ b3, sJ_ (0 : Int64), sS_, sJ_ t2, sS_, sJ_ t3, sS_, .val fv1, sJ_ v2, sS_, .val fv2, sJ_ v3, sS_, .val fv3, .val cv1, .val cv2, .val cv3, sR_ ax, sI_ (1 : Int32), sI_ h2, sI_ fp2, sJ_ fst2, sS_, sI_ h3, sI_ (0 : Int32), sJ_ e3, sS_] [(.int (1 : Int32))]))) st_18 ?_
          refine Goes.go (U' := (T_18.setTop (mkF m 699 #[sI_ fl, sJ_ e1, sS_, sJ_ e2, sS_, sJ_ e3, sS_, sJ_ f2, sS_, sJ_ f3, sS_, sI_ p1, sI_ hf1, sI_ p2, sI_ s2b, sI_ s2t, sI_ hf2, sI_ x2, sI_ p3, sI_ s3b, sI_ s3t, sI_ hf3, sI_ x3, sI_ (0 : Int32), sI_ b2, sI_ b3, sJ_ (0 : Int64), sS_, sJ_ t2, sS_, sJ_ t3, sS_, .val fv1, sJ_ v2, sS_, .val fv2, sJ_ v3, sS_, .val fv3, .val cv1, .val cv2, .val cv3, sR_ ax, sI_ (1 : Int32), sI_ h2, sI_ fp2, sJ_ fst2, sS_, sI_ h3, sI_ (0 : Int32), sJ_ e3, sS_] [(.int (1 : Int32))]))) (fun t kt => ?_) ?_
          · skip
            refine XS.ifNo X_18.here hx rfl (hb hby at_687) rfl (XT.i0_eq_f (by decide)) ?_
            refine XS.iconst X_18.here hx rfl (hb hby at_690) ?_
            refine XS.goto X_18.here hx rfl (pc0 := 691) (pc' := 695) rfl (hb hby at_691) (by decide) (by decide) ?_
            refine XS.istore X_18.here hx rfl (hb hby at_695) rfl (l' := #[sI_ fl, sJ_ e1, sS_, sJ_ e2, sS_, sJ_ e3, sS_, sJ_ f2, sS_, sJ_ f3, sS_, sI_ p1, sI_ hf1, sI_ p2, sI_ s2b, sI_ s2t, sI_ hf2, sI_ x2, sI_ p3, sI_ s3b, sI_ s3t, sI_ hf3, sI_ x3, sI_ (0 : Int32), sI_ b2, sI_ b3, sJ_ (0 : Int64), sS_, sJ_ t2, sS_, sJ_ t3, sS_, .val fv1, sJ_ v2, sS_, .val fv2, sJ_ v3, sS_, .val fv3, .val cv1, .val cv2, .val cv3, sR_ ax, sI_ (1 : Int32), sI_ h2, sI_ fp2, sJ_ fst2, sS_, sI_ h3, sI_ (0 : Int32), sJ_ e3, sS_]) rfl ?_
            refine XS.iload X_18.here hx rfl (hb hby at_697) rfl ?_
            exact kt
          refine Goes.retB X_18 hx hlk hret (hb hby at_699) (by decide) (by decide) ?_
          try rw [K_18]
          exact ⟨rfl, N_18⟩
      · -- not p3 = 0
        have hfo : OwnFst (OwnFst (OwnFst none d1) d2) d3 = (some e3) := by rw [hD1.1 c_12, hD2.1 c_13, hD3.2 c_14]; rfl
        by_cases ch : h3 = 0
        · -- h3
          refine Goes.go (U' := (T_1.setTop (mkF m 664 #[sI_ fl, sJ_ e1, sS_, sJ_ e2, sS_, sJ_ e3, sS_, sJ_ f2, sS_, sJ_ f3, sS_, sI_ p1, sI_ hf1, sI_ p2, sI_ s2b, sI_ s2t, sI_ hf2, sI_ x2, sI_ p3, sI_ s3b, sI_ s3t, sI_ hf3, sI_ x3, sI_ (0 : Int32), sI_ b2, sI_ b3, sJ_ (0 : Int64), sS_, sJ_ t2, sS_, sJ_ t3, sS_, .val fv1, sJ_ v2, sS_, .val fv2, sJ_ v3, sS_, .val fv3, .val cv1, .val cv2, .val cv3, sR_ ax, sI_ (1 : Int32), sI_ h2, sI_ fp2, sJ_ fst2, sS_, sI_ h3, sI_ (1 : Int32), sJ_ e3, sS_] [(.ref ax)]))) (fun t kt => ?_) ?_
          · skip
            refine XS.ifNo X_1.here hx rfl (hb hby at_625) rfl (XT.i0_eq_f c_14) ?_
            refine XS.iconst X_1.here hx rfl (hb hby at_628) ?_
            refine XS.goto X_1.here hx rfl (pc0 := 629) (pc' := 633) rfl (hb hby at_629) (by decide) (by decide) ?_
            refine XS.istore X_1.here hx rfl (hb hby at_633) rfl (l' := #[sI_ fl, sJ_ e1, sS_, sJ_ e2, sS_, sJ_ e3, sS_, sJ_ f2, sS_, sJ_ f3, sS_, sI_ p1, sI_ hf1, sI_ p2, sI_ s2b, sI_ s2t, sI_ hf2, sI_ x2, sI_ p3, sI_ s3b, sI_ s3t, sI_ hf3, sI_ x3, sI_ (0 : Int32), sI_ b2, sI_ b3, sJ_ (0 : Int64), sS_, sJ_ t2, sS_, sJ_ t3, sS_, .val fv1, sJ_ v2, sS_, .val fv2, sJ_ v3, sS_, .val fv3, .val cv1, .val cv2, .val cv3, sR_ ax, sI_ (1 : Int32), sI_ h2, sI_ fp2, sJ_ fst2, sS_, sI_ h3, sI_ (1 : Int32), sU_, sU_]) rfl ?_
            refine XS.iload X_1.here hx rfl (hb hby at_635) rfl ?_
            refine XS.ifYes X_1.here hx rfl (pc0 := 637) (pc' := 644) rfl (hb hby at_637) rfl (XT.i0_eq_t c_12) (by decide) (by decide) ?_
            refine XS.iload X_1.here hx rfl (hb hby at_644) rfl ?_
            refine XS.ifYes X_1.here hx rfl (pc0 := 646) (pc' := 653) rfl (hb hby at_646) rfl (XT.i0_eq_t c_13) (by decide) (by decide) ?_
            show Steps p.tables e below (T_1.setTop (mkF m 653 #[sI_ fl, sJ_ e1, sS_, sJ_ e2, sS_, sJ_ e3, sS_, sJ_ f2, sS_, sJ_ f3, sS_, sI_ p1, sI_ hf1, sI_ p2, sI_ s2b, sI_ s2t, sI_ hf2, sI_ x2, sI_ p3, sI_ s3b, sI_ s3t, sI_ hf3, sI_ x3, sI_ (0 : Int32), sI_ b2, sI_ b3, sJ_ (0 : Int64), sS_, sJ_ t2, sS_, sJ_ t3, sS_, .val fv1, sJ_ v2, sS_, .val fv2, sJ_ v3, sS_, .val fv3, .val cv1, .val cv2, .val cv3, sR_ ax, sI_ (1 : Int32), sI_ h2, sI_ fp2, sJ_ fst2, sS_, sI_ h3, sI_ (1 : Int32), sU_, sU_] [])) t
            refine XS.lload X_1.here hx rfl (hb hby at_653) rfl ?_
            refine XS.lstore X_1.here hx rfl (hb hby at_655) rfl (l' := #[sI_ fl, sJ_ e1, sS_, sJ_ e2, sS_, sJ_ e3, sS_, sJ_ f2, sS_, sJ_ f3, sS_, sI_ p1, sI_ hf1, sI_ p2, sI_ s2b, sI_ s2t, sI_ hf2, sI_ x2, sI_ p3, sI_ s3b, sI_ s3t, sI_ hf3, sI_ x3, sI_ (0 : Int32), sI_ b2, sI_ b3, sJ_ (0 : Int64), sS_, sJ_ t2, sS_, sJ_ t3, sS_, .val fv1, sJ_ v2, sS_, .val fv2, sJ_ v3, sS_, .val fv3, .val cv1, .val cv2, .val cv3, sR_ ax, sI_ (1 : Int32), sI_ h2, sI_ fp2, sJ_ fst2, sS_, sI_ h3, sI_ (1 : Int32), sJ_ e3, sS_]) rfl ?_
            refine XS.iload X_1.here hx rfl (hb hby at_657) rfl ?_
            refine XS.ifNo X_1.here hx rfl (hb hby at_659) rfl (XT.i0_eq_f (by decide)) ?_
            refine XS.aload X_1.here hx rfl (hb hby at_662) rfl rfl ?_
            exact kt
          obtain ⟨v_19, T_19, L_19, X_19, q_19, st_19⟩ := callVirtual X_1 hx hZ (y := (⟨"com/example/dead_letter_replay/deadletterreplay/queue/Carries", "floor", "()Ljava/lang/Long;"⟩ : MethodName)) (z := (⟨"com/example/dead_letter_replay/deadletterreplay/queue/Carries", "floor", "()Ljava/lang/Long;"⟩ : MethodName)) (W := 0) hown (wdOf hw 9 rfl) (wdOf hw 10 rfl) (notFace_of_selects (args := #[]) (mvT hZ (wdOf hw 12 rfl))) (wdOf hw 12 rfl) (wdOf hw 11 rfl) (wdOf hw 2 rfl) (wdOf hw 13 rfl) (by decide) (rm_floor l Z a0 hw [] ax d3 (OwnFst (OwnFst (OwnFst none d1) d2) d3) (some e3) hx_1 T_1.heap n0 y_11 S_1 (by rw [if_pos (E3.mpr ch), hfo])) (by decide) (by decide) (by decide) (by decide) (rfl : T_1.heap = T_1.heap) f_10 (g := (mkF m 664 #[sI_ fl, sJ_ e1, sS_, sJ_ e2, sS_, sJ_ e3, sS_, sJ_ f2, sS_, sJ_ f3, sS_, sI_ p1, sI_ hf1, sI_ p2, sI_ s2b, sI_ s2t, sI_ hf2, sI_ x2, sI_ p3, sI_ s3b, sI_ s3t, sI_ hf3, sI_ x3, sI_ (0 : Int32), sI_ b2, sI_ b3, sJ_ (0 : Int64), sS_, sJ_ t2, sS_, sJ_ t3, sS_, .val fv1, sJ_ v2, sS_, .val fv2, sJ_ v3, sS_, .val fv3, .val cv1, .val cv2, .val cv3, sR_ ax, sI_ (1 : Int32), sI_ h2, sI_ fp2, sJ_ fst2, sS_, sI_ h3, sI_ (1 : Int32), sJ_ e3, sS_] [(.ref ax)])) rfl (by rw [hml]; rfl) (argsL := []) (rest := []) (lenOf pd_5 rfl) rfl rfl (Nat.le_refl _) (hb hby at_664)
          obtain ⟨ow_19, rfl, n_19, K_19, W_19⟩ := q_19
          have N_19 := Fr.app N_1 n_19
          refine Goes.go (U' := (T_19.setTop (mkF m 667 #[sI_ fl, sJ_ e1, sS_, sJ_ e2, sS_, sJ_ e3, sS_, sJ_ f2, sS_, sJ_ f3, sS_, sI_ p1, sI_ hf1, sI_ p2, sI_ s2b, sI_ s2t, sI_ hf2, sI_ x2, sI_ p3, sI_ s3b, sI_ s3t, sI_ hf3, sI_ x3, sI_ (0 : Int32), sI_ b2, sI_ b3, sJ_ (0 : Int64), sS_, sJ_ t2, sS_, sJ_ t3, sS_, .val fv1, sJ_ v2, sS_, .val fv2, sJ_ v3, sS_, .val fv3, .val cv1, .val cv2, .val cv3, sR_ ax, sI_ (1 : Int32), sI_ h2, sI_ fp2, sJ_ fst2, sS_, sI_ h3, sI_ (1 : Int32), sJ_ e3, sS_] [ow_19]))) st_19 ?_
          refine Goes.go (U' := (T_19.setTop (mkF m 684 #[sI_ fl, sJ_ e1, sS_, sJ_ e2, sS_, sJ_ e3, sS_, sJ_ f2, sS_, sJ_ f3, sS_, sI_ p1, sI_ hf1, sI_ p2, sI_ s2b, sI_ s2t, sI_ hf2, sI_ x2, sI_ p3, sI_ s3b, sI_ s3t, sI_ hf3, sI_ x3, sI_ (0 : Int32), sI_ b2, sI_ b3, sJ_ (0 : Int64), sS_, sJ_ t2, sS_, sJ_ t3, sS_, .val fv1, sJ_ v2, sS_, .val fv2, sJ_ v3, sS_, .val fv3, .val cv1, .val cv2, .val cv3, sR_ ax, sI_ (1 : Int32), sI_ h2, sI_ fp2, sJ_ fst2, sS_, sI_ h3, sI_ (1 : Int32), sJ_ e3, sS_] [(.long e3), (.int (0 : Int32)), ow_19]))) (fun t kt => ?_) ?_
          · skip
            refine XS.iload X_19.here hx rfl (hb hby at_667) rfl ?_
            refine XS.ifNo X_19.here hx rfl (hb hby at_669) rfl (XT.i0_ne_f ch) ?_
            refine XS.iload X_19.here hx rfl (hb hby at_672) rfl ?_
            refine XS.ifYes X_19.here hx rfl (pc0 := 674) (pc' := 681) rfl (hb hby at_674) rfl (XT.i0_ne_t (by decide)) (by decide) (by decide) ?_
            refine XS.iconst X_19.here hx rfl (hb hby at_681) ?_
            refine XS.lload X_19.here hx rfl (hb hby at_682) rfl ?_
            exact kt
          obtain ⟨v_20, T_20, L_20, X_20, q_20, st_20⟩ := callStatic X_19 hx hZ (y := (⟨"com/example/dead_letter_replay/deadletterreplay/queue/CarriesFloorPinLaw", "is", "(Ljava/lang/Long;ZJ)Z"⟩ : MethodName)) (W := 0) hown (wdOf hw 29 rfl) (wdOf hw 30 rfl) (wdOf hw 31 rfl) (wdOf hw 32 rfl) (by decide) (rm_is l Z a0 hw [] ow_19 (0 : Int32) e3 (some e3) T_1.heap n0 y_11 W_19 (by simp) (by simp)) (by decide) (by decide) (by decide) (by decide) K_19 (g := (mkF m 684 #[sI_ fl, sJ_ e1, sS_, sJ_ e2, sS_, sJ_ e3, sS_, sJ_ f2, sS_, sJ_ f3, sS_, sI_ p1, sI_ hf1, sI_ p2, sI_ s2b, sI_ s2t, sI_ hf2, sI_ x2, sI_ p3, sI_ s3b, sI_ s3t, sI_ hf3, sI_ x3, sI_ (0 : Int32), sI_ b2, sI_ b3, sJ_ (0 : Int64), sS_, sJ_ t2, sS_, sJ_ t3, sS_, .val fv1, sJ_ v2, sS_, .val fv2, sJ_ v3, sS_, .val fv3, .val cv1, .val cv2, .val cv3, sR_ ax, sI_ (1 : Int32), sI_ h2, sI_ fp2, sJ_ fst2, sS_, sI_ h3, sI_ (1 : Int32), sJ_ e3, sS_] [(.long e3), (.int (0 : Int32)), ow_19])) rfl (by rw [hml]; rfl) (argsL := [ow_19, (.int (0 : Int32)), (.long e3)]) (rest := []) (lenOf pd_10 rfl) rfl rfl (Nat.le_refl _) (hb hby at_684)
          obtain ⟨rfl, n_20, K_20⟩ := q_20
          have N_20 := Fr.app N_19 n_20
          refine Goes.go (U' := (T_20.setTop (mkF m 687 #[sI_ fl, sJ_ e1, sS_, sJ_ e2, sS_, sJ_ e3, sS_, sJ_ f2, sS_, sJ_ f3, sS_, sI_ p1, sI_ hf1, sI_ p2, sI_ s2b, sI_ s2t, sI_ hf2, sI_ x2, sI_ p3, sI_ s3b, sI_ s3t, sI_ hf3, sI_ x3, sI_ (0 : Int32), sI_ b2, sI_ b3, sJ_ (0 : Int64), sS_, sJ_ t2, sS_, sJ_ t3, sS_, .val fv1, sJ_ v2, sS_, .val fv2, sJ_ v3, sS_, .val fv3, .val cv1, .val cv2, .val cv3, sR_ ax, sI_ (1 : Int32), sI_ h2, sI_ fp2, sJ_ fst2, sS_, sI_ h3, sI_ (1 : Int32), sJ_ e3, sS_] [(.int (1 : Int32))]))) st_20 ?_
          refine Goes.go (U' := (T_20.setTop (mkF m 699 #[sI_ fl, sJ_ e1, sS_, sJ_ e2, sS_, sJ_ e3, sS_, sJ_ f2, sS_, sJ_ f3, sS_, sI_ p1, sI_ hf1, sI_ p2, sI_ s2b, sI_ s2t, sI_ hf2, sI_ x2, sI_ p3, sI_ s3b, sI_ s3t, sI_ hf3, sI_ x3, sI_ (0 : Int32), sI_ b2, sI_ b3, sJ_ (0 : Int64), sS_, sJ_ t2, sS_, sJ_ t3, sS_, .val fv1, sJ_ v2, sS_, .val fv2, sJ_ v3, sS_, .val fv3, .val cv1, .val cv2, .val cv3, sR_ ax, sI_ (1 : Int32), sI_ h2, sI_ fp2, sJ_ fst2, sS_, sI_ h3, sI_ (1 : Int32), sJ_ e3, sS_] [(.int (1 : Int32))]))) (fun t kt => ?_) ?_
          · skip
            refine XS.ifNo X_20.here hx rfl (hb hby at_687) rfl (XT.i0_eq_f (by decide)) ?_
            refine XS.iconst X_20.here hx rfl (hb hby at_690) ?_
            refine XS.goto X_20.here hx rfl (pc0 := 691) (pc' := 695) rfl (hb hby at_691) (by decide) (by decide) ?_
            refine XS.istore X_20.here hx rfl (hb hby at_695) rfl (l' := #[sI_ fl, sJ_ e1, sS_, sJ_ e2, sS_, sJ_ e3, sS_, sJ_ f2, sS_, sJ_ f3, sS_, sI_ p1, sI_ hf1, sI_ p2, sI_ s2b, sI_ s2t, sI_ hf2, sI_ x2, sI_ p3, sI_ s3b, sI_ s3t, sI_ hf3, sI_ x3, sI_ (0 : Int32), sI_ b2, sI_ b3, sJ_ (0 : Int64), sS_, sJ_ t2, sS_, sJ_ t3, sS_, .val fv1, sJ_ v2, sS_, .val fv2, sJ_ v3, sS_, .val fv3, .val cv1, .val cv2, .val cv3, sR_ ax, sI_ (1 : Int32), sI_ h2, sI_ fp2, sJ_ fst2, sS_, sI_ h3, sI_ (1 : Int32), sJ_ e3, sS_]) rfl ?_
            refine XS.iload X_20.here hx rfl (hb hby at_697) rfl ?_
            exact kt
          refine Goes.retB X_20 hx hlk hret (hb hby at_699) (by decide) (by decide) ?_
          try rw [K_20]
          exact ⟨rfl, N_20⟩
        · -- h3
          refine Goes.go (U' := (T_1.setTop (mkF m 664 #[sI_ fl, sJ_ e1, sS_, sJ_ e2, sS_, sJ_ e3, sS_, sJ_ f2, sS_, sJ_ f3, sS_, sI_ p1, sI_ hf1, sI_ p2, sI_ s2b, sI_ s2t, sI_ hf2, sI_ x2, sI_ p3, sI_ s3b, sI_ s3t, sI_ hf3, sI_ x3, sI_ (0 : Int32), sI_ b2, sI_ b3, sJ_ (0 : Int64), sS_, sJ_ t2, sS_, sJ_ t3, sS_, .val fv1, sJ_ v2, sS_, .val fv2, sJ_ v3, sS_, .val fv3, .val cv1, .val cv2, .val cv3, sR_ ax, sI_ (1 : Int32), sI_ h2, sI_ fp2, sJ_ fst2, sS_, sI_ h3, sI_ (1 : Int32), sJ_ e3, sS_] [(.ref ax)]))) (fun t kt => ?_) ?_
          · skip
            refine XS.ifNo X_1.here hx rfl (hb hby at_625) rfl (XT.i0_eq_f c_14) ?_
            refine XS.iconst X_1.here hx rfl (hb hby at_628) ?_
            refine XS.goto X_1.here hx rfl (pc0 := 629) (pc' := 633) rfl (hb hby at_629) (by decide) (by decide) ?_
            refine XS.istore X_1.here hx rfl (hb hby at_633) rfl (l' := #[sI_ fl, sJ_ e1, sS_, sJ_ e2, sS_, sJ_ e3, sS_, sJ_ f2, sS_, sJ_ f3, sS_, sI_ p1, sI_ hf1, sI_ p2, sI_ s2b, sI_ s2t, sI_ hf2, sI_ x2, sI_ p3, sI_ s3b, sI_ s3t, sI_ hf3, sI_ x3, sI_ (0 : Int32), sI_ b2, sI_ b3, sJ_ (0 : Int64), sS_, sJ_ t2, sS_, sJ_ t3, sS_, .val fv1, sJ_ v2, sS_, .val fv2, sJ_ v3, sS_, .val fv3, .val cv1, .val cv2, .val cv3, sR_ ax, sI_ (1 : Int32), sI_ h2, sI_ fp2, sJ_ fst2, sS_, sI_ h3, sI_ (1 : Int32), sU_, sU_]) rfl ?_
            refine XS.iload X_1.here hx rfl (hb hby at_635) rfl ?_
            refine XS.ifYes X_1.here hx rfl (pc0 := 637) (pc' := 644) rfl (hb hby at_637) rfl (XT.i0_eq_t c_12) (by decide) (by decide) ?_
            refine XS.iload X_1.here hx rfl (hb hby at_644) rfl ?_
            refine XS.ifYes X_1.here hx rfl (pc0 := 646) (pc' := 653) rfl (hb hby at_646) rfl (XT.i0_eq_t c_13) (by decide) (by decide) ?_
            show Steps p.tables e below (T_1.setTop (mkF m 653 #[sI_ fl, sJ_ e1, sS_, sJ_ e2, sS_, sJ_ e3, sS_, sJ_ f2, sS_, sJ_ f3, sS_, sI_ p1, sI_ hf1, sI_ p2, sI_ s2b, sI_ s2t, sI_ hf2, sI_ x2, sI_ p3, sI_ s3b, sI_ s3t, sI_ hf3, sI_ x3, sI_ (0 : Int32), sI_ b2, sI_ b3, sJ_ (0 : Int64), sS_, sJ_ t2, sS_, sJ_ t3, sS_, .val fv1, sJ_ v2, sS_, .val fv2, sJ_ v3, sS_, .val fv3, .val cv1, .val cv2, .val cv3, sR_ ax, sI_ (1 : Int32), sI_ h2, sI_ fp2, sJ_ fst2, sS_, sI_ h3, sI_ (1 : Int32), sU_, sU_] [])) t
            refine XS.lload X_1.here hx rfl (hb hby at_653) rfl ?_
            refine XS.lstore X_1.here hx rfl (hb hby at_655) rfl (l' := #[sI_ fl, sJ_ e1, sS_, sJ_ e2, sS_, sJ_ e3, sS_, sJ_ f2, sS_, sJ_ f3, sS_, sI_ p1, sI_ hf1, sI_ p2, sI_ s2b, sI_ s2t, sI_ hf2, sI_ x2, sI_ p3, sI_ s3b, sI_ s3t, sI_ hf3, sI_ x3, sI_ (0 : Int32), sI_ b2, sI_ b3, sJ_ (0 : Int64), sS_, sJ_ t2, sS_, sJ_ t3, sS_, .val fv1, sJ_ v2, sS_, .val fv2, sJ_ v3, sS_, .val fv3, .val cv1, .val cv2, .val cv3, sR_ ax, sI_ (1 : Int32), sI_ h2, sI_ fp2, sJ_ fst2, sS_, sI_ h3, sI_ (1 : Int32), sJ_ e3, sS_]) rfl ?_
            refine XS.iload X_1.here hx rfl (hb hby at_657) rfl ?_
            refine XS.ifNo X_1.here hx rfl (hb hby at_659) rfl (XT.i0_eq_f (by decide)) ?_
            refine XS.aload X_1.here hx rfl (hb hby at_662) rfl rfl ?_
            exact kt
          obtain ⟨v_21, T_21, L_21, X_21, q_21, st_21⟩ := callVirtual X_1 hx hZ (y := (⟨"com/example/dead_letter_replay/deadletterreplay/queue/Carries", "floor", "()Ljava/lang/Long;"⟩ : MethodName)) (z := (⟨"com/example/dead_letter_replay/deadletterreplay/queue/Carries", "floor", "()Ljava/lang/Long;"⟩ : MethodName)) (W := 0) hown (wdOf hw 9 rfl) (wdOf hw 10 rfl) (notFace_of_selects (args := #[]) (mvT hZ (wdOf hw 12 rfl))) (wdOf hw 12 rfl) (wdOf hw 11 rfl) (wdOf hw 2 rfl) (wdOf hw 13 rfl) (by decide) (rm_floor l Z a0 hw [] ax d3 (OwnFst (OwnFst (OwnFst none d1) d2) d3) none hx_1 T_1.heap n0 y_11 S_1 (by rw [if_neg (fun q => ch (E3.mp q))])) (by decide) (by decide) (by decide) (by decide) (rfl : T_1.heap = T_1.heap) f_10 (g := (mkF m 664 #[sI_ fl, sJ_ e1, sS_, sJ_ e2, sS_, sJ_ e3, sS_, sJ_ f2, sS_, sJ_ f3, sS_, sI_ p1, sI_ hf1, sI_ p2, sI_ s2b, sI_ s2t, sI_ hf2, sI_ x2, sI_ p3, sI_ s3b, sI_ s3t, sI_ hf3, sI_ x3, sI_ (0 : Int32), sI_ b2, sI_ b3, sJ_ (0 : Int64), sS_, sJ_ t2, sS_, sJ_ t3, sS_, .val fv1, sJ_ v2, sS_, .val fv2, sJ_ v3, sS_, .val fv3, .val cv1, .val cv2, .val cv3, sR_ ax, sI_ (1 : Int32), sI_ h2, sI_ fp2, sJ_ fst2, sS_, sI_ h3, sI_ (1 : Int32), sJ_ e3, sS_] [(.ref ax)])) rfl (by rw [hml]; rfl) (argsL := []) (rest := []) (lenOf pd_5 rfl) rfl rfl (Nat.le_refl _) (hb hby at_664)
          obtain ⟨ow_21, rfl, n_21, K_21, W_21⟩ := q_21
          have N_21 := Fr.app N_1 n_21
          refine Goes.go (U' := (T_21.setTop (mkF m 667 #[sI_ fl, sJ_ e1, sS_, sJ_ e2, sS_, sJ_ e3, sS_, sJ_ f2, sS_, sJ_ f3, sS_, sI_ p1, sI_ hf1, sI_ p2, sI_ s2b, sI_ s2t, sI_ hf2, sI_ x2, sI_ p3, sI_ s3b, sI_ s3t, sI_ hf3, sI_ x3, sI_ (0 : Int32), sI_ b2, sI_ b3, sJ_ (0 : Int64), sS_, sJ_ t2, sS_, sJ_ t3, sS_, .val fv1, sJ_ v2, sS_, .val fv2, sJ_ v3, sS_, .val fv3, .val cv1, .val cv2, .val cv3, sR_ ax, sI_ (1 : Int32), sI_ h2, sI_ fp2, sJ_ fst2, sS_, sI_ h3, sI_ (1 : Int32), sJ_ e3, sS_] [ow_21]))) st_21 ?_
          refine Goes.go (U' := (T_21.setTop (mkF m 684 #[sI_ fl, sJ_ e1, sS_, sJ_ e2, sS_, sJ_ e3, sS_, sJ_ f2, sS_, sJ_ f3, sS_, sI_ p1, sI_ hf1, sI_ p2, sI_ s2b, sI_ s2t, sI_ hf2, sI_ x2, sI_ p3, sI_ s3b, sI_ s3t, sI_ hf3, sI_ x3, sI_ (0 : Int32), sI_ b2, sI_ b3, sJ_ (0 : Int64), sS_, sJ_ t2, sS_, sJ_ t3, sS_, .val fv1, sJ_ v2, sS_, .val fv2, sJ_ v3, sS_, .val fv3, .val cv1, .val cv2, .val cv3, sR_ ax, sI_ (1 : Int32), sI_ h2, sI_ fp2, sJ_ fst2, sS_, sI_ h3, sI_ (1 : Int32), sJ_ e3, sS_] [(.long e3), (.int (1 : Int32)), ow_21]))) (fun t kt => ?_) ?_
          · skip
            refine XS.iload X_21.here hx rfl (hb hby at_667) rfl ?_
            refine XS.ifYes X_21.here hx rfl (pc0 := 669) (pc' := 677) rfl (hb hby at_669) rfl (XT.i0_ne_t ch) (by decide) (by decide) ?_
            refine XS.iconst X_21.here hx rfl (hb hby at_677) ?_
            refine XS.goto X_21.here hx rfl (pc0 := 678) (pc' := 682) rfl (hb hby at_678) (by decide) (by decide) ?_
            refine XS.lload X_21.here hx rfl (hb hby at_682) rfl ?_
            exact kt
          obtain ⟨v_22, T_22, L_22, X_22, q_22, st_22⟩ := callStatic X_21 hx hZ (y := (⟨"com/example/dead_letter_replay/deadletterreplay/queue/CarriesFloorPinLaw", "is", "(Ljava/lang/Long;ZJ)Z"⟩ : MethodName)) (W := 0) hown (wdOf hw 29 rfl) (wdOf hw 30 rfl) (wdOf hw 31 rfl) (wdOf hw 32 rfl) (by decide) (rm_is l Z a0 hw [] ow_21 (1 : Int32) e3 none T_1.heap n0 y_11 W_21 (by simp) (by simp)) (by decide) (by decide) (by decide) (by decide) K_21 (g := (mkF m 684 #[sI_ fl, sJ_ e1, sS_, sJ_ e2, sS_, sJ_ e3, sS_, sJ_ f2, sS_, sJ_ f3, sS_, sI_ p1, sI_ hf1, sI_ p2, sI_ s2b, sI_ s2t, sI_ hf2, sI_ x2, sI_ p3, sI_ s3b, sI_ s3t, sI_ hf3, sI_ x3, sI_ (0 : Int32), sI_ b2, sI_ b3, sJ_ (0 : Int64), sS_, sJ_ t2, sS_, sJ_ t3, sS_, .val fv1, sJ_ v2, sS_, .val fv2, sJ_ v3, sS_, .val fv3, .val cv1, .val cv2, .val cv3, sR_ ax, sI_ (1 : Int32), sI_ h2, sI_ fp2, sJ_ fst2, sS_, sI_ h3, sI_ (1 : Int32), sJ_ e3, sS_] [(.long e3), (.int (1 : Int32)), ow_21])) rfl (by rw [hml]; rfl) (argsL := [ow_21, (.int (1 : Int32)), (.long e3)]) (rest := []) (lenOf pd_10 rfl) rfl rfl (Nat.le_refl _) (hb hby at_684)
          obtain ⟨rfl, n_22, K_22⟩ := q_22
          have N_22 := Fr.app N_21 n_22
          refine Goes.go (U' := (T_22.setTop (mkF m 687 #[sI_ fl, sJ_ e1, sS_, sJ_ e2, sS_, sJ_ e3, sS_, sJ_ f2, sS_, sJ_ f3, sS_, sI_ p1, sI_ hf1, sI_ p2, sI_ s2b, sI_ s2t, sI_ hf2, sI_ x2, sI_ p3, sI_ s3b, sI_ s3t, sI_ hf3, sI_ x3, sI_ (0 : Int32), sI_ b2, sI_ b3, sJ_ (0 : Int64), sS_, sJ_ t2, sS_, sJ_ t3, sS_, .val fv1, sJ_ v2, sS_, .val fv2, sJ_ v3, sS_, .val fv3, .val cv1, .val cv2, .val cv3, sR_ ax, sI_ (1 : Int32), sI_ h2, sI_ fp2, sJ_ fst2, sS_, sI_ h3, sI_ (1 : Int32), sJ_ e3, sS_] [(.int (1 : Int32))]))) st_22 ?_
          refine Goes.go (U' := (T_22.setTop (mkF m 699 #[sI_ fl, sJ_ e1, sS_, sJ_ e2, sS_, sJ_ e3, sS_, sJ_ f2, sS_, sJ_ f3, sS_, sI_ p1, sI_ hf1, sI_ p2, sI_ s2b, sI_ s2t, sI_ hf2, sI_ x2, sI_ p3, sI_ s3b, sI_ s3t, sI_ hf3, sI_ x3, sI_ (0 : Int32), sI_ b2, sI_ b3, sJ_ (0 : Int64), sS_, sJ_ t2, sS_, sJ_ t3, sS_, .val fv1, sJ_ v2, sS_, .val fv2, sJ_ v3, sS_, .val fv3, .val cv1, .val cv2, .val cv3, sR_ ax, sI_ (1 : Int32), sI_ h2, sI_ fp2, sJ_ fst2, sS_, sI_ h3, sI_ (1 : Int32), sJ_ e3, sS_] [(.int (1 : Int32))]))) (fun t kt => ?_) ?_
          · skip
            refine XS.ifNo X_22.here hx rfl (hb hby at_687) rfl (XT.i0_eq_f (by decide)) ?_
            refine XS.iconst X_22.here hx rfl (hb hby at_690) ?_
            refine XS.goto X_22.here hx rfl (pc0 := 691) (pc' := 695) rfl (hb hby at_691) (by decide) (by decide) ?_
            refine XS.istore X_22.here hx rfl (hb hby at_695) rfl (l' := #[sI_ fl, sJ_ e1, sS_, sJ_ e2, sS_, sJ_ e3, sS_, sJ_ f2, sS_, sJ_ f3, sS_, sI_ p1, sI_ hf1, sI_ p2, sI_ s2b, sI_ s2t, sI_ hf2, sI_ x2, sI_ p3, sI_ s3b, sI_ s3t, sI_ hf3, sI_ x3, sI_ (0 : Int32), sI_ b2, sI_ b3, sJ_ (0 : Int64), sS_, sJ_ t2, sS_, sJ_ t3, sS_, .val fv1, sJ_ v2, sS_, .val fv2, sJ_ v3, sS_, .val fv3, .val cv1, .val cv2, .val cv3, sR_ ax, sI_ (1 : Int32), sI_ h2, sI_ fp2, sJ_ fst2, sS_, sI_ h3, sI_ (1 : Int32), sJ_ e3, sS_]) rfl ?_
            refine XS.iload X_22.here hx rfl (hb hby at_697) rfl ?_
            exact kt
          refine Goes.retB X_22 hx hlk hret (hb hby at_699) (by decide) (by decide) ?_
          try rw [K_22]
          exact ⟨rfl, N_22⟩
    · -- not p2 = 0
      have hfo : OwnFst (OwnFst (OwnFst none d1) d2) d3 = (some e2) := by rw [hD1.1 c_12, hD2.2 c_13]; rfl
      by_cases ch : h3 = 0
      · -- h3
        refine Goes.go (U' := (T_1.setTop (mkF m 664 #[sI_ fl, sJ_ e1, sS_, sJ_ e2, sS_, sJ_ e3, sS_, sJ_ f2, sS_, sJ_ f3, sS_, sI_ p1, sI_ hf1, sI_ p2, sI_ s2b, sI_ s2t, sI_ hf2, sI_ x2, sI_ p3, sI_ s3b, sI_ s3t, sI_ hf3, sI_ x3, sI_ (0 : Int32), sI_ b2, sI_ b3, sJ_ (0 : Int64), sS_, sJ_ t2, sS_, sJ_ t3, sS_, .val fv1, sJ_ v2, sS_, .val fv2, sJ_ v3, sS_, .val fv3, .val cv1, .val cv2, .val cv3, sR_ ax, sI_ (1 : Int32), sI_ h2, sI_ fp2, sJ_ fst2, sS_, sI_ h3, sI_ (1 : Int32), sJ_ e2, sS_] [(.ref ax)]))) (fun t kt => ?_) ?_
        · skip
          refine XS.ifYes X_1.here hx rfl (pc0 := 620) (pc' := 628) rfl (hb hby at_620) rfl (XT.i0_ne_t c_13) (by decide) (by decide) ?_
          refine XS.iconst X_1.here hx rfl (hb hby at_628) ?_
          refine XS.goto X_1.here hx rfl (pc0 := 629) (pc' := 633) rfl (hb hby at_629) (by decide) (by decide) ?_
          refine XS.istore X_1.here hx rfl (hb hby at_633) rfl (l' := #[sI_ fl, sJ_ e1, sS_, sJ_ e2, sS_, sJ_ e3, sS_, sJ_ f2, sS_, sJ_ f3, sS_, sI_ p1, sI_ hf1, sI_ p2, sI_ s2b, sI_ s2t, sI_ hf2, sI_ x2, sI_ p3, sI_ s3b, sI_ s3t, sI_ hf3, sI_ x3, sI_ (0 : Int32), sI_ b2, sI_ b3, sJ_ (0 : Int64), sS_, sJ_ t2, sS_, sJ_ t3, sS_, .val fv1, sJ_ v2, sS_, .val fv2, sJ_ v3, sS_, .val fv3, .val cv1, .val cv2, .val cv3, sR_ ax, sI_ (1 : Int32), sI_ h2, sI_ fp2, sJ_ fst2, sS_, sI_ h3, sI_ (1 : Int32), sU_, sU_]) rfl ?_
          refine XS.iload X_1.here hx rfl (hb hby at_635) rfl ?_
          refine XS.ifYes X_1.here hx rfl (pc0 := 637) (pc' := 644) rfl (hb hby at_637) rfl (XT.i0_eq_t c_12) (by decide) (by decide) ?_
          refine XS.iload X_1.here hx rfl (hb hby at_644) rfl ?_
          refine XS.ifNo X_1.here hx rfl (hb hby at_646) rfl (XT.i0_eq_f c_13) ?_
          show Steps p.tables e below (T_1.setTop (mkF m 649 #[sI_ fl, sJ_ e1, sS_, sJ_ e2, sS_, sJ_ e3, sS_, sJ_ f2, sS_, sJ_ f3, sS_, sI_ p1, sI_ hf1, sI_ p2, sI_ s2b, sI_ s2t, sI_ hf2, sI_ x2, sI_ p3, sI_ s3b, sI_ s3t, sI_ hf3, sI_ x3, sI_ (0 : Int32), sI_ b2, sI_ b3, sJ_ (0 : Int64), sS_, sJ_ t2, sS_, sJ_ t3, sS_, .val fv1, sJ_ v2, sS_, .val fv2, sJ_ v3, sS_, .val fv3, .val cv1, .val cv2, .val cv3, sR_ ax, sI_ (1 : Int32), sI_ h2, sI_ fp2, sJ_ fst2, sS_, sI_ h3, sI_ (1 : Int32), sU_, sU_] [])) t
          refine XS.lloadN X_1.here hx rfl (hb hby at_649) rfl ?_
          refine XS.goto X_1.here hx rfl (pc0 := 650) (pc' := 655) rfl (hb hby at_650) (by decide) (by decide) ?_
          refine XS.lstore X_1.here hx rfl (hb hby at_655) rfl (l' := #[sI_ fl, sJ_ e1, sS_, sJ_ e2, sS_, sJ_ e3, sS_, sJ_ f2, sS_, sJ_ f3, sS_, sI_ p1, sI_ hf1, sI_ p2, sI_ s2b, sI_ s2t, sI_ hf2, sI_ x2, sI_ p3, sI_ s3b, sI_ s3t, sI_ hf3, sI_ x3, sI_ (0 : Int32), sI_ b2, sI_ b3, sJ_ (0 : Int64), sS_, sJ_ t2, sS_, sJ_ t3, sS_, .val fv1, sJ_ v2, sS_, .val fv2, sJ_ v3, sS_, .val fv3, .val cv1, .val cv2, .val cv3, sR_ ax, sI_ (1 : Int32), sI_ h2, sI_ fp2, sJ_ fst2, sS_, sI_ h3, sI_ (1 : Int32), sJ_ e2, sS_]) rfl ?_
          refine XS.iload X_1.here hx rfl (hb hby at_657) rfl ?_
          refine XS.ifNo X_1.here hx rfl (hb hby at_659) rfl (XT.i0_eq_f (by decide)) ?_
          refine XS.aload X_1.here hx rfl (hb hby at_662) rfl rfl ?_
          exact kt
        obtain ⟨v_23, T_23, L_23, X_23, q_23, st_23⟩ := callVirtual X_1 hx hZ (y := (⟨"com/example/dead_letter_replay/deadletterreplay/queue/Carries", "floor", "()Ljava/lang/Long;"⟩ : MethodName)) (z := (⟨"com/example/dead_letter_replay/deadletterreplay/queue/Carries", "floor", "()Ljava/lang/Long;"⟩ : MethodName)) (W := 0) hown (wdOf hw 9 rfl) (wdOf hw 10 rfl) (notFace_of_selects (args := #[]) (mvT hZ (wdOf hw 12 rfl))) (wdOf hw 12 rfl) (wdOf hw 11 rfl) (wdOf hw 2 rfl) (wdOf hw 13 rfl) (by decide) (rm_floor l Z a0 hw [] ax d3 (OwnFst (OwnFst (OwnFst none d1) d2) d3) (some e2) hx_1 T_1.heap n0 y_11 S_1 (by rw [if_pos (E3.mpr ch), hfo])) (by decide) (by decide) (by decide) (by decide) (rfl : T_1.heap = T_1.heap) f_10 (g := (mkF m 664 #[sI_ fl, sJ_ e1, sS_, sJ_ e2, sS_, sJ_ e3, sS_, sJ_ f2, sS_, sJ_ f3, sS_, sI_ p1, sI_ hf1, sI_ p2, sI_ s2b, sI_ s2t, sI_ hf2, sI_ x2, sI_ p3, sI_ s3b, sI_ s3t, sI_ hf3, sI_ x3, sI_ (0 : Int32), sI_ b2, sI_ b3, sJ_ (0 : Int64), sS_, sJ_ t2, sS_, sJ_ t3, sS_, .val fv1, sJ_ v2, sS_, .val fv2, sJ_ v3, sS_, .val fv3, .val cv1, .val cv2, .val cv3, sR_ ax, sI_ (1 : Int32), sI_ h2, sI_ fp2, sJ_ fst2, sS_, sI_ h3, sI_ (1 : Int32), sJ_ e2, sS_] [(.ref ax)])) rfl (by rw [hml]; rfl) (argsL := []) (rest := []) (lenOf pd_5 rfl) rfl rfl (Nat.le_refl _) (hb hby at_664)
        obtain ⟨ow_23, rfl, n_23, K_23, W_23⟩ := q_23
        have N_23 := Fr.app N_1 n_23
        refine Goes.go (U' := (T_23.setTop (mkF m 667 #[sI_ fl, sJ_ e1, sS_, sJ_ e2, sS_, sJ_ e3, sS_, sJ_ f2, sS_, sJ_ f3, sS_, sI_ p1, sI_ hf1, sI_ p2, sI_ s2b, sI_ s2t, sI_ hf2, sI_ x2, sI_ p3, sI_ s3b, sI_ s3t, sI_ hf3, sI_ x3, sI_ (0 : Int32), sI_ b2, sI_ b3, sJ_ (0 : Int64), sS_, sJ_ t2, sS_, sJ_ t3, sS_, .val fv1, sJ_ v2, sS_, .val fv2, sJ_ v3, sS_, .val fv3, .val cv1, .val cv2, .val cv3, sR_ ax, sI_ (1 : Int32), sI_ h2, sI_ fp2, sJ_ fst2, sS_, sI_ h3, sI_ (1 : Int32), sJ_ e2, sS_] [ow_23]))) st_23 ?_
        refine Goes.go (U' := (T_23.setTop (mkF m 684 #[sI_ fl, sJ_ e1, sS_, sJ_ e2, sS_, sJ_ e3, sS_, sJ_ f2, sS_, sJ_ f3, sS_, sI_ p1, sI_ hf1, sI_ p2, sI_ s2b, sI_ s2t, sI_ hf2, sI_ x2, sI_ p3, sI_ s3b, sI_ s3t, sI_ hf3, sI_ x3, sI_ (0 : Int32), sI_ b2, sI_ b3, sJ_ (0 : Int64), sS_, sJ_ t2, sS_, sJ_ t3, sS_, .val fv1, sJ_ v2, sS_, .val fv2, sJ_ v3, sS_, .val fv3, .val cv1, .val cv2, .val cv3, sR_ ax, sI_ (1 : Int32), sI_ h2, sI_ fp2, sJ_ fst2, sS_, sI_ h3, sI_ (1 : Int32), sJ_ e2, sS_] [(.long e2), (.int (0 : Int32)), ow_23]))) (fun t kt => ?_) ?_
        · skip
          refine XS.iload X_23.here hx rfl (hb hby at_667) rfl ?_
          refine XS.ifNo X_23.here hx rfl (hb hby at_669) rfl (XT.i0_ne_f ch) ?_
          refine XS.iload X_23.here hx rfl (hb hby at_672) rfl ?_
          refine XS.ifYes X_23.here hx rfl (pc0 := 674) (pc' := 681) rfl (hb hby at_674) rfl (XT.i0_ne_t (by decide)) (by decide) (by decide) ?_
          refine XS.iconst X_23.here hx rfl (hb hby at_681) ?_
          refine XS.lload X_23.here hx rfl (hb hby at_682) rfl ?_
          exact kt
        obtain ⟨v_24, T_24, L_24, X_24, q_24, st_24⟩ := callStatic X_23 hx hZ (y := (⟨"com/example/dead_letter_replay/deadletterreplay/queue/CarriesFloorPinLaw", "is", "(Ljava/lang/Long;ZJ)Z"⟩ : MethodName)) (W := 0) hown (wdOf hw 29 rfl) (wdOf hw 30 rfl) (wdOf hw 31 rfl) (wdOf hw 32 rfl) (by decide) (rm_is l Z a0 hw [] ow_23 (0 : Int32) e2 (some e2) T_1.heap n0 y_11 W_23 (by simp) (by simp)) (by decide) (by decide) (by decide) (by decide) K_23 (g := (mkF m 684 #[sI_ fl, sJ_ e1, sS_, sJ_ e2, sS_, sJ_ e3, sS_, sJ_ f2, sS_, sJ_ f3, sS_, sI_ p1, sI_ hf1, sI_ p2, sI_ s2b, sI_ s2t, sI_ hf2, sI_ x2, sI_ p3, sI_ s3b, sI_ s3t, sI_ hf3, sI_ x3, sI_ (0 : Int32), sI_ b2, sI_ b3, sJ_ (0 : Int64), sS_, sJ_ t2, sS_, sJ_ t3, sS_, .val fv1, sJ_ v2, sS_, .val fv2, sJ_ v3, sS_, .val fv3, .val cv1, .val cv2, .val cv3, sR_ ax, sI_ (1 : Int32), sI_ h2, sI_ fp2, sJ_ fst2, sS_, sI_ h3, sI_ (1 : Int32), sJ_ e2, sS_] [(.long e2), (.int (0 : Int32)), ow_23])) rfl (by rw [hml]; rfl) (argsL := [ow_23, (.int (0 : Int32)), (.long e2)]) (rest := []) (lenOf pd_10 rfl) rfl rfl (Nat.le_refl _) (hb hby at_684)
        obtain ⟨rfl, n_24, K_24⟩ := q_24
        have N_24 := Fr.app N_23 n_24
        refine Goes.go (U' := (T_24.setTop (mkF m 687 #[sI_ fl, sJ_ e1, sS_, sJ_ e2, sS_, sJ_ e3, sS_, sJ_ f2, sS_, sJ_ f3, sS_, sI_ p1, sI_ hf1, sI_ p2, sI_ s2b, sI_ s2t, sI_ hf2, sI_ x2, sI_ p3, sI_ s3b, sI_ s3t, sI_ hf3, sI_ x3, sI_ (0 : Int32), sI_ b2, sI_ b3, sJ_ (0 : Int64), sS_, sJ_ t2, sS_, sJ_ t3, sS_, .val fv1, sJ_ v2, sS_, .val fv2, sJ_ v3, sS_, .val fv3, .val cv1, .val cv2, .val cv3, sR_ ax, sI_ (1 : Int32), sI_ h2, sI_ fp2, sJ_ fst2, sS_, sI_ h3, sI_ (1 : Int32), sJ_ e2, sS_] [(.int (1 : Int32))]))) st_24 ?_
        refine Goes.go (U' := (T_24.setTop (mkF m 699 #[sI_ fl, sJ_ e1, sS_, sJ_ e2, sS_, sJ_ e3, sS_, sJ_ f2, sS_, sJ_ f3, sS_, sI_ p1, sI_ hf1, sI_ p2, sI_ s2b, sI_ s2t, sI_ hf2, sI_ x2, sI_ p3, sI_ s3b, sI_ s3t, sI_ hf3, sI_ x3, sI_ (0 : Int32), sI_ b2, sI_ b3, sJ_ (0 : Int64), sS_, sJ_ t2, sS_, sJ_ t3, sS_, .val fv1, sJ_ v2, sS_, .val fv2, sJ_ v3, sS_, .val fv3, .val cv1, .val cv2, .val cv3, sR_ ax, sI_ (1 : Int32), sI_ h2, sI_ fp2, sJ_ fst2, sS_, sI_ h3, sI_ (1 : Int32), sJ_ e2, sS_] [(.int (1 : Int32))]))) (fun t kt => ?_) ?_
        · skip
          refine XS.ifNo X_24.here hx rfl (hb hby at_687) rfl (XT.i0_eq_f (by decide)) ?_
          refine XS.iconst X_24.here hx rfl (hb hby at_690) ?_
          refine XS.goto X_24.here hx rfl (pc0 := 691) (pc' := 695) rfl (hb hby at_691) (by decide) (by decide) ?_
          refine XS.istore X_24.here hx rfl (hb hby at_695) rfl (l' := #[sI_ fl, sJ_ e1, sS_, sJ_ e2, sS_, sJ_ e3, sS_, sJ_ f2, sS_, sJ_ f3, sS_, sI_ p1, sI_ hf1, sI_ p2, sI_ s2b, sI_ s2t, sI_ hf2, sI_ x2, sI_ p3, sI_ s3b, sI_ s3t, sI_ hf3, sI_ x3, sI_ (0 : Int32), sI_ b2, sI_ b3, sJ_ (0 : Int64), sS_, sJ_ t2, sS_, sJ_ t3, sS_, .val fv1, sJ_ v2, sS_, .val fv2, sJ_ v3, sS_, .val fv3, .val cv1, .val cv2, .val cv3, sR_ ax, sI_ (1 : Int32), sI_ h2, sI_ fp2, sJ_ fst2, sS_, sI_ h3, sI_ (1 : Int32), sJ_ e2, sS_]) rfl ?_
          refine XS.iload X_24.here hx rfl (hb hby at_697) rfl ?_
          exact kt
        refine Goes.retB X_24 hx hlk hret (hb hby at_699) (by decide) (by decide) ?_
        try rw [K_24]
        exact ⟨rfl, N_24⟩
      · -- h3
        refine Goes.go (U' := (T_1.setTop (mkF m 664 #[sI_ fl, sJ_ e1, sS_, sJ_ e2, sS_, sJ_ e3, sS_, sJ_ f2, sS_, sJ_ f3, sS_, sI_ p1, sI_ hf1, sI_ p2, sI_ s2b, sI_ s2t, sI_ hf2, sI_ x2, sI_ p3, sI_ s3b, sI_ s3t, sI_ hf3, sI_ x3, sI_ (0 : Int32), sI_ b2, sI_ b3, sJ_ (0 : Int64), sS_, sJ_ t2, sS_, sJ_ t3, sS_, .val fv1, sJ_ v2, sS_, .val fv2, sJ_ v3, sS_, .val fv3, .val cv1, .val cv2, .val cv3, sR_ ax, sI_ (1 : Int32), sI_ h2, sI_ fp2, sJ_ fst2, sS_, sI_ h3, sI_ (1 : Int32), sJ_ e2, sS_] [(.ref ax)]))) (fun t kt => ?_) ?_
        · skip
          refine XS.ifYes X_1.here hx rfl (pc0 := 620) (pc' := 628) rfl (hb hby at_620) rfl (XT.i0_ne_t c_13) (by decide) (by decide) ?_
          refine XS.iconst X_1.here hx rfl (hb hby at_628) ?_
          refine XS.goto X_1.here hx rfl (pc0 := 629) (pc' := 633) rfl (hb hby at_629) (by decide) (by decide) ?_
          refine XS.istore X_1.here hx rfl (hb hby at_633) rfl (l' := #[sI_ fl, sJ_ e1, sS_, sJ_ e2, sS_, sJ_ e3, sS_, sJ_ f2, sS_, sJ_ f3, sS_, sI_ p1, sI_ hf1, sI_ p2, sI_ s2b, sI_ s2t, sI_ hf2, sI_ x2, sI_ p3, sI_ s3b, sI_ s3t, sI_ hf3, sI_ x3, sI_ (0 : Int32), sI_ b2, sI_ b3, sJ_ (0 : Int64), sS_, sJ_ t2, sS_, sJ_ t3, sS_, .val fv1, sJ_ v2, sS_, .val fv2, sJ_ v3, sS_, .val fv3, .val cv1, .val cv2, .val cv3, sR_ ax, sI_ (1 : Int32), sI_ h2, sI_ fp2, sJ_ fst2, sS_, sI_ h3, sI_ (1 : Int32), sU_, sU_]) rfl ?_
          refine XS.iload X_1.here hx rfl (hb hby at_635) rfl ?_
          refine XS.ifYes X_1.here hx rfl (pc0 := 637) (pc' := 644) rfl (hb hby at_637) rfl (XT.i0_eq_t c_12) (by decide) (by decide) ?_
          refine XS.iload X_1.here hx rfl (hb hby at_644) rfl ?_
          refine XS.ifNo X_1.here hx rfl (hb hby at_646) rfl (XT.i0_eq_f c_13) ?_
          show Steps p.tables e below (T_1.setTop (mkF m 649 #[sI_ fl, sJ_ e1, sS_, sJ_ e2, sS_, sJ_ e3, sS_, sJ_ f2, sS_, sJ_ f3, sS_, sI_ p1, sI_ hf1, sI_ p2, sI_ s2b, sI_ s2t, sI_ hf2, sI_ x2, sI_ p3, sI_ s3b, sI_ s3t, sI_ hf3, sI_ x3, sI_ (0 : Int32), sI_ b2, sI_ b3, sJ_ (0 : Int64), sS_, sJ_ t2, sS_, sJ_ t3, sS_, .val fv1, sJ_ v2, sS_, .val fv2, sJ_ v3, sS_, .val fv3, .val cv1, .val cv2, .val cv3, sR_ ax, sI_ (1 : Int32), sI_ h2, sI_ fp2, sJ_ fst2, sS_, sI_ h3, sI_ (1 : Int32), sU_, sU_] [])) t
          refine XS.lloadN X_1.here hx rfl (hb hby at_649) rfl ?_
          refine XS.goto X_1.here hx rfl (pc0 := 650) (pc' := 655) rfl (hb hby at_650) (by decide) (by decide) ?_
          refine XS.lstore X_1.here hx rfl (hb hby at_655) rfl (l' := #[sI_ fl, sJ_ e1, sS_, sJ_ e2, sS_, sJ_ e3, sS_, sJ_ f2, sS_, sJ_ f3, sS_, sI_ p1, sI_ hf1, sI_ p2, sI_ s2b, sI_ s2t, sI_ hf2, sI_ x2, sI_ p3, sI_ s3b, sI_ s3t, sI_ hf3, sI_ x3, sI_ (0 : Int32), sI_ b2, sI_ b3, sJ_ (0 : Int64), sS_, sJ_ t2, sS_, sJ_ t3, sS_, .val fv1, sJ_ v2, sS_, .val fv2, sJ_ v3, sS_, .val fv3, .val cv1, .val cv2, .val cv3, sR_ ax, sI_ (1 : Int32), sI_ h2, sI_ fp2, sJ_ fst2, sS_, sI_ h3, sI_ (1 : Int32), sJ_ e2, sS_]) rfl ?_
          refine XS.iload X_1.here hx rfl (hb hby at_657) rfl ?_
          refine XS.ifNo X_1.here hx rfl (hb hby at_659) rfl (XT.i0_eq_f (by decide)) ?_
          refine XS.aload X_1.here hx rfl (hb hby at_662) rfl rfl ?_
          exact kt
        obtain ⟨v_25, T_25, L_25, X_25, q_25, st_25⟩ := callVirtual X_1 hx hZ (y := (⟨"com/example/dead_letter_replay/deadletterreplay/queue/Carries", "floor", "()Ljava/lang/Long;"⟩ : MethodName)) (z := (⟨"com/example/dead_letter_replay/deadletterreplay/queue/Carries", "floor", "()Ljava/lang/Long;"⟩ : MethodName)) (W := 0) hown (wdOf hw 9 rfl) (wdOf hw 10 rfl) (notFace_of_selects (args := #[]) (mvT hZ (wdOf hw 12 rfl))) (wdOf hw 12 rfl) (wdOf hw 11 rfl) (wdOf hw 2 rfl) (wdOf hw 13 rfl) (by decide) (rm_floor l Z a0 hw [] ax d3 (OwnFst (OwnFst (OwnFst none d1) d2) d3) none hx_1 T_1.heap n0 y_11 S_1 (by rw [if_neg (fun q => ch (E3.mp q))])) (by decide) (by decide) (by decide) (by decide) (rfl : T_1.heap = T_1.heap) f_10 (g := (mkF m 664 #[sI_ fl, sJ_ e1, sS_, sJ_ e2, sS_, sJ_ e3, sS_, sJ_ f2, sS_, sJ_ f3, sS_, sI_ p1, sI_ hf1, sI_ p2, sI_ s2b, sI_ s2t, sI_ hf2, sI_ x2, sI_ p3, sI_ s3b, sI_ s3t, sI_ hf3, sI_ x3, sI_ (0 : Int32), sI_ b2, sI_ b3, sJ_ (0 : Int64), sS_, sJ_ t2, sS_, sJ_ t3, sS_, .val fv1, sJ_ v2, sS_, .val fv2, sJ_ v3, sS_, .val fv3, .val cv1, .val cv2, .val cv3, sR_ ax, sI_ (1 : Int32), sI_ h2, sI_ fp2, sJ_ fst2, sS_, sI_ h3, sI_ (1 : Int32), sJ_ e2, sS_] [(.ref ax)])) rfl (by rw [hml]; rfl) (argsL := []) (rest := []) (lenOf pd_5 rfl) rfl rfl (Nat.le_refl _) (hb hby at_664)
        obtain ⟨ow_25, rfl, n_25, K_25, W_25⟩ := q_25
        have N_25 := Fr.app N_1 n_25
        refine Goes.go (U' := (T_25.setTop (mkF m 667 #[sI_ fl, sJ_ e1, sS_, sJ_ e2, sS_, sJ_ e3, sS_, sJ_ f2, sS_, sJ_ f3, sS_, sI_ p1, sI_ hf1, sI_ p2, sI_ s2b, sI_ s2t, sI_ hf2, sI_ x2, sI_ p3, sI_ s3b, sI_ s3t, sI_ hf3, sI_ x3, sI_ (0 : Int32), sI_ b2, sI_ b3, sJ_ (0 : Int64), sS_, sJ_ t2, sS_, sJ_ t3, sS_, .val fv1, sJ_ v2, sS_, .val fv2, sJ_ v3, sS_, .val fv3, .val cv1, .val cv2, .val cv3, sR_ ax, sI_ (1 : Int32), sI_ h2, sI_ fp2, sJ_ fst2, sS_, sI_ h3, sI_ (1 : Int32), sJ_ e2, sS_] [ow_25]))) st_25 ?_
        refine Goes.go (U' := (T_25.setTop (mkF m 684 #[sI_ fl, sJ_ e1, sS_, sJ_ e2, sS_, sJ_ e3, sS_, sJ_ f2, sS_, sJ_ f3, sS_, sI_ p1, sI_ hf1, sI_ p2, sI_ s2b, sI_ s2t, sI_ hf2, sI_ x2, sI_ p3, sI_ s3b, sI_ s3t, sI_ hf3, sI_ x3, sI_ (0 : Int32), sI_ b2, sI_ b3, sJ_ (0 : Int64), sS_, sJ_ t2, sS_, sJ_ t3, sS_, .val fv1, sJ_ v2, sS_, .val fv2, sJ_ v3, sS_, .val fv3, .val cv1, .val cv2, .val cv3, sR_ ax, sI_ (1 : Int32), sI_ h2, sI_ fp2, sJ_ fst2, sS_, sI_ h3, sI_ (1 : Int32), sJ_ e2, sS_] [(.long e2), (.int (1 : Int32)), ow_25]))) (fun t kt => ?_) ?_
        · skip
          refine XS.iload X_25.here hx rfl (hb hby at_667) rfl ?_
          refine XS.ifYes X_25.here hx rfl (pc0 := 669) (pc' := 677) rfl (hb hby at_669) rfl (XT.i0_ne_t ch) (by decide) (by decide) ?_
          refine XS.iconst X_25.here hx rfl (hb hby at_677) ?_
          refine XS.goto X_25.here hx rfl (pc0 := 678) (pc' := 682) rfl (hb hby at_678) (by decide) (by decide) ?_
          refine XS.lload X_25.here hx rfl (hb hby at_682) rfl ?_
          exact kt
        obtain ⟨v_26, T_26, L_26, X_26, q_26, st_26⟩ := callStatic X_25 hx hZ (y := (⟨"com/example/dead_letter_replay/deadletterreplay/queue/CarriesFloorPinLaw", "is", "(Ljava/lang/Long;ZJ)Z"⟩ : MethodName)) (W := 0) hown (wdOf hw 29 rfl) (wdOf hw 30 rfl) (wdOf hw 31 rfl) (wdOf hw 32 rfl) (by decide) (rm_is l Z a0 hw [] ow_25 (1 : Int32) e2 none T_1.heap n0 y_11 W_25 (by simp) (by simp)) (by decide) (by decide) (by decide) (by decide) K_25 (g := (mkF m 684 #[sI_ fl, sJ_ e1, sS_, sJ_ e2, sS_, sJ_ e3, sS_, sJ_ f2, sS_, sJ_ f3, sS_, sI_ p1, sI_ hf1, sI_ p2, sI_ s2b, sI_ s2t, sI_ hf2, sI_ x2, sI_ p3, sI_ s3b, sI_ s3t, sI_ hf3, sI_ x3, sI_ (0 : Int32), sI_ b2, sI_ b3, sJ_ (0 : Int64), sS_, sJ_ t2, sS_, sJ_ t3, sS_, .val fv1, sJ_ v2, sS_, .val fv2, sJ_ v3, sS_, .val fv3, .val cv1, .val cv2, .val cv3, sR_ ax, sI_ (1 : Int32), sI_ h2, sI_ fp2, sJ_ fst2, sS_, sI_ h3, sI_ (1 : Int32), sJ_ e2, sS_] [(.long e2), (.int (1 : Int32)), ow_25])) rfl (by rw [hml]; rfl) (argsL := [ow_25, (.int (1 : Int32)), (.long e2)]) (rest := []) (lenOf pd_10 rfl) rfl rfl (Nat.le_refl _) (hb hby at_684)
        obtain ⟨rfl, n_26, K_26⟩ := q_26
        have N_26 := Fr.app N_25 n_26
        refine Goes.go (U' := (T_26.setTop (mkF m 687 #[sI_ fl, sJ_ e1, sS_, sJ_ e2, sS_, sJ_ e3, sS_, sJ_ f2, sS_, sJ_ f3, sS_, sI_ p1, sI_ hf1, sI_ p2, sI_ s2b, sI_ s2t, sI_ hf2, sI_ x2, sI_ p3, sI_ s3b, sI_ s3t, sI_ hf3, sI_ x3, sI_ (0 : Int32), sI_ b2, sI_ b3, sJ_ (0 : Int64), sS_, sJ_ t2, sS_, sJ_ t3, sS_, .val fv1, sJ_ v2, sS_, .val fv2, sJ_ v3, sS_, .val fv3, .val cv1, .val cv2, .val cv3, sR_ ax, sI_ (1 : Int32), sI_ h2, sI_ fp2, sJ_ fst2, sS_, sI_ h3, sI_ (1 : Int32), sJ_ e2, sS_] [(.int (1 : Int32))]))) st_26 ?_
        refine Goes.go (U' := (T_26.setTop (mkF m 699 #[sI_ fl, sJ_ e1, sS_, sJ_ e2, sS_, sJ_ e3, sS_, sJ_ f2, sS_, sJ_ f3, sS_, sI_ p1, sI_ hf1, sI_ p2, sI_ s2b, sI_ s2t, sI_ hf2, sI_ x2, sI_ p3, sI_ s3b, sI_ s3t, sI_ hf3, sI_ x3, sI_ (0 : Int32), sI_ b2, sI_ b3, sJ_ (0 : Int64), sS_, sJ_ t2, sS_, sJ_ t3, sS_, .val fv1, sJ_ v2, sS_, .val fv2, sJ_ v3, sS_, .val fv3, .val cv1, .val cv2, .val cv3, sR_ ax, sI_ (1 : Int32), sI_ h2, sI_ fp2, sJ_ fst2, sS_, sI_ h3, sI_ (1 : Int32), sJ_ e2, sS_] [(.int (1 : Int32))]))) (fun t kt => ?_) ?_
        · skip
          refine XS.ifNo X_26.here hx rfl (hb hby at_687) rfl (XT.i0_eq_f (by decide)) ?_
          refine XS.iconst X_26.here hx rfl (hb hby at_690) ?_
          refine XS.goto X_26.here hx rfl (pc0 := 691) (pc' := 695) rfl (hb hby at_691) (by decide) (by decide) ?_
          refine XS.istore X_26.here hx rfl (hb hby at_695) rfl (l' := #[sI_ fl, sJ_ e1, sS_, sJ_ e2, sS_, sJ_ e3, sS_, sJ_ f2, sS_, sJ_ f3, sS_, sI_ p1, sI_ hf1, sI_ p2, sI_ s2b, sI_ s2t, sI_ hf2, sI_ x2, sI_ p3, sI_ s3b, sI_ s3t, sI_ hf3, sI_ x3, sI_ (0 : Int32), sI_ b2, sI_ b3, sJ_ (0 : Int64), sS_, sJ_ t2, sS_, sJ_ t3, sS_, .val fv1, sJ_ v2, sS_, .val fv2, sJ_ v3, sS_, .val fv3, .val cv1, .val cv2, .val cv3, sR_ ax, sI_ (1 : Int32), sI_ h2, sI_ fp2, sJ_ fst2, sS_, sI_ h3, sI_ (1 : Int32), sJ_ e2, sS_]) rfl ?_
          refine XS.iload X_26.here hx rfl (hb hby at_697) rfl ?_
          exact kt
        refine Goes.retB X_26 hx hlk hret (hb hby at_699) (by decide) (by decide) ?_
        try rw [K_26]
        exact ⟨rfl, N_26⟩
  · -- not p1 = 0
    have hfo : OwnFst (OwnFst (OwnFst none d1) d2) d3 = (some e1) := by rw [hD1.2 c_12]; rfl
    by_cases ch : h3 = 0
    · -- h3
      refine Goes.go (U' := (T_1.setTop (mkF m 664 #[sI_ fl, sJ_ e1, sS_, sJ_ e2, sS_, sJ_ e3, sS_, sJ_ f2, sS_, sJ_ f3, sS_, sI_ p1, sI_ hf1, sI_ p2, sI_ s2b, sI_ s2t, sI_ hf2, sI_ x2, sI_ p3, sI_ s3b, sI_ s3t, sI_ hf3, sI_ x3, sI_ (0 : Int32), sI_ b2, sI_ b3, sJ_ (0 : Int64), sS_, sJ_ t2, sS_, sJ_ t3, sS_, .val fv1, sJ_ v2, sS_, .val fv2, sJ_ v3, sS_, .val fv3, .val cv1, .val cv2, .val cv3, sR_ ax, sI_ (1 : Int32), sI_ h2, sI_ fp2, sJ_ fst2, sS_, sI_ h3, sI_ (1 : Int32), sJ_ e1, sS_] [(.ref ax)]))) (fun t kt => ?_) ?_
      · skip
        refine XS.ifYes X_1.here hx rfl (pc0 := 615) (pc' := 628) rfl (hb hby at_615) rfl (XT.i0_ne_t c_12) (by decide) (by decide) ?_
        refine XS.iconst X_1.here hx rfl (hb hby at_628) ?_
        refine XS.goto X_1.here hx rfl (pc0 := 629) (pc' := 633) rfl (hb hby at_629) (by decide) (by decide) ?_
        refine XS.istore X_1.here hx rfl (hb hby at_633) rfl (l' := #[sI_ fl, sJ_ e1, sS_, sJ_ e2, sS_, sJ_ e3, sS_, sJ_ f2, sS_, sJ_ f3, sS_, sI_ p1, sI_ hf1, sI_ p2, sI_ s2b, sI_ s2t, sI_ hf2, sI_ x2, sI_ p3, sI_ s3b, sI_ s3t, sI_ hf3, sI_ x3, sI_ (0 : Int32), sI_ b2, sI_ b3, sJ_ (0 : Int64), sS_, sJ_ t2, sS_, sJ_ t3, sS_, .val fv1, sJ_ v2, sS_, .val fv2, sJ_ v3, sS_, .val fv3, .val cv1, .val cv2, .val cv3, sR_ ax, sI_ (1 : Int32), sI_ h2, sI_ fp2, sJ_ fst2, sS_, sI_ h3, sI_ (1 : Int32), sU_, sU_]) rfl ?_
        refine XS.iload X_1.here hx rfl (hb hby at_635) rfl ?_
        refine XS.ifNo X_1.here hx rfl (hb hby at_637) rfl (XT.i0_eq_f c_12) ?_
        refine XS.lloadN X_1.here hx rfl (hb hby at_640) rfl ?_
        refine XS.goto X_1.here hx rfl (pc0 := 641) (pc' := 655) rfl (hb hby at_641) (by decide) (by decide) ?_
        show Steps p.tables e below (T_1.setTop (mkF m 655 #[sI_ fl, sJ_ e1, sS_, sJ_ e2, sS_, sJ_ e3, sS_, sJ_ f2, sS_, sJ_ f3, sS_, sI_ p1, sI_ hf1, sI_ p2, sI_ s2b, sI_ s2t, sI_ hf2, sI_ x2, sI_ p3, sI_ s3b, sI_ s3t, sI_ hf3, sI_ x3, sI_ (0 : Int32), sI_ b2, sI_ b3, sJ_ (0 : Int64), sS_, sJ_ t2, sS_, sJ_ t3, sS_, .val fv1, sJ_ v2, sS_, .val fv2, sJ_ v3, sS_, .val fv3, .val cv1, .val cv2, .val cv3, sR_ ax, sI_ (1 : Int32), sI_ h2, sI_ fp2, sJ_ fst2, sS_, sI_ h3, sI_ (1 : Int32), sU_, sU_] [(.long e1)])) t
        refine XS.lstore X_1.here hx rfl (hb hby at_655) rfl (l' := #[sI_ fl, sJ_ e1, sS_, sJ_ e2, sS_, sJ_ e3, sS_, sJ_ f2, sS_, sJ_ f3, sS_, sI_ p1, sI_ hf1, sI_ p2, sI_ s2b, sI_ s2t, sI_ hf2, sI_ x2, sI_ p3, sI_ s3b, sI_ s3t, sI_ hf3, sI_ x3, sI_ (0 : Int32), sI_ b2, sI_ b3, sJ_ (0 : Int64), sS_, sJ_ t2, sS_, sJ_ t3, sS_, .val fv1, sJ_ v2, sS_, .val fv2, sJ_ v3, sS_, .val fv3, .val cv1, .val cv2, .val cv3, sR_ ax, sI_ (1 : Int32), sI_ h2, sI_ fp2, sJ_ fst2, sS_, sI_ h3, sI_ (1 : Int32), sJ_ e1, sS_]) rfl ?_
        refine XS.iload X_1.here hx rfl (hb hby at_657) rfl ?_
        refine XS.ifNo X_1.here hx rfl (hb hby at_659) rfl (XT.i0_eq_f (by decide)) ?_
        refine XS.aload X_1.here hx rfl (hb hby at_662) rfl rfl ?_
        exact kt
      obtain ⟨v_27, T_27, L_27, X_27, q_27, st_27⟩ := callVirtual X_1 hx hZ (y := (⟨"com/example/dead_letter_replay/deadletterreplay/queue/Carries", "floor", "()Ljava/lang/Long;"⟩ : MethodName)) (z := (⟨"com/example/dead_letter_replay/deadletterreplay/queue/Carries", "floor", "()Ljava/lang/Long;"⟩ : MethodName)) (W := 0) hown (wdOf hw 9 rfl) (wdOf hw 10 rfl) (notFace_of_selects (args := #[]) (mvT hZ (wdOf hw 12 rfl))) (wdOf hw 12 rfl) (wdOf hw 11 rfl) (wdOf hw 2 rfl) (wdOf hw 13 rfl) (by decide) (rm_floor l Z a0 hw [] ax d3 (OwnFst (OwnFst (OwnFst none d1) d2) d3) (some e1) hx_1 T_1.heap n0 y_11 S_1 (by rw [if_pos (E3.mpr ch), hfo])) (by decide) (by decide) (by decide) (by decide) (rfl : T_1.heap = T_1.heap) f_10 (g := (mkF m 664 #[sI_ fl, sJ_ e1, sS_, sJ_ e2, sS_, sJ_ e3, sS_, sJ_ f2, sS_, sJ_ f3, sS_, sI_ p1, sI_ hf1, sI_ p2, sI_ s2b, sI_ s2t, sI_ hf2, sI_ x2, sI_ p3, sI_ s3b, sI_ s3t, sI_ hf3, sI_ x3, sI_ (0 : Int32), sI_ b2, sI_ b3, sJ_ (0 : Int64), sS_, sJ_ t2, sS_, sJ_ t3, sS_, .val fv1, sJ_ v2, sS_, .val fv2, sJ_ v3, sS_, .val fv3, .val cv1, .val cv2, .val cv3, sR_ ax, sI_ (1 : Int32), sI_ h2, sI_ fp2, sJ_ fst2, sS_, sI_ h3, sI_ (1 : Int32), sJ_ e1, sS_] [(.ref ax)])) rfl (by rw [hml]; rfl) (argsL := []) (rest := []) (lenOf pd_5 rfl) rfl rfl (Nat.le_refl _) (hb hby at_664)
      obtain ⟨ow_27, rfl, n_27, K_27, W_27⟩ := q_27
      have N_27 := Fr.app N_1 n_27
      refine Goes.go (U' := (T_27.setTop (mkF m 667 #[sI_ fl, sJ_ e1, sS_, sJ_ e2, sS_, sJ_ e3, sS_, sJ_ f2, sS_, sJ_ f3, sS_, sI_ p1, sI_ hf1, sI_ p2, sI_ s2b, sI_ s2t, sI_ hf2, sI_ x2, sI_ p3, sI_ s3b, sI_ s3t, sI_ hf3, sI_ x3, sI_ (0 : Int32), sI_ b2, sI_ b3, sJ_ (0 : Int64), sS_, sJ_ t2, sS_, sJ_ t3, sS_, .val fv1, sJ_ v2, sS_, .val fv2, sJ_ v3, sS_, .val fv3, .val cv1, .val cv2, .val cv3, sR_ ax, sI_ (1 : Int32), sI_ h2, sI_ fp2, sJ_ fst2, sS_, sI_ h3, sI_ (1 : Int32), sJ_ e1, sS_] [ow_27]))) st_27 ?_
      refine Goes.go (U' := (T_27.setTop (mkF m 684 #[sI_ fl, sJ_ e1, sS_, sJ_ e2, sS_, sJ_ e3, sS_, sJ_ f2, sS_, sJ_ f3, sS_, sI_ p1, sI_ hf1, sI_ p2, sI_ s2b, sI_ s2t, sI_ hf2, sI_ x2, sI_ p3, sI_ s3b, sI_ s3t, sI_ hf3, sI_ x3, sI_ (0 : Int32), sI_ b2, sI_ b3, sJ_ (0 : Int64), sS_, sJ_ t2, sS_, sJ_ t3, sS_, .val fv1, sJ_ v2, sS_, .val fv2, sJ_ v3, sS_, .val fv3, .val cv1, .val cv2, .val cv3, sR_ ax, sI_ (1 : Int32), sI_ h2, sI_ fp2, sJ_ fst2, sS_, sI_ h3, sI_ (1 : Int32), sJ_ e1, sS_] [(.long e1), (.int (0 : Int32)), ow_27]))) (fun t kt => ?_) ?_
      · skip
        refine XS.iload X_27.here hx rfl (hb hby at_667) rfl ?_
        refine XS.ifNo X_27.here hx rfl (hb hby at_669) rfl (XT.i0_ne_f ch) ?_
        refine XS.iload X_27.here hx rfl (hb hby at_672) rfl ?_
        refine XS.ifYes X_27.here hx rfl (pc0 := 674) (pc' := 681) rfl (hb hby at_674) rfl (XT.i0_ne_t (by decide)) (by decide) (by decide) ?_
        refine XS.iconst X_27.here hx rfl (hb hby at_681) ?_
        refine XS.lload X_27.here hx rfl (hb hby at_682) rfl ?_
        exact kt
      obtain ⟨v_28, T_28, L_28, X_28, q_28, st_28⟩ := callStatic X_27 hx hZ (y := (⟨"com/example/dead_letter_replay/deadletterreplay/queue/CarriesFloorPinLaw", "is", "(Ljava/lang/Long;ZJ)Z"⟩ : MethodName)) (W := 0) hown (wdOf hw 29 rfl) (wdOf hw 30 rfl) (wdOf hw 31 rfl) (wdOf hw 32 rfl) (by decide) (rm_is l Z a0 hw [] ow_27 (0 : Int32) e1 (some e1) T_1.heap n0 y_11 W_27 (by simp) (by simp)) (by decide) (by decide) (by decide) (by decide) K_27 (g := (mkF m 684 #[sI_ fl, sJ_ e1, sS_, sJ_ e2, sS_, sJ_ e3, sS_, sJ_ f2, sS_, sJ_ f3, sS_, sI_ p1, sI_ hf1, sI_ p2, sI_ s2b, sI_ s2t, sI_ hf2, sI_ x2, sI_ p3, sI_ s3b, sI_ s3t, sI_ hf3, sI_ x3, sI_ (0 : Int32), sI_ b2, sI_ b3, sJ_ (0 : Int64), sS_, sJ_ t2, sS_, sJ_ t3, sS_, .val fv1, sJ_ v2, sS_, .val fv2, sJ_ v3, sS_, .val fv3, .val cv1, .val cv2, .val cv3, sR_ ax, sI_ (1 : Int32), sI_ h2, sI_ fp2, sJ_ fst2, sS_, sI_ h3, sI_ (1 : Int32), sJ_ e1, sS_] [(.long e1), (.int (0 : Int32)), ow_27])) rfl (by rw [hml]; rfl) (argsL := [ow_27, (.int (0 : Int32)), (.long e1)]) (rest := []) (lenOf pd_10 rfl) rfl rfl (Nat.le_refl _) (hb hby at_684)
      obtain ⟨rfl, n_28, K_28⟩ := q_28
      have N_28 := Fr.app N_27 n_28
      refine Goes.go (U' := (T_28.setTop (mkF m 687 #[sI_ fl, sJ_ e1, sS_, sJ_ e2, sS_, sJ_ e3, sS_, sJ_ f2, sS_, sJ_ f3, sS_, sI_ p1, sI_ hf1, sI_ p2, sI_ s2b, sI_ s2t, sI_ hf2, sI_ x2, sI_ p3, sI_ s3b, sI_ s3t, sI_ hf3, sI_ x3, sI_ (0 : Int32), sI_ b2, sI_ b3, sJ_ (0 : Int64), sS_, sJ_ t2, sS_, sJ_ t3, sS_, .val fv1, sJ_ v2, sS_, .val fv2, sJ_ v3, sS_, .val fv3, .val cv1, .val cv2, .val cv3, sR_ ax, sI_ (1 : Int32), sI_ h2, sI_ fp2, sJ_ fst2, sS_, sI_ h3, sI_ (1 : Int32), sJ_ e1, sS_] [(.int (1 : Int32))]))) st_28 ?_
      refine Goes.go (U' := (T_28.setTop (mkF m 699 #[sI_ fl, sJ_ e1, sS_, sJ_ e2, sS_, sJ_ e3, sS_, sJ_ f2, sS_, sJ_ f3, sS_, sI_ p1, sI_ hf1, sI_ p2, sI_ s2b, sI_ s2t, sI_ hf2, sI_ x2, sI_ p3, sI_ s3b, sI_ s3t, sI_ hf3, sI_ x3, sI_ (0 : Int32), sI_ b2, sI_ b3, sJ_ (0 : Int64), sS_, sJ_ t2, sS_, sJ_ t3, sS_, .val fv1, sJ_ v2, sS_, .val fv2, sJ_ v3, sS_, .val fv3, .val cv1, .val cv2, .val cv3, sR_ ax, sI_ (1 : Int32), sI_ h2, sI_ fp2, sJ_ fst2, sS_, sI_ h3, sI_ (1 : Int32), sJ_ e1, sS_] [(.int (1 : Int32))]))) (fun t kt => ?_) ?_
      · skip
        refine XS.ifNo X_28.here hx rfl (hb hby at_687) rfl (XT.i0_eq_f (by decide)) ?_
        refine XS.iconst X_28.here hx rfl (hb hby at_690) ?_
        refine XS.goto X_28.here hx rfl (pc0 := 691) (pc' := 695) rfl (hb hby at_691) (by decide) (by decide) ?_
        refine XS.istore X_28.here hx rfl (hb hby at_695) rfl (l' := #[sI_ fl, sJ_ e1, sS_, sJ_ e2, sS_, sJ_ e3, sS_, sJ_ f2, sS_, sJ_ f3, sS_, sI_ p1, sI_ hf1, sI_ p2, sI_ s2b, sI_ s2t, sI_ hf2, sI_ x2, sI_ p3, sI_ s3b, sI_ s3t, sI_ hf3, sI_ x3, sI_ (0 : Int32), sI_ b2, sI_ b3, sJ_ (0 : Int64), sS_, sJ_ t2, sS_, sJ_ t3, sS_, .val fv1, sJ_ v2, sS_, .val fv2, sJ_ v3, sS_, .val fv3, .val cv1, .val cv2, .val cv3, sR_ ax, sI_ (1 : Int32), sI_ h2, sI_ fp2, sJ_ fst2, sS_, sI_ h3, sI_ (1 : Int32), sJ_ e1, sS_]) rfl ?_
        refine XS.iload X_28.here hx rfl (hb hby at_697) rfl ?_
        exact kt
      refine Goes.retB X_28 hx hlk hret (hb hby at_699) (by decide) (by decide) ?_
      try rw [K_28]
      exact ⟨rfl, N_28⟩
    · -- h3
      refine Goes.go (U' := (T_1.setTop (mkF m 664 #[sI_ fl, sJ_ e1, sS_, sJ_ e2, sS_, sJ_ e3, sS_, sJ_ f2, sS_, sJ_ f3, sS_, sI_ p1, sI_ hf1, sI_ p2, sI_ s2b, sI_ s2t, sI_ hf2, sI_ x2, sI_ p3, sI_ s3b, sI_ s3t, sI_ hf3, sI_ x3, sI_ (0 : Int32), sI_ b2, sI_ b3, sJ_ (0 : Int64), sS_, sJ_ t2, sS_, sJ_ t3, sS_, .val fv1, sJ_ v2, sS_, .val fv2, sJ_ v3, sS_, .val fv3, .val cv1, .val cv2, .val cv3, sR_ ax, sI_ (1 : Int32), sI_ h2, sI_ fp2, sJ_ fst2, sS_, sI_ h3, sI_ (1 : Int32), sJ_ e1, sS_] [(.ref ax)]))) (fun t kt => ?_) ?_
      · skip
        refine XS.ifYes X_1.here hx rfl (pc0 := 615) (pc' := 628) rfl (hb hby at_615) rfl (XT.i0_ne_t c_12) (by decide) (by decide) ?_
        refine XS.iconst X_1.here hx rfl (hb hby at_628) ?_
        refine XS.goto X_1.here hx rfl (pc0 := 629) (pc' := 633) rfl (hb hby at_629) (by decide) (by decide) ?_
        refine XS.istore X_1.here hx rfl (hb hby at_633) rfl (l' := #[sI_ fl, sJ_ e1, sS_, sJ_ e2, sS_, sJ_ e3, sS_, sJ_ f2, sS_, sJ_ f3, sS_, sI_ p1, sI_ hf1, sI_ p2, sI_ s2b, sI_ s2t, sI_ hf2, sI_ x2, sI_ p3, sI_ s3b, sI_ s3t, sI_ hf3, sI_ x3, sI_ (0 : Int32), sI_ b2, sI_ b3, sJ_ (0 : Int64), sS_, sJ_ t2, sS_, sJ_ t3, sS_, .val fv1, sJ_ v2, sS_, .val fv2, sJ_ v3, sS_, .val fv3, .val cv1, .val cv2, .val cv3, sR_ ax, sI_ (1 : Int32), sI_ h2, sI_ fp2, sJ_ fst2, sS_, sI_ h3, sI_ (1 : Int32), sU_, sU_]) rfl ?_
        refine XS.iload X_1.here hx rfl (hb hby at_635) rfl ?_
        refine XS.ifNo X_1.here hx rfl (hb hby at_637) rfl (XT.i0_eq_f c_12) ?_
        refine XS.lloadN X_1.here hx rfl (hb hby at_640) rfl ?_
        refine XS.goto X_1.here hx rfl (pc0 := 641) (pc' := 655) rfl (hb hby at_641) (by decide) (by decide) ?_
        show Steps p.tables e below (T_1.setTop (mkF m 655 #[sI_ fl, sJ_ e1, sS_, sJ_ e2, sS_, sJ_ e3, sS_, sJ_ f2, sS_, sJ_ f3, sS_, sI_ p1, sI_ hf1, sI_ p2, sI_ s2b, sI_ s2t, sI_ hf2, sI_ x2, sI_ p3, sI_ s3b, sI_ s3t, sI_ hf3, sI_ x3, sI_ (0 : Int32), sI_ b2, sI_ b3, sJ_ (0 : Int64), sS_, sJ_ t2, sS_, sJ_ t3, sS_, .val fv1, sJ_ v2, sS_, .val fv2, sJ_ v3, sS_, .val fv3, .val cv1, .val cv2, .val cv3, sR_ ax, sI_ (1 : Int32), sI_ h2, sI_ fp2, sJ_ fst2, sS_, sI_ h3, sI_ (1 : Int32), sU_, sU_] [(.long e1)])) t
        refine XS.lstore X_1.here hx rfl (hb hby at_655) rfl (l' := #[sI_ fl, sJ_ e1, sS_, sJ_ e2, sS_, sJ_ e3, sS_, sJ_ f2, sS_, sJ_ f3, sS_, sI_ p1, sI_ hf1, sI_ p2, sI_ s2b, sI_ s2t, sI_ hf2, sI_ x2, sI_ p3, sI_ s3b, sI_ s3t, sI_ hf3, sI_ x3, sI_ (0 : Int32), sI_ b2, sI_ b3, sJ_ (0 : Int64), sS_, sJ_ t2, sS_, sJ_ t3, sS_, .val fv1, sJ_ v2, sS_, .val fv2, sJ_ v3, sS_, .val fv3, .val cv1, .val cv2, .val cv3, sR_ ax, sI_ (1 : Int32), sI_ h2, sI_ fp2, sJ_ fst2, sS_, sI_ h3, sI_ (1 : Int32), sJ_ e1, sS_]) rfl ?_
        refine XS.iload X_1.here hx rfl (hb hby at_657) rfl ?_
        refine XS.ifNo X_1.here hx rfl (hb hby at_659) rfl (XT.i0_eq_f (by decide)) ?_
        refine XS.aload X_1.here hx rfl (hb hby at_662) rfl rfl ?_
        exact kt
      obtain ⟨v_29, T_29, L_29, X_29, q_29, st_29⟩ := callVirtual X_1 hx hZ (y := (⟨"com/example/dead_letter_replay/deadletterreplay/queue/Carries", "floor", "()Ljava/lang/Long;"⟩ : MethodName)) (z := (⟨"com/example/dead_letter_replay/deadletterreplay/queue/Carries", "floor", "()Ljava/lang/Long;"⟩ : MethodName)) (W := 0) hown (wdOf hw 9 rfl) (wdOf hw 10 rfl) (notFace_of_selects (args := #[]) (mvT hZ (wdOf hw 12 rfl))) (wdOf hw 12 rfl) (wdOf hw 11 rfl) (wdOf hw 2 rfl) (wdOf hw 13 rfl) (by decide) (rm_floor l Z a0 hw [] ax d3 (OwnFst (OwnFst (OwnFst none d1) d2) d3) none hx_1 T_1.heap n0 y_11 S_1 (by rw [if_neg (fun q => ch (E3.mp q))])) (by decide) (by decide) (by decide) (by decide) (rfl : T_1.heap = T_1.heap) f_10 (g := (mkF m 664 #[sI_ fl, sJ_ e1, sS_, sJ_ e2, sS_, sJ_ e3, sS_, sJ_ f2, sS_, sJ_ f3, sS_, sI_ p1, sI_ hf1, sI_ p2, sI_ s2b, sI_ s2t, sI_ hf2, sI_ x2, sI_ p3, sI_ s3b, sI_ s3t, sI_ hf3, sI_ x3, sI_ (0 : Int32), sI_ b2, sI_ b3, sJ_ (0 : Int64), sS_, sJ_ t2, sS_, sJ_ t3, sS_, .val fv1, sJ_ v2, sS_, .val fv2, sJ_ v3, sS_, .val fv3, .val cv1, .val cv2, .val cv3, sR_ ax, sI_ (1 : Int32), sI_ h2, sI_ fp2, sJ_ fst2, sS_, sI_ h3, sI_ (1 : Int32), sJ_ e1, sS_] [(.ref ax)])) rfl (by rw [hml]; rfl) (argsL := []) (rest := []) (lenOf pd_5 rfl) rfl rfl (Nat.le_refl _) (hb hby at_664)
      obtain ⟨ow_29, rfl, n_29, K_29, W_29⟩ := q_29
      have N_29 := Fr.app N_1 n_29
      refine Goes.go (U' := (T_29.setTop (mkF m 667 #[sI_ fl, sJ_ e1, sS_, sJ_ e2, sS_, sJ_ e3, sS_, sJ_ f2, sS_, sJ_ f3, sS_, sI_ p1, sI_ hf1, sI_ p2, sI_ s2b, sI_ s2t, sI_ hf2, sI_ x2, sI_ p3, sI_ s3b, sI_ s3t, sI_ hf3, sI_ x3, sI_ (0 : Int32), sI_ b2, sI_ b3, sJ_ (0 : Int64), sS_, sJ_ t2, sS_, sJ_ t3, sS_, .val fv1, sJ_ v2, sS_, .val fv2, sJ_ v3, sS_, .val fv3, .val cv1, .val cv2, .val cv3, sR_ ax, sI_ (1 : Int32), sI_ h2, sI_ fp2, sJ_ fst2, sS_, sI_ h3, sI_ (1 : Int32), sJ_ e1, sS_] [ow_29]))) st_29 ?_
      refine Goes.go (U' := (T_29.setTop (mkF m 684 #[sI_ fl, sJ_ e1, sS_, sJ_ e2, sS_, sJ_ e3, sS_, sJ_ f2, sS_, sJ_ f3, sS_, sI_ p1, sI_ hf1, sI_ p2, sI_ s2b, sI_ s2t, sI_ hf2, sI_ x2, sI_ p3, sI_ s3b, sI_ s3t, sI_ hf3, sI_ x3, sI_ (0 : Int32), sI_ b2, sI_ b3, sJ_ (0 : Int64), sS_, sJ_ t2, sS_, sJ_ t3, sS_, .val fv1, sJ_ v2, sS_, .val fv2, sJ_ v3, sS_, .val fv3, .val cv1, .val cv2, .val cv3, sR_ ax, sI_ (1 : Int32), sI_ h2, sI_ fp2, sJ_ fst2, sS_, sI_ h3, sI_ (1 : Int32), sJ_ e1, sS_] [(.long e1), (.int (1 : Int32)), ow_29]))) (fun t kt => ?_) ?_
      · skip
        refine XS.iload X_29.here hx rfl (hb hby at_667) rfl ?_
        refine XS.ifYes X_29.here hx rfl (pc0 := 669) (pc' := 677) rfl (hb hby at_669) rfl (XT.i0_ne_t ch) (by decide) (by decide) ?_
        refine XS.iconst X_29.here hx rfl (hb hby at_677) ?_
        refine XS.goto X_29.here hx rfl (pc0 := 678) (pc' := 682) rfl (hb hby at_678) (by decide) (by decide) ?_
        refine XS.lload X_29.here hx rfl (hb hby at_682) rfl ?_
        exact kt
      obtain ⟨v_30, T_30, L_30, X_30, q_30, st_30⟩ := callStatic X_29 hx hZ (y := (⟨"com/example/dead_letter_replay/deadletterreplay/queue/CarriesFloorPinLaw", "is", "(Ljava/lang/Long;ZJ)Z"⟩ : MethodName)) (W := 0) hown (wdOf hw 29 rfl) (wdOf hw 30 rfl) (wdOf hw 31 rfl) (wdOf hw 32 rfl) (by decide) (rm_is l Z a0 hw [] ow_29 (1 : Int32) e1 none T_1.heap n0 y_11 W_29 (by simp) (by simp)) (by decide) (by decide) (by decide) (by decide) K_29 (g := (mkF m 684 #[sI_ fl, sJ_ e1, sS_, sJ_ e2, sS_, sJ_ e3, sS_, sJ_ f2, sS_, sJ_ f3, sS_, sI_ p1, sI_ hf1, sI_ p2, sI_ s2b, sI_ s2t, sI_ hf2, sI_ x2, sI_ p3, sI_ s3b, sI_ s3t, sI_ hf3, sI_ x3, sI_ (0 : Int32), sI_ b2, sI_ b3, sJ_ (0 : Int64), sS_, sJ_ t2, sS_, sJ_ t3, sS_, .val fv1, sJ_ v2, sS_, .val fv2, sJ_ v3, sS_, .val fv3, .val cv1, .val cv2, .val cv3, sR_ ax, sI_ (1 : Int32), sI_ h2, sI_ fp2, sJ_ fst2, sS_, sI_ h3, sI_ (1 : Int32), sJ_ e1, sS_] [(.long e1), (.int (1 : Int32)), ow_29])) rfl (by rw [hml]; rfl) (argsL := [ow_29, (.int (1 : Int32)), (.long e1)]) (rest := []) (lenOf pd_10 rfl) rfl rfl (Nat.le_refl _) (hb hby at_684)
      obtain ⟨rfl, n_30, K_30⟩ := q_30
      have N_30 := Fr.app N_29 n_30
      refine Goes.go (U' := (T_30.setTop (mkF m 687 #[sI_ fl, sJ_ e1, sS_, sJ_ e2, sS_, sJ_ e3, sS_, sJ_ f2, sS_, sJ_ f3, sS_, sI_ p1, sI_ hf1, sI_ p2, sI_ s2b, sI_ s2t, sI_ hf2, sI_ x2, sI_ p3, sI_ s3b, sI_ s3t, sI_ hf3, sI_ x3, sI_ (0 : Int32), sI_ b2, sI_ b3, sJ_ (0 : Int64), sS_, sJ_ t2, sS_, sJ_ t3, sS_, .val fv1, sJ_ v2, sS_, .val fv2, sJ_ v3, sS_, .val fv3, .val cv1, .val cv2, .val cv3, sR_ ax, sI_ (1 : Int32), sI_ h2, sI_ fp2, sJ_ fst2, sS_, sI_ h3, sI_ (1 : Int32), sJ_ e1, sS_] [(.int (1 : Int32))]))) st_30 ?_
      refine Goes.go (U' := (T_30.setTop (mkF m 699 #[sI_ fl, sJ_ e1, sS_, sJ_ e2, sS_, sJ_ e3, sS_, sJ_ f2, sS_, sJ_ f3, sS_, sI_ p1, sI_ hf1, sI_ p2, sI_ s2b, sI_ s2t, sI_ hf2, sI_ x2, sI_ p3, sI_ s3b, sI_ s3t, sI_ hf3, sI_ x3, sI_ (0 : Int32), sI_ b2, sI_ b3, sJ_ (0 : Int64), sS_, sJ_ t2, sS_, sJ_ t3, sS_, .val fv1, sJ_ v2, sS_, .val fv2, sJ_ v3, sS_, .val fv3, .val cv1, .val cv2, .val cv3, sR_ ax, sI_ (1 : Int32), sI_ h2, sI_ fp2, sJ_ fst2, sS_, sI_ h3, sI_ (1 : Int32), sJ_ e1, sS_] [(.int (1 : Int32))]))) (fun t kt => ?_) ?_
      · skip
        refine XS.ifNo X_30.here hx rfl (hb hby at_687) rfl (XT.i0_eq_f (by decide)) ?_
        refine XS.iconst X_30.here hx rfl (hb hby at_690) ?_
        refine XS.goto X_30.here hx rfl (pc0 := 691) (pc' := 695) rfl (hb hby at_691) (by decide) (by decide) ?_
        refine XS.istore X_30.here hx rfl (hb hby at_695) rfl (l' := #[sI_ fl, sJ_ e1, sS_, sJ_ e2, sS_, sJ_ e3, sS_, sJ_ f2, sS_, sJ_ f3, sS_, sI_ p1, sI_ hf1, sI_ p2, sI_ s2b, sI_ s2t, sI_ hf2, sI_ x2, sI_ p3, sI_ s3b, sI_ s3t, sI_ hf3, sI_ x3, sI_ (0 : Int32), sI_ b2, sI_ b3, sJ_ (0 : Int64), sS_, sJ_ t2, sS_, sJ_ t3, sS_, .val fv1, sJ_ v2, sS_, .val fv2, sJ_ v3, sS_, .val fv3, .val cv1, .val cv2, .val cv3, sR_ ax, sI_ (1 : Int32), sI_ h2, sI_ fp2, sJ_ fst2, sS_, sI_ h3, sI_ (1 : Int32), sJ_ e1, sS_]) rfl ?_
        refine XS.iload X_30.here hx rfl (hb hby at_697) rfl ?_
        exact kt
      refine Goes.retB X_30 hx hlk hret (hb hby at_699) (by decide) (by decide) ?_
      try rw [K_30]
      exact ⟨rfl, N_30⟩
set_option maxRecDepth 65536 in
set_option maxHeartbeats 40000000 in
theorem law_562 (l : Launch) (Z : State) (a0 : Array Value) (hw : ∀ d ∈ tables_1, d.before a0 Z = true) (fl : Int32) (e1 e2 e3 f2 f3 : Int64) (p1 : Int32) (hf1 : Int32) (p2 : Int32) (s2b : Int32) (s2t : Int32) (hf2 : Int32) (x2 : Int32) (p3 : Int32) (s3b : Int32) (s3t : Int32) (hf3 : Int32) (x3 : Int32) (b2 : Int32) (b3 : Int32) (t2 : Int64) (t3 : Int64) (fv1 : Value) (o1 : Option Int64) (v2 : Int64) (fv2 : Value) (o2 : Option Int64) (v3 : Int64) (fv3 : Value) (o3 : Option Int64) (cv1 : Value) (d1 : Option OwnC) (cv2 : Value) (d2 : Option OwnC) (cv3 : Value) (d3 : Option OwnC) (ax : Addr) (h2 : Int32) (fp2 : Int32) (fst2 : Int64) (hd2 : Int32) (h0 : Heap) (n0 : Nat) (Z0 : n0 ≤ h0.size) (p : Program) (e : Env) (s : State) (m : MethodId) (below : List Frame) (meth : Method) (c : Code) (hx : p.tables.exec = Jvm.exec) (hby : c.code = code) (hml : c.maxLocals = maxLocals) (hown : s.vm.findClass "com/example/dead_letter_replay/deadletterreplay/queue/CarriesFloorPinLaw" = some m.cls) (hnm : meth.name = "law") (hret : meth.sig.returnType = ret) (hlk : meth.locks = false) (hZ : Z.Warmed39 s.vm) (h : Heap) (T : State) (locs : List Loc) (X : Stand p l e room_1 s m #[(.int fl), (.long e1), (.long e2), (.long e3), (.long f2), (.long f3)] below meth c T locs 11 24) (eT : T.heap = h) (N : Fr n0 locs) (K0 : Keep h0 h []) (O : Old Z n0 h) (BC : BoxC Z "java/lang/Long$LongCache" "[Ljava/lang/Long;" "java/lang/Long" "J" (fun i => .long (i.toInt32 - 128).toInt64)) (hb2 : b2 = (0 : Int32) ↔ ¬ s2b = 0) (hb3 : b3 = b2 ↔ ¬ s3b = 0) (ht2 : t2 = (0 : Int64) ↔ ¬ s2t = 0) (ht3 : t3 = t2 ↔ ¬ s3t = 0) (L1 : LongV Z h fv1 o1) (L2 : LongV Z h fv2 o2) (ho2 : (hf2 = 0 → o2 = none) ∧ (¬ hf2 = 0 → o2 = some v2)) (L3 : LongV Z h fv3 o3) (ho3 : (hf3 = 0 → o3 = none) ∧ (¬ hf3 = 0 → o3 = some v3)) (C1 : CarV Z h cv1 d1) (hD1 : (p1 = 0 → d1 = none) ∧ (¬ p1 = 0 → d1 = some (o1, e1, (0 : Int64), (0 : Int32)))) (C2 : CarV Z h cv2 d2) (hD2 : (p2 = 0 → d2 = none) ∧ (¬ p2 = 0 → d2 = some (o2, e2, t2, b2))) (C3 : CarV Z h cv3 d3) (hD3 : (p3 = 0 → d3 = none) ∧ (¬ p3 = 0 → d3 = some (o3, e3, t3, b3))) (oa : n0 ≤ ax) (za : h0.size ≤ ax) (S : CarS Z h ax d2 (OwnFst (OwnFst none d1) d2) hd2) (H2 : ¬ h2 = 0 ↔ (¬ (0 : Int32) = 0 ∨ ∃ c, d2 = some c ∧ OwnHit d1 c)) (E2 : hd2 = 0 ↔ h2 = 0) :
    Goes p e s below (fun v h L => v = some (.int 1) ∧ Fr n0 L) room_1.cells room_1.slots (T.setTop (mkF m 562 #[sI_ fl, sJ_ e1, sS_, sJ_ e2, sS_, sJ_ e3, sS_, sJ_ f2, sS_, sJ_ f3, sS_, sI_ p1, sI_ hf1, sI_ p2, sI_ s2b, sI_ s2t, sI_ hf2, sI_ x2, sI_ p3, sI_ s3b, sI_ s3t, sI_ hf3, sI_ x3, sI_ (0 : Int32), sI_ b2, sI_ b3, sJ_ (0 : Int64), sS_, sJ_ t2, sS_, sJ_ t3, sS_, .val fv1, sJ_ v2, sS_, .val fv2, sJ_ v3, sS_, .val fv3, .val cv1, .val cv2, .val cv3, sR_ ax, sI_ (1 : Int32), sI_ h2, sI_ fp2, sJ_ fst2, sS_, sU_, sU_, sU_, sU_] [])) := by
  have sz0 : n0 ≤ h.size := Nat.le_trans Z0 K0.1
  refine Goes.go (U' := (T.setTop (mkF m 564 #[sI_ fl, sJ_ e1, sS_, sJ_ e2, sS_, sJ_ e3, sS_, sJ_ f2, sS_, sJ_ f3, sS_, sI_ p1, sI_ hf1, sI_ p2, sI_ s2b, sI_ s2t, sI_ hf2, sI_ x2, sI_ p3, sI_ s3b, sI_ s3t, sI_ hf3, sI_ x3, sI_ (0 : Int32), sI_ b2, sI_ b3, sJ_ (0 : Int64), sS_, sJ_ t2, sS_, sJ_ t3, sS_, .val fv1, sJ_ v2, sS_, .val fv2, sJ_ v3, sS_, .val fv3, .val cv1, .val cv2, .val cv3, sR_ ax, sI_ (1 : Int32), sI_ h2, sI_ fp2, sJ_ fst2, sS_, sU_, sU_, sU_, sU_] [(.int h2)]))) (fun t kt => ?_) ?_
  · skip
    refine XS.iload X.here hx rfl (hb hby at_562) rfl ?_
    exact kt
  by_cases c_1 : h2 = 0
  · -- h2 = 0
    refine Goes.go (U' := (T.setTop (mkF m 569 #[sI_ fl, sJ_ e1, sS_, sJ_ e2, sS_, sJ_ e3, sS_, sJ_ f2, sS_, sJ_ f3, sS_, sI_ p1, sI_ hf1, sI_ p2, sI_ s2b, sI_ s2t, sI_ hf2, sI_ x2, sI_ p3, sI_ s3b, sI_ s3t, sI_ hf3, sI_ x3, sI_ (0 : Int32), sI_ b2, sI_ b3, sJ_ (0 : Int64), sS_, sJ_ t2, sS_, sJ_ t3, sS_, .val fv1, sJ_ v2, sS_, .val fv2, sJ_ v3, sS_, .val fv3, .val cv1, .val cv2, .val cv3, sR_ ax, sI_ (1 : Int32), sI_ h2, sI_ fp2, sJ_ fst2, sS_, sU_, sU_, sU_, sU_] [(.int p2)]))) (fun t kt => ?_) ?_
    · skip
      refine XS.ifNo X.here hx rfl (hb hby at_564) rfl (XT.i0_ne_f c_1) ?_
      refine XS.iload X.here hx rfl (hb hby at_567) rfl ?_
      exact kt
    by_cases c_2 : p2 = 0
    · -- p2 = 0
      refine Goes.go (U' := (T.setTop (mkF m 606 #[sI_ fl, sJ_ e1, sS_, sJ_ e2, sS_, sJ_ e3, sS_, sJ_ f2, sS_, sJ_ f3, sS_, sI_ p1, sI_ hf1, sI_ p2, sI_ s2b, sI_ s2t, sI_ hf2, sI_ x2, sI_ p3, sI_ s3b, sI_ s3t, sI_ hf3, sI_ x3, sI_ (0 : Int32), sI_ b2, sI_ b3, sJ_ (0 : Int64), sS_, sJ_ t2, sS_, sJ_ t3, sS_, .val fv1, sJ_ v2, sS_, .val fv2, sJ_ v3, sS_, .val fv3, .val cv1, .val cv2, .val cv3, sR_ ax, sI_ (1 : Int32), sI_ h2, sI_ fp2, sJ_ fst2, sS_, sI_ (0 : Int32), sU_, sU_, sU_] []))) (fun t kt => ?_) ?_
      · skip
        refine XS.ifYes X.here hx rfl (pc0 := 569) (pc' := 603) rfl (hb hby at_569) rfl (XT.i0_eq_t c_2) (by decide) (by decide) ?_
        refine XS.iconst X.here hx rfl (hb hby at_603) ?_
        refine XS.istore X.here hx rfl (hb hby at_604) rfl (l' := #[sI_ fl, sJ_ e1, sS_, sJ_ e2, sS_, sJ_ e3, sS_, sJ_ f2, sS_, sJ_ f3, sS_, sI_ p1, sI_ hf1, sI_ p2, sI_ s2b, sI_ s2t, sI_ hf2, sI_ x2, sI_ p3, sI_ s3b, sI_ s3t, sI_ hf3, sI_ x3, sI_ (0 : Int32), sI_ b2, sI_ b3, sJ_ (0 : Int64), sS_, sJ_ t2, sS_, sJ_ t3, sS_, .val fv1, sJ_ v2, sS_, .val fv2, sJ_ v3, sS_, .val fv3, .val cv1, .val cv2, .val cv3, sR_ ax, sI_ (1 : Int32), sI_ h2, sI_ fp2, sJ_ fst2, sS_, sI_ (0 : Int32), sU_, sU_, sU_]) rfl ?_
        exact kt
      exact law_606 l Z a0 hw fl e1 e2 e3 f2 f3 p1 hf1 p2 s2b s2t hf2 x2 p3 s3b s3t hf3 x3 b2 b3 t2 t3 fv1 o1 v2 fv2 o2 v3 fv3 o3 cv1 d1 cv2 d2 cv3 d3 ax h2 fp2 fst2 hd2 (0 : Int32) h0 n0 Z0 p e s m below meth c hx hby hml hown hnm hret hlk hZ _ _ _ X eT N K0 O BC hb2 hb3 ht2 ht3 L1 L2 ho2 L3 ho3 C1 hD1 C2 hD2 C3 hD3 oa za S H2 E2 (own_H3 hD2 hD3 hb3 ht3 ho3 (E2.mpr c_1) (by simp [c_1, c_2]))
    · -- not p2 = 0
      refine Goes.go (U' := (T.setTop (mkF m 574 #[sI_ fl, sJ_ e1, sS_, sJ_ e2, sS_, sJ_ e3, sS_, sJ_ f2, sS_, sJ_ f3, sS_, sI_ p1, sI_ hf1, sI_ p2, sI_ s2b, sI_ s2t, sI_ hf2, sI_ x2, sI_ p3, sI_ s3b, sI_ s3t, sI_ hf3, sI_ x3, sI_ (0 : Int32), sI_ b2, sI_ b3, sJ_ (0 : Int64), sS_, sJ_ t2, sS_, sJ_ t3, sS_, .val fv1, sJ_ v2, sS_, .val fv2, sJ_ v3, sS_, .val fv3, .val cv1, .val cv2, .val cv3, sR_ ax, sI_ (1 : Int32), sI_ h2, sI_ fp2, sJ_ fst2, sS_, sU_, sU_, sU_, sU_] [(.int p3)]))) (fun t kt => ?_) ?_
      · skip
        refine XS.ifNo X.here hx rfl (hb hby at_569) rfl (XT.i0_eq_f c_2) ?_
        refine XS.iload X.here hx rfl (hb hby at_572) rfl ?_
        exact kt
      by_cases c_3 : p3 = 0
      · -- p3 = 0
        refine Goes.go (U' := (T.setTop (mkF m 606 #[sI_ fl, sJ_ e1, sS_, sJ_ e2, sS_, sJ_ e3, sS_, sJ_ f2, sS_, sJ_ f3, sS_, sI_ p1, sI_ hf1, sI_ p2, sI_ s2b, sI_ s2t, sI_ hf2, sI_ x2, sI_ p3, sI_ s3b, sI_ s3t, sI_ hf3, sI_ x3, sI_ (0 : Int32), sI_ b2, sI_ b3, sJ_ (0 : Int64), sS_, sJ_ t2, sS_, sJ_ t3, sS_, .val fv1, sJ_ v2, sS_, .val fv2, sJ_ v3, sS_, .val fv3, .val cv1, .val cv2, .val cv3, sR_ ax, sI_ (1 : Int32), sI_ h2, sI_ fp2, sJ_ fst2, sS_, sI_ (0 : Int32), sU_, sU_, sU_] []))) (fun t kt => ?_) ?_
        · skip
          refine XS.ifYes X.here hx rfl (pc0 := 574) (pc' := 603) rfl (hb hby at_574) rfl (XT.i0_eq_t c_3) (by decide) (by decide) ?_
          refine XS.iconst X.here hx rfl (hb hby at_603) ?_
          refine XS.istore X.here hx rfl (hb hby at_604) rfl (l' := #[sI_ fl, sJ_ e1, sS_, sJ_ e2, sS_, sJ_ e3, sS_, sJ_ f2, sS_, sJ_ f3, sS_, sI_ p1, sI_ hf1, sI_ p2, sI_ s2b, sI_ s2t, sI_ hf2, sI_ x2, sI_ p3, sI_ s3b, sI_ s3t, sI_ hf3, sI_ x3, sI_ (0 : Int32), sI_ b2, sI_ b3, sJ_ (0 : Int64), sS_, sJ_ t2, sS_, sJ_ t3, sS_, .val fv1, sJ_ v2, sS_, .val fv2, sJ_ v3, sS_, .val fv3, .val cv1, .val cv2, .val cv3, sR_ ax, sI_ (1 : Int32), sI_ h2, sI_ fp2, sJ_ fst2, sS_, sI_ (0 : Int32), sU_, sU_, sU_]) rfl ?_
          exact kt
        exact law_606 l Z a0 hw fl e1 e2 e3 f2 f3 p1 hf1 p2 s2b s2t hf2 x2 p3 s3b s3t hf3 x3 b2 b3 t2 t3 fv1 o1 v2 fv2 o2 v3 fv3 o3 cv1 d1 cv2 d2 cv3 d3 ax h2 fp2 fst2 hd2 (0 : Int32) h0 n0 Z0 p e s m below meth c hx hby hml hown hnm hret hlk hZ _ _ _ X eT N K0 O BC hb2 hb3 ht2 ht3 L1 L2 ho2 L3 ho3 C1 hD1 C2 hD2 C3 hD3 oa za S H2 E2 (own_H3 hD2 hD3 hb3 ht3 ho3 (E2.mpr c_1) (by simp [c_1, c_2, c_3]))
      · -- not p3 = 0
        refine Goes.go (U' := (T.setTop (mkF m 579 #[sI_ fl, sJ_ e1, sS_, sJ_ e2, sS_, sJ_ e3, sS_, sJ_ f2, sS_, sJ_ f3, sS_, sI_ p1, sI_ hf1, sI_ p2, sI_ s2b, sI_ s2t, sI_ hf2, sI_ x2, sI_ p3, sI_ s3b, sI_ s3t, sI_ hf3, sI_ x3, sI_ (0 : Int32), sI_ b2, sI_ b3, sJ_ (0 : Int64), sS_, sJ_ t2, sS_, sJ_ t3, sS_, .val fv1, sJ_ v2, sS_, .val fv2, sJ_ v3, sS_, .val fv3, .val cv1, .val cv2, .val cv3, sR_ ax, sI_ (1 : Int32), sI_ h2, sI_ fp2, sJ_ fst2, sS_, sU_, sU_, sU_, sU_] [(.int s3b)]))) (fun t kt => ?_) ?_
        · skip
          refine XS.ifNo X.here hx rfl (hb hby at_574) rfl (XT.i0_eq_f c_3) ?_
          refine XS.iload X.here hx rfl (hb hby at_577) rfl ?_
          exact kt
        by_cases c_4 : s3b = 0
        · -- s3b = 0
          refine Goes.go (U' := (T.setTop (mkF m 606 #[sI_ fl, sJ_ e1, sS_, sJ_ e2, sS_, sJ_ e3, sS_, sJ_ f2, sS_, sJ_ f3, sS_, sI_ p1, sI_ hf1, sI_ p2, sI_ s2b, sI_ s2t, sI_ hf2, sI_ x2, sI_ p3, sI_ s3b, sI_ s3t, sI_ hf3, sI_ x3, sI_ (0 : Int32), sI_ b2, sI_ b3, sJ_ (0 : Int64), sS_, sJ_ t2, sS_, sJ_ t3, sS_, .val fv1, sJ_ v2, sS_, .val fv2, sJ_ v3, sS_, .val fv3, .val cv1, .val cv2, .val cv3, sR_ ax, sI_ (1 : Int32), sI_ h2, sI_ fp2, sJ_ fst2, sS_, sI_ (0 : Int32), sU_, sU_, sU_] []))) (fun t kt => ?_) ?_
          · skip
            refine XS.ifYes X.here hx rfl (pc0 := 579) (pc' := 603) rfl (hb hby at_579) rfl (XT.i0_eq_t c_4) (by decide) (by decide) ?_
            refine XS.iconst X.here hx rfl (hb hby at_603) ?_
            refine XS.istore X.here hx rfl (hb hby at_604) rfl (l' := #[sI_ fl, sJ_ e1, sS_, sJ_ e2, sS_, sJ_ e3, sS_, sJ_ f2, sS_, sJ_ f3, sS_, sI_ p1, sI_ hf1, sI_ p2, sI_ s2b, sI_ s2t, sI_ hf2, sI_ x2, sI_ p3, sI_ s3b, sI_ s3t, sI_ hf3, sI_ x3, sI_ (0 : Int32), sI_ b2, sI_ b3, sJ_ (0 : Int64), sS_, sJ_ t2, sS_, sJ_ t3, sS_, .val fv1, sJ_ v2, sS_, .val fv2, sJ_ v3, sS_, .val fv3, .val cv1, .val cv2, .val cv3, sR_ ax, sI_ (1 : Int32), sI_ h2, sI_ fp2, sJ_ fst2, sS_, sI_ (0 : Int32), sU_, sU_, sU_]) rfl ?_
            exact kt
          exact law_606 l Z a0 hw fl e1 e2 e3 f2 f3 p1 hf1 p2 s2b s2t hf2 x2 p3 s3b s3t hf3 x3 b2 b3 t2 t3 fv1 o1 v2 fv2 o2 v3 fv3 o3 cv1 d1 cv2 d2 cv3 d3 ax h2 fp2 fst2 hd2 (0 : Int32) h0 n0 Z0 p e s m below meth c hx hby hml hown hnm hret hlk hZ _ _ _ X eT N K0 O BC hb2 hb3 ht2 ht3 L1 L2 ho2 L3 ho3 C1 hD1 C2 hD2 C3 hD3 oa za S H2 E2 (own_H3 hD2 hD3 hb3 ht3 ho3 (E2.mpr c_1) (by simp [c_1, c_2, c_3, c_4]))
        · -- not s3b = 0
          refine Goes.go (U' := (T.setTop (mkF m 584 #[sI_ fl, sJ_ e1, sS_, sJ_ e2, sS_, sJ_ e3, sS_, sJ_ f2, sS_, sJ_ f3, sS_, sI_ p1, sI_ hf1, sI_ p2, sI_ s2b, sI_ s2t, sI_ hf2, sI_ x2, sI_ p3, sI_ s3b, sI_ s3t, sI_ hf3, sI_ x3, sI_ (0 : Int32), sI_ b2, sI_ b3, sJ_ (0 : Int64), sS_, sJ_ t2, sS_, sJ_ t3, sS_, .val fv1, sJ_ v2, sS_, .val fv2, sJ_ v3, sS_, .val fv3, .val cv1, .val cv2, .val cv3, sR_ ax, sI_ (1 : Int32), sI_ h2, sI_ fp2, sJ_ fst2, sS_, sU_, sU_, sU_, sU_] [(.int s3t)]))) (fun t kt => ?_) ?_
          · skip
            refine XS.ifNo X.here hx rfl (hb hby at_579) rfl (XT.i0_eq_f c_4) ?_
            refine XS.iload X.here hx rfl (hb hby at_582) rfl ?_
            exact kt
          by_cases c_5 : s3t = 0
          · -- s3t = 0
            refine Goes.go (U' := (T.setTop (mkF m 589 #[sI_ fl, sJ_ e1, sS_, sJ_ e2, sS_, sJ_ e3, sS_, sJ_ f2, sS_, sJ_ f3, sS_, sI_ p1, sI_ hf1, sI_ p2, sI_ s2b, sI_ s2t, sI_ hf2, sI_ x2, sI_ p3, sI_ s3b, sI_ s3t, sI_ hf3, sI_ x3, sI_ (0 : Int32), sI_ b2, sI_ b3, sJ_ (0 : Int64), sS_, sJ_ t2, sS_, sJ_ t3, sS_, .val fv1, sJ_ v2, sS_, .val fv2, sJ_ v3, sS_, .val fv3, .val cv1, .val cv2, .val cv3, sR_ ax, sI_ (1 : Int32), sI_ h2, sI_ fp2, sJ_ fst2, sS_, sU_, sU_, sU_, sU_] [(.int hf3)]))) (fun t kt => ?_) ?_
            · skip
              refine XS.ifNo X.here hx rfl (hb hby at_584) rfl (XT.i0_ne_f c_5) ?_
              refine XS.iload X.here hx rfl (hb hby at_587) rfl ?_
              exact kt
            by_cases c_6 : hf3 = 0
            · -- hf3 = 0
              refine Goes.go (U' := (T.setTop (mkF m 606 #[sI_ fl, sJ_ e1, sS_, sJ_ e2, sS_, sJ_ e3, sS_, sJ_ f2, sS_, sJ_ f3, sS_, sI_ p1, sI_ hf1, sI_ p2, sI_ s2b, sI_ s2t, sI_ hf2, sI_ x2, sI_ p3, sI_ s3b, sI_ s3t, sI_ hf3, sI_ x3, sI_ (0 : Int32), sI_ b2, sI_ b3, sJ_ (0 : Int64), sS_, sJ_ t2, sS_, sJ_ t3, sS_, .val fv1, sJ_ v2, sS_, .val fv2, sJ_ v3, sS_, .val fv3, .val cv1, .val cv2, .val cv3, sR_ ax, sI_ (1 : Int32), sI_ h2, sI_ fp2, sJ_ fst2, sS_, sI_ (0 : Int32), sU_, sU_, sU_] []))) (fun t kt => ?_) ?_
              · skip
                refine XS.ifYes X.here hx rfl (pc0 := 589) (pc' := 603) rfl (hb hby at_589) rfl (XT.i0_eq_t c_6) (by decide) (by decide) ?_
                refine XS.iconst X.here hx rfl (hb hby at_603) ?_
                refine XS.istore X.here hx rfl (hb hby at_604) rfl (l' := #[sI_ fl, sJ_ e1, sS_, sJ_ e2, sS_, sJ_ e3, sS_, sJ_ f2, sS_, sJ_ f3, sS_, sI_ p1, sI_ hf1, sI_ p2, sI_ s2b, sI_ s2t, sI_ hf2, sI_ x2, sI_ p3, sI_ s3b, sI_ s3t, sI_ hf3, sI_ x3, sI_ (0 : Int32), sI_ b2, sI_ b3, sJ_ (0 : Int64), sS_, sJ_ t2, sS_, sJ_ t3, sS_, .val fv1, sJ_ v2, sS_, .val fv2, sJ_ v3, sS_, .val fv3, .val cv1, .val cv2, .val cv3, sR_ ax, sI_ (1 : Int32), sI_ h2, sI_ fp2, sJ_ fst2, sS_, sI_ (0 : Int32), sU_, sU_, sU_]) rfl ?_
                exact kt
              exact law_606 l Z a0 hw fl e1 e2 e3 f2 f3 p1 hf1 p2 s2b s2t hf2 x2 p3 s3b s3t hf3 x3 b2 b3 t2 t3 fv1 o1 v2 fv2 o2 v3 fv3 o3 cv1 d1 cv2 d2 cv3 d3 ax h2 fp2 fst2 hd2 (0 : Int32) h0 n0 Z0 p e s m below meth c hx hby hml hown hnm hret hlk hZ _ _ _ X eT N K0 O BC hb2 hb3 ht2 ht3 L1 L2 ho2 L3 ho3 C1 hD1 C2 hD2 C3 hD3 oa za S H2 E2 (own_H3 hD2 hD3 hb3 ht3 ho3 (E2.mpr c_1) (by simp [c_1, c_2, c_3, c_4, c_5, c_6]))
            · -- not hf3 = 0
              refine Goes.go (U' := (T.setTop (mkF m 596 #[sI_ fl, sJ_ e1, sS_, sJ_ e2, sS_, sJ_ e3, sS_, sJ_ f2, sS_, sJ_ f3, sS_, sI_ p1, sI_ hf1, sI_ p2, sI_ s2b, sI_ s2t, sI_ hf2, sI_ x2, sI_ p3, sI_ s3b, sI_ s3t, sI_ hf3, sI_ x3, sI_ (0 : Int32), sI_ b2, sI_ b3, sJ_ (0 : Int64), sS_, sJ_ t2, sS_, sJ_ t3, sS_, .val fv1, sJ_ v2, sS_, .val fv2, sJ_ v3, sS_, .val fv3, .val cv1, .val cv2, .val cv3, sR_ ax, sI_ (1 : Int32), sI_ h2, sI_ fp2, sJ_ fst2, sS_, sU_, sU_, sU_, sU_] [(.int (XT.cmpL v3 e2))]))) (fun t kt => ?_) ?_
              · skip
                refine XS.ifNo X.here hx rfl (hb hby at_589) rfl (XT.i0_eq_f c_6) ?_
                refine XS.lload X.here hx rfl (hb hby at_592) rfl ?_
                refine XS.lloadN X.here hx rfl (hb hby at_594) rfl ?_
                refine XT.lcmp X.here hx rfl (hb hby at_595) rfl ?_
                exact kt
              by_cases c_7 : v3 = e2
              · -- v3 = e2
                refine Goes.go (U' := (T.setTop (mkF m 606 #[sI_ fl, sJ_ e1, sS_, sJ_ e2, sS_, sJ_ e3, sS_, sJ_ f2, sS_, sJ_ f3, sS_, sI_ p1, sI_ hf1, sI_ p2, sI_ s2b, sI_ s2t, sI_ hf2, sI_ x2, sI_ p3, sI_ s3b, sI_ s3t, sI_ hf3, sI_ x3, sI_ (0 : Int32), sI_ b2, sI_ b3, sJ_ (0 : Int64), sS_, sJ_ t2, sS_, sJ_ t3, sS_, .val fv1, sJ_ v2, sS_, .val fv2, sJ_ v3, sS_, .val fv3, .val cv1, .val cv2, .val cv3, sR_ ax, sI_ (1 : Int32), sI_ h2, sI_ fp2, sJ_ fst2, sS_, sI_ (1 : Int32), sU_, sU_, sU_] []))) (fun t kt => ?_) ?_
                · skip
                  refine XS.ifNo X.here hx rfl (hb hby at_596) rfl (XT.ll_ne_f c_7) ?_
                  refine XS.iconst X.here hx rfl (hb hby at_599) ?_
                  refine XS.goto X.here hx rfl (pc0 := 600) (pc' := 604) rfl (hb hby at_600) (by decide) (by decide) ?_
                  refine XS.istore X.here hx rfl (hb hby at_604) rfl (l' := #[sI_ fl, sJ_ e1, sS_, sJ_ e2, sS_, sJ_ e3, sS_, sJ_ f2, sS_, sJ_ f3, sS_, sI_ p1, sI_ hf1, sI_ p2, sI_ s2b, sI_ s2t, sI_ hf2, sI_ x2, sI_ p3, sI_ s3b, sI_ s3t, sI_ hf3, sI_ x3, sI_ (0 : Int32), sI_ b2, sI_ b3, sJ_ (0 : Int64), sS_, sJ_ t2, sS_, sJ_ t3, sS_, .val fv1, sJ_ v2, sS_, .val fv2, sJ_ v3, sS_, .val fv3, .val cv1, .val cv2, .val cv3, sR_ ax, sI_ (1 : Int32), sI_ h2, sI_ fp2, sJ_ fst2, sS_, sI_ (1 : Int32), sU_, sU_, sU_]) rfl ?_
                  exact kt
                exact law_606 l Z a0 hw fl e1 e2 e3 f2 f3 p1 hf1 p2 s2b s2t hf2 x2 p3 s3b s3t hf3 x3 b2 b3 t2 t3 fv1 o1 v2 fv2 o2 v3 fv3 o3 cv1 d1 cv2 d2 cv3 d3 ax h2 fp2 fst2 hd2 (1 : Int32) h0 n0 Z0 p e s m below meth c hx hby hml hown hnm hret hlk hZ _ _ _ X eT N K0 O BC hb2 hb3 ht2 ht3 L1 L2 ho2 L3 ho3 C1 hD1 C2 hD2 C3 hD3 oa za S H2 E2 (own_H3 hD2 hD3 hb3 ht3 ho3 (E2.mpr c_1) (by simp [c_1, c_2, c_3, c_4, c_5, c_6, c_7]))
              · -- not v3 = e2
                refine Goes.go (U' := (T.setTop (mkF m 606 #[sI_ fl, sJ_ e1, sS_, sJ_ e2, sS_, sJ_ e3, sS_, sJ_ f2, sS_, sJ_ f3, sS_, sI_ p1, sI_ hf1, sI_ p2, sI_ s2b, sI_ s2t, sI_ hf2, sI_ x2, sI_ p3, sI_ s3b, sI_ s3t, sI_ hf3, sI_ x3, sI_ (0 : Int32), sI_ b2, sI_ b3, sJ_ (0 : Int64), sS_, sJ_ t2, sS_, sJ_ t3, sS_, .val fv1, sJ_ v2, sS_, .val fv2, sJ_ v3, sS_, .val fv3, .val cv1, .val cv2, .val cv3, sR_ ax, sI_ (1 : Int32), sI_ h2, sI_ fp2, sJ_ fst2, sS_, sI_ (0 : Int32), sU_, sU_, sU_] []))) (fun t kt => ?_) ?_
                · skip
                  refine XS.ifYes X.here hx rfl (pc0 := 596) (pc' := 603) rfl (hb hby at_596) rfl (XT.ll_ne_t c_7) (by decide) (by decide) ?_
                  refine XS.iconst X.here hx rfl (hb hby at_603) ?_
                  refine XS.istore X.here hx rfl (hb hby at_604) rfl (l' := #[sI_ fl, sJ_ e1, sS_, sJ_ e2, sS_, sJ_ e3, sS_, sJ_ f2, sS_, sJ_ f3, sS_, sI_ p1, sI_ hf1, sI_ p2, sI_ s2b, sI_ s2t, sI_ hf2, sI_ x2, sI_ p3, sI_ s3b, sI_ s3t, sI_ hf3, sI_ x3, sI_ (0 : Int32), sI_ b2, sI_ b3, sJ_ (0 : Int64), sS_, sJ_ t2, sS_, sJ_ t3, sS_, .val fv1, sJ_ v2, sS_, .val fv2, sJ_ v3, sS_, .val fv3, .val cv1, .val cv2, .val cv3, sR_ ax, sI_ (1 : Int32), sI_ h2, sI_ fp2, sJ_ fst2, sS_, sI_ (0 : Int32), sU_, sU_, sU_]) rfl ?_
                  exact kt
                exact law_606 l Z a0 hw fl e1 e2 e3 f2 f3 p1 hf1 p2 s2b s2t hf2 x2 p3 s3b s3t hf3 x3 b2 b3 t2 t3 fv1 o1 v2 fv2 o2 v3 fv3 o3 cv1 d1 cv2 d2 cv3 d3 ax h2 fp2 fst2 hd2 (0 : Int32) h0 n0 Z0 p e s m below meth c hx hby hml hown hnm hret hlk hZ _ _ _ X eT N K0 O BC hb2 hb3 ht2 ht3 L1 L2 ho2 L3 ho3 C1 hD1 C2 hD2 C3 hD3 oa za S H2 E2 (own_H3 hD2 hD3 hb3 ht3 ho3 (E2.mpr c_1) (by simp [c_1, c_2, c_3, c_4, c_5, c_6, c_7]))
          · -- not s3t = 0
            refine Goes.go (U' := (T.setTop (mkF m 606 #[sI_ fl, sJ_ e1, sS_, sJ_ e2, sS_, sJ_ e3, sS_, sJ_ f2, sS_, sJ_ f3, sS_, sI_ p1, sI_ hf1, sI_ p2, sI_ s2b, sI_ s2t, sI_ hf2, sI_ x2, sI_ p3, sI_ s3b, sI_ s3t, sI_ hf3, sI_ x3, sI_ (0 : Int32), sI_ b2, sI_ b3, sJ_ (0 : Int64), sS_, sJ_ t2, sS_, sJ_ t3, sS_, .val fv1, sJ_ v2, sS_, .val fv2, sJ_ v3, sS_, .val fv3, .val cv1, .val cv2, .val cv3, sR_ ax, sI_ (1 : Int32), sI_ h2, sI_ fp2, sJ_ fst2, sS_, sI_ (0 : Int32), sU_, sU_, sU_] []))) (fun t kt => ?_) ?_
            · skip
              refine XS.ifYes X.here hx rfl (pc0 := 584) (pc' := 603) rfl (hb hby at_584) rfl (XT.i0_ne_t c_5) (by decide) (by decide) ?_
              refine XS.iconst X.here hx rfl (hb hby at_603) ?_
              refine XS.istore X.here hx rfl (hb hby at_604) rfl (l' := #[sI_ fl, sJ_ e1, sS_, sJ_ e2, sS_, sJ_ e3, sS_, sJ_ f2, sS_, sJ_ f3, sS_, sI_ p1, sI_ hf1, sI_ p2, sI_ s2b, sI_ s2t, sI_ hf2, sI_ x2, sI_ p3, sI_ s3b, sI_ s3t, sI_ hf3, sI_ x3, sI_ (0 : Int32), sI_ b2, sI_ b3, sJ_ (0 : Int64), sS_, sJ_ t2, sS_, sJ_ t3, sS_, .val fv1, sJ_ v2, sS_, .val fv2, sJ_ v3, sS_, .val fv3, .val cv1, .val cv2, .val cv3, sR_ ax, sI_ (1 : Int32), sI_ h2, sI_ fp2, sJ_ fst2, sS_, sI_ (0 : Int32), sU_, sU_, sU_]) rfl ?_
              exact kt
            exact law_606 l Z a0 hw fl e1 e2 e3 f2 f3 p1 hf1 p2 s2b s2t hf2 x2 p3 s3b s3t hf3 x3 b2 b3 t2 t3 fv1 o1 v2 fv2 o2 v3 fv3 o3 cv1 d1 cv2 d2 cv3 d3 ax h2 fp2 fst2 hd2 (0 : Int32) h0 n0 Z0 p e s m below meth c hx hby hml hown hnm hret hlk hZ _ _ _ X eT N K0 O BC hb2 hb3 ht2 ht3 L1 L2 ho2 L3 ho3 C1 hD1 C2 hD2 C3 hD3 oa za S H2 E2 (own_H3 hD2 hD3 hb3 ht3 ho3 (E2.mpr c_1) (by simp [c_1, c_2, c_3, c_4, c_5]))
  · -- not h2 = 0
    refine Goes.go (U' := (T.setTop (mkF m 606 #[sI_ fl, sJ_ e1, sS_, sJ_ e2, sS_, sJ_ e3, sS_, sJ_ f2, sS_, sJ_ f3, sS_, sI_ p1, sI_ hf1, sI_ p2, sI_ s2b, sI_ s2t, sI_ hf2, sI_ x2, sI_ p3, sI_ s3b, sI_ s3t, sI_ hf3, sI_ x3, sI_ (0 : Int32), sI_ b2, sI_ b3, sJ_ (0 : Int64), sS_, sJ_ t2, sS_, sJ_ t3, sS_, .val fv1, sJ_ v2, sS_, .val fv2, sJ_ v3, sS_, .val fv3, .val cv1, .val cv2, .val cv3, sR_ ax, sI_ (1 : Int32), sI_ h2, sI_ fp2, sJ_ fst2, sS_, sI_ (1 : Int32), sU_, sU_, sU_] []))) (fun t kt => ?_) ?_
    · skip
      refine XS.ifYes X.here hx rfl (pc0 := 564) (pc' := 599) rfl (hb hby at_564) rfl (XT.i0_ne_t c_1) (by decide) (by decide) ?_
      refine XS.iconst X.here hx rfl (hb hby at_599) ?_
      refine XS.goto X.here hx rfl (pc0 := 600) (pc' := 604) rfl (hb hby at_600) (by decide) (by decide) ?_
      refine XS.istore X.here hx rfl (hb hby at_604) rfl (l' := #[sI_ fl, sJ_ e1, sS_, sJ_ e2, sS_, sJ_ e3, sS_, sJ_ f2, sS_, sJ_ f3, sS_, sI_ p1, sI_ hf1, sI_ p2, sI_ s2b, sI_ s2t, sI_ hf2, sI_ x2, sI_ p3, sI_ s3b, sI_ s3t, sI_ hf3, sI_ x3, sI_ (0 : Int32), sI_ b2, sI_ b3, sJ_ (0 : Int64), sS_, sJ_ t2, sS_, sJ_ t3, sS_, .val fv1, sJ_ v2, sS_, .val fv2, sJ_ v3, sS_, .val fv3, .val cv1, .val cv2, .val cv3, sR_ ax, sI_ (1 : Int32), sI_ h2, sI_ fp2, sJ_ fst2, sS_, sI_ (1 : Int32), sU_, sU_, sU_]) rfl ?_
      exact kt
    exact law_606 l Z a0 hw fl e1 e2 e3 f2 f3 p1 hf1 p2 s2b s2t hf2 x2 p3 s3b s3t hf3 x3 b2 b3 t2 t3 fv1 o1 v2 fv2 o2 v3 fv3 o3 cv1 d1 cv2 d2 cv3 d3 ax h2 fp2 fst2 hd2 (1 : Int32) h0 n0 Z0 p e s m below meth c hx hby hml hown hnm hret hlk hZ _ _ _ X eT N K0 O BC hb2 hb3 ht2 ht3 L1 L2 ho2 L3 ho3 C1 hD1 C2 hD2 C3 hD3 oa za S H2 E2 ⟨fun _ => Or.inl (fun q => c_1 (E2.mp q)), fun _ => by decide⟩
set_option maxRecDepth 65536 in
set_option maxHeartbeats 40000000 in
theorem law_486 (l : Launch) (Z : State) (a0 : Array Value) (hw : ∀ d ∈ tables_1, d.before a0 Z = true) (fl : Int32) (e1 e2 e3 f2 f3 : Int64) (p1 : Int32) (hf1 : Int32) (p2 : Int32) (s2b : Int32) (s2t : Int32) (hf2 : Int32) (x2 : Int32) (p3 : Int32) (s3b : Int32) (s3t : Int32) (hf3 : Int32) (x3 : Int32) (b2 : Int32) (b3 : Int32) (t2 : Int64) (t3 : Int64) (fv1 : Value) (o1 : Option Int64) (v2 : Int64) (fv2 : Value) (o2 : Option Int64) (v3 : Int64) (fv3 : Value) (o3 : Option Int64) (cv1 : Value) (d1 : Option OwnC) (cv2 : Value) (d2 : Option OwnC) (cv3 : Value) (d3 : Option OwnC) (ax : Addr) (h2 : Int32) (h0 : Heap) (n0 : Nat) (Z0 : n0 ≤ h0.size) (p : Program) (e : Env) (s : State) (m : MethodId) (below : List Frame) (meth : Method) (c : Code) (hx : p.tables.exec = Jvm.exec) (hby : c.code = code) (hml : c.maxLocals = maxLocals) (hown : s.vm.findClass "com/example/dead_letter_replay/deadletterreplay/queue/CarriesFloorPinLaw" = some m.cls) (hnm : meth.name = "law") (hret : meth.sig.returnType = ret) (hlk : meth.locks = false) (hZ : Z.Warmed39 s.vm) (h : Heap) (T : State) (locs : List Loc) (X : Stand p l e room_1 s m #[(.int fl), (.long e1), (.long e2), (.long e3), (.long f2), (.long f3)] below meth c T locs 9 22) (eT : T.heap = h) (N : Fr n0 locs) (K0 : Keep h0 h []) (O : Old Z n0 h) (BC : BoxC Z "java/lang/Long$LongCache" "[Ljava/lang/Long;" "java/lang/Long" "J" (fun i => .long (i.toInt32 - 128).toInt64)) (hb2 : b2 = (0 : Int32) ↔ ¬ s2b = 0) (hb3 : b3 = b2 ↔ ¬ s3b = 0) (ht2 : t2 = (0 : Int64) ↔ ¬ s2t = 0) (ht3 : t3 = t2 ↔ ¬ s3t = 0) (L1 : LongV Z h fv1 o1) (L2 : LongV Z h fv2 o2) (ho2 : (hf2 = 0 → o2 = none) ∧ (¬ hf2 = 0 → o2 = some v2)) (L3 : LongV Z h fv3 o3) (ho3 : (hf3 = 0 → o3 = none) ∧ (¬ hf3 = 0 → o3 = some v3)) (C1 : CarV Z h cv1 d1) (hD1 : (p1 = 0 → d1 = none) ∧ (¬ p1 = 0 → d1 = some (o1, e1, (0 : Int64), (0 : Int32)))) (C2 : CarV Z h cv2 d2) (hD2 : (p2 = 0 → d2 = none) ∧ (¬ p2 = 0 → d2 = some (o2, e2, t2, b2))) (C3 : CarV Z h cv3 d3) (hD3 : (p3 = 0 → d3 = none) ∧ (¬ p3 = 0 → d3 = some (o3, e3, t3, b3))) (oa : n0 ≤ ax) (za : h0.size ≤ ax) (S : CarS Z h ax d1 (OwnFst none d1) (0 : Int32)) (H2 : ¬ h2 = 0 ↔ (¬ (0 : Int32) = 0 ∨ ∃ c, d2 = some c ∧ OwnHit d1 c)) :
    Goes p e s below (fun v h L => v = some (.int 1) ∧ Fr n0 L) room_1.cells room_1.slots (T.setTop (mkF m 486 #[sI_ fl, sJ_ e1, sS_, sJ_ e2, sS_, sJ_ e3, sS_, sJ_ f2, sS_, sJ_ f3, sS_, sI_ p1, sI_ hf1, sI_ p2, sI_ s2b, sI_ s2t, sI_ hf2, sI_ x2, sI_ p3, sI_ s3b, sI_ s3t, sI_ hf3, sI_ x3, sI_ (0 : Int32), sI_ b2, sI_ b3, sJ_ (0 : Int64), sS_, sJ_ t2, sS_, sJ_ t3, sS_, .val fv1, sJ_ v2, sS_, .val fv2, sJ_ v3, sS_, .val fv3, .val cv1, .val cv2, .val cv3, sR_ ax, sI_ (1 : Int32), sI_ h2, sU_, sU_, sU_, sU_, sU_, sU_, sU_] [])) := by
  have sz0 : n0 ≤ h.size := Nat.le_trans Z0 K0.1
  refine Goes.go (U' := (T.setTop (mkF m 490 #[sI_ fl, sJ_ e1, sS_, sJ_ e2, sS_, sJ_ e3, sS_, sJ_ f2, sS_, sJ_ f3, sS_, sI_ p1, sI_ hf1, sI_ p2, sI_ s2b, sI_ s2t, sI_ hf2, sI_ x2, sI_ p3, sI_ s3b, sI_ s3t, sI_ hf3, sI_ x3, sI_ (0 : Int32), sI_ b2, sI_ b3, sJ_ (0 : Int64), sS_, sJ_ t2, sS_, sJ_ t3, sS_, .val fv1, sJ_ v2, sS_, .val fv2, sJ_ v3, sS_, .val fv3, .val cv1, .val cv2, .val cv3, sR_ ax, sI_ (1 : Int32), sI_ h2, sU_, sU_, sU_, sU_, sU_, sU_, sU_] [cv2, (.ref ax)]))) (fun t kt => ?_) ?_
  · skip
    refine XS.aload X.here hx rfl (hb hby at_486) rfl rfl ?_
    refine XS.aload X.here hx rfl (hb hby at_488) rfl C2.isRef ?_
    exact kt
  obtain ⟨v_1, T_1, L_1, X_1, q_1, st_1⟩ := callVirtual X hx hZ (y := (⟨"com/example/dead_letter_replay/deadletterreplay/queue/Carries", "carried", "(Lcom/example/dead_letter_replay/deadletterreplay/queue/Carries$Carried;)V"⟩ : MethodName)) (z := (⟨"com/example/dead_letter_replay/deadletterreplay/queue/Carries", "carried", "(Lcom/example/dead_letter_replay/deadletterreplay/queue/Carries$Carried;)V"⟩ : MethodName)) (W := 0) hown (wdOf hw 18 rfl) (wdOf hw 19 rfl) (notFace_of_selects (args := #[]) (mvT hZ (wdOf hw 21 rfl))) (wdOf hw 21 rfl) (wdOf hw 20 rfl) (wdOf hw 2 rfl) (wdOf hw 22 rfl) (by decide) (rm_cr l Z a0 hw [] ax cv2 d1 d2 (OwnFst none d1) (0 : Int32) h n0 sz0 O BC oa S C2) (by decide) (by decide) (by decide) (by decide) eT S.exa (g := (mkF m 490 #[sI_ fl, sJ_ e1, sS_, sJ_ e2, sS_, sJ_ e3, sS_, sJ_ f2, sS_, sJ_ f3, sS_, sI_ p1, sI_ hf1, sI_ p2, sI_ s2b, sI_ s2t, sI_ hf2, sI_ x2, sI_ p3, sI_ s3b, sI_ s3t, sI_ hf3, sI_ x3, sI_ (0 : Int32), sI_ b2, sI_ b3, sJ_ (0 : Int64), sS_, sJ_ t2, sS_, sJ_ t3, sS_, .val fv1, sJ_ v2, sS_, .val fv2, sJ_ v3, sS_, .val fv3, .val cv1, .val cv2, .val cv3, sR_ ax, sI_ (1 : Int32), sI_ h2, sU_, sU_, sU_, sU_, sU_, sU_, sU_] [cv2, (.ref ax)])) rfl (by rw [hml]; rfl) (argsL := [cv2]) (rest := []) (lenOf pd_9 rfl) rfl rfl (Nat.le_refl _) (hb hby at_490)
  obtain ⟨hx_1, rfl, n_1, K_1, S_1, ha_1, hb_1⟩ := q_1
  have N_1 := Fr.app N n_1
  have f_2 : Old Z n0 T_1.heap := O.keep K_1 (allS oa all0)
  have f_3 : LongV Z T_1.heap fv1 o1 := L1.keepX K_1 S.exa (by decide)
  have f_4 : LongV Z T_1.heap fv2 o2 := L2.keepX K_1 S.exa (by decide)
  have f_5 : LongV Z T_1.heap fv3 o3 := L3.keepX K_1 S.exa (by decide)
  have f_6 : CarV Z T_1.heap cv1 d1 := C1.keepX K_1 S.exa (by decide) (by decide)
  have f_7 : CarV Z T_1.heap cv2 d2 := C2.keepX K_1 S.exa (by decide) (by decide)
  have f_8 : CarV Z T_1.heap cv3 d3 := C3.keepX K_1 S.exa (by decide) (by decide)
  have f_10 : Exa Z T_1.heap ax "com/example/dead_letter_replay/deadletterreplay/queue/Carries" := S.exa.keep K_1
  have K_11 : Keep h0 T_1.heap [] := K0.trans K_1 (allS (P := fun x => x ∈ [] ∨ h0.size ≤ x) (Or.inr za) all0)
  have y_11 : n0 ≤ T_1.heap.size := Nat.le_trans Z0 K_11.1
  refine Goes.go (U' := (T_1.setTop (mkF m 493 #[sI_ fl, sJ_ e1, sS_, sJ_ e2, sS_, sJ_ e3, sS_, sJ_ f2, sS_, sJ_ f3, sS_, sI_ p1, sI_ hf1, sI_ p2, sI_ s2b, sI_ s2t, sI_ hf2, sI_ x2, sI_ p3, sI_ s3b, sI_ s3t, sI_ hf3, sI_ x3, sI_ (0 : Int32), sI_ b2, sI_ b3, sJ_ (0 : Int64), sS_, sJ_ t2, sS_, sJ_ t3, sS_, .val fv1, sJ_ v2, sS_, .val fv2, sJ_ v3, sS_, .val fv3, .val cv1, .val cv2, .val cv3, sR_ ax, sI_ (1 : Int32), sI_ h2, sU_, sU_, sU_, sU_, sU_, sU_, sU_] []))) st_1 ?_
  have E2 := own_hd ha_1 hb_1 H2
  refine Goes.go (U' := (T_1.setTop (mkF m 495 #[sI_ fl, sJ_ e1, sS_, sJ_ e2, sS_, sJ_ e3, sS_, sJ_ f2, sS_, sJ_ f3, sS_, sI_ p1, sI_ hf1, sI_ p2, sI_ s2b, sI_ s2t, sI_ hf2, sI_ x2, sI_ p3, sI_ s3b, sI_ s3t, sI_ hf3, sI_ x3, sI_ (0 : Int32), sI_ b2, sI_ b3, sJ_ (0 : Int64), sS_, sJ_ t2, sS_, sJ_ t3, sS_, .val fv1, sJ_ v2, sS_, .val fv2, sJ_ v3, sS_, .val fv3, .val cv1, .val cv2, .val cv3, sR_ ax, sI_ (1 : Int32), sI_ h2, sU_, sU_, sU_, sU_, sU_, sU_, sU_] [(.int p1)]))) (fun t kt => ?_) ?_
  · skip
    refine XS.iload X_1.here hx rfl (hb hby at_493) rfl ?_
    exact kt
  by_cases c_12 : p1 = 0
  · -- p1 = 0
    refine Goes.go (U' := (T_1.setTop (mkF m 500 #[sI_ fl, sJ_ e1, sS_, sJ_ e2, sS_, sJ_ e3, sS_, sJ_ f2, sS_, sJ_ f3, sS_, sI_ p1, sI_ hf1, sI_ p2, sI_ s2b, sI_ s2t, sI_ hf2, sI_ x2, sI_ p3, sI_ s3b, sI_ s3t, sI_ hf3, sI_ x3, sI_ (0 : Int32), sI_ b2, sI_ b3, sJ_ (0 : Int64), sS_, sJ_ t2, sS_, sJ_ t3, sS_, .val fv1, sJ_ v2, sS_, .val fv2, sJ_ v3, sS_, .val fv3, .val cv1, .val cv2, .val cv3, sR_ ax, sI_ (1 : Int32), sI_ h2, sU_, sU_, sU_, sU_, sU_, sU_, sU_] [(.int p2)]))) (fun t kt => ?_) ?_
    · skip
      refine XS.ifNo X_1.here hx rfl (hb hby at_495) rfl (XT.i0_ne_f c_12) ?_
      refine XS.iload X_1.here hx rfl (hb hby at_498) rfl ?_
      exact kt
    by_cases c_13 : p2 = 0
    · -- p2 = 0
      have hfo : OwnFst (OwnFst none d1) d2 = none := by rw [hD1.1 c_12, hD2.1 c_13]; rfl
      by_cases ch : h2 = 0
      · -- h2
        refine Goes.go (U' := (T_1.setTop (mkF m 529 #[sI_ fl, sJ_ e1, sS_, sJ_ e2, sS_, sJ_ e3, sS_, sJ_ f2, sS_, sJ_ f3, sS_, sI_ p1, sI_ hf1, sI_ p2, sI_ s2b, sI_ s2t, sI_ hf2, sI_ x2, sI_ p3, sI_ s3b, sI_ s3t, sI_ hf3, sI_ x3, sI_ (0 : Int32), sI_ b2, sI_ b3, sJ_ (0 : Int64), sS_, sJ_ t2, sS_, sJ_ t3, sS_, .val fv1, sJ_ v2, sS_, .val fv2, sJ_ v3, sS_, .val fv3, .val cv1, .val cv2, .val cv3, sR_ ax, sI_ (1 : Int32), sI_ h2, sI_ (0 : Int32), sJ_ e2, sS_, sU_, sU_, sU_, sU_] [(.ref ax)]))) (fun t kt => ?_) ?_
        · skip
          refine XS.ifYes X_1.here hx rfl (pc0 := 500) (pc' := 507) rfl (hb hby at_500) rfl (XT.i0_eq_t c_13) (by decide) (by decide) ?_
          refine XS.iconst X_1.here hx rfl (hb hby at_507) ?_
          refine XS.istore X_1.here hx rfl (hb hby at_508) rfl (l' := #[sI_ fl, sJ_ e1, sS_, sJ_ e2, sS_, sJ_ e3, sS_, sJ_ f2, sS_, sJ_ f3, sS_, sI_ p1, sI_ hf1, sI_ p2, sI_ s2b, sI_ s2t, sI_ hf2, sI_ x2, sI_ p3, sI_ s3b, sI_ s3t, sI_ hf3, sI_ x3, sI_ (0 : Int32), sI_ b2, sI_ b3, sJ_ (0 : Int64), sS_, sJ_ t2, sS_, sJ_ t3, sS_, .val fv1, sJ_ v2, sS_, .val fv2, sJ_ v3, sS_, .val fv3, .val cv1, .val cv2, .val cv3, sR_ ax, sI_ (1 : Int32), sI_ h2, sI_ (0 : Int32), sU_, sU_, sU_, sU_, sU_, sU_]) rfl ?_
          refine XS.iload X_1.here hx rfl (hb hby at_510) rfl ?_
          refine XS.ifYes X_1.here hx rfl (pc0 := 512) (pc' := 519) rfl (hb hby at_512) rfl (XT.i0_eq_t c_12) (by decide) (by decide) ?_
          refine XS.lloadN X_1.here hx rfl (hb hby at_519) rfl ?_
          refine XS.lstore X_1.here hx rfl (hb hby at_520) rfl (l' := #[sI_ fl, sJ_ e1, sS_, sJ_ e2, sS_, sJ_ e3, sS_, sJ_ f2, sS_, sJ_ f3, sS_, sI_ p1, sI_ hf1, sI_ p2, sI_ s2b, sI_ s2t, sI_ hf2, sI_ x2, sI_ p3, sI_ s3b, sI_ s3t, sI_ hf3, sI_ x3, sI_ (0 : Int32), sI_ b2, sI_ b3, sJ_ (0 : Int64), sS_, sJ_ t2, sS_, sJ_ t3, sS_, .val fv1, sJ_ v2, sS_, .val fv2, sJ_ v3, sS_, .val fv3, .val cv1, .val cv2, .val cv3, sR_ ax, sI_ (1 : Int32), sI_ h2, sI_ (0 : Int32), sJ_ e2, sS_, sU_, sU_, sU_, sU_]) rfl ?_
          refine XS.iload X_1.here hx rfl (hb hby at_522) rfl ?_
          show Steps p.tables e below (T_1.setTop (mkF m 524 #[sI_ fl, sJ_ e1, sS_, sJ_ e2, sS_, sJ_ e3, sS_, sJ_ f2, sS_, sJ_ f3, sS_, sI_ p1, sI_ hf1, sI_ p2, sI_ s2b, sI_ s2t, sI_ hf2, sI_ x2, sI_ p3, sI_ s3b, sI_ s3t, sI_ hf3, sI_ x3, sI_ (0 : Int32), sI_ b2, sI_ b3, sJ_ (0 : Int64), sS_, sJ_ t2, sS_, sJ_ t3, sS_, .val fv1, sJ_ v2, sS_, .val fv2, sJ_ v3, sS_, .val fv3, .val cv1, .val cv2, .val cv3, sR_ ax, sI_ (1 : Int32), sI_ h2, sI_ (0 : Int32), sJ_ e2, sS_, sU_, sU_, sU_, sU_] [(.int (1 : Int32))])) t
          refine XS.ifNo X_1.here hx rfl (hb hby at_524) rfl (XT.i0_eq_f (by decide)) ?_
          refine XS.aload X_1.here hx rfl (hb hby at_527) rfl rfl ?_
          exact kt
        obtain ⟨v_14, T_14, L_14, X_14, q_14, st_14⟩ := callVirtual X_1 hx hZ (y := (⟨"com/example/dead_letter_replay/deadletterreplay/queue/Carries", "floor", "()Ljava/lang/Long;"⟩ : MethodName)) (z := (⟨"com/example/dead_letter_replay/deadletterreplay/queue/Carries", "floor", "()Ljava/lang/Long;"⟩ : MethodName)) (W := 0) hown (wdOf hw 9 rfl) (wdOf hw 10 rfl) (notFace_of_selects (args := #[]) (mvT hZ (wdOf hw 12 rfl))) (wdOf hw 12 rfl) (wdOf hw 11 rfl) (wdOf hw 2 rfl) (wdOf hw 13 rfl) (by decide) (rm_floor l Z a0 hw [] ax d2 (OwnFst (OwnFst none d1) d2) none hx_1 T_1.heap n0 y_11 S_1 (by rw [if_pos (E2.mpr ch), hfo])) (by decide) (by decide) (by decide) (by decide) (rfl : T_1.heap = T_1.heap) f_10 (g := (mkF m 529 #[sI_ fl, sJ_ e1, sS_, sJ_ e2, sS_, sJ_ e3, sS_, sJ_ f2, sS_, sJ_ f3, sS_, sI_ p1, sI_ hf1, sI_ p2, sI_ s2b, sI_ s2t, sI_ hf2, sI_ x2, sI_ p3, sI_ s3b, sI_ s3t, sI_ hf3, sI_ x3, sI_ (0 : Int32), sI_ b2, sI_ b3, sJ_ (0 : Int64), sS_, sJ_ t2, sS_, sJ_ t3, sS_, .val fv1, sJ_ v2, sS_, .val fv2, sJ_ v3, sS_, .val fv3, .val cv1, .val cv2, .val cv3, sR_ ax, sI_ (1 : Int32), sI_ h2, sI_ (0 : Int32), sJ_ e2, sS_, sU_, sU_, sU_, sU_] [(.ref ax)])) rfl (by rw [hml]; rfl) (argsL := []) (rest := []) (lenOf pd_5 rfl) rfl rfl (Nat.le_refl _) (hb hby at_529)
        obtain ⟨ow_14, rfl, n_14, K_14, W_14⟩ := q_14
        have N_14 := Fr.app N_1 n_14
        refine Goes.go (U' := (T_14.setTop (mkF m 532 #[sI_ fl, sJ_ e1, sS_, sJ_ e2, sS_, sJ_ e3, sS_, sJ_ f2, sS_, sJ_ f3, sS_, sI_ p1, sI_ hf1, sI_ p2, sI_ s2b, sI_ s2t, sI_ hf2, sI_ x2, sI_ p3, sI_ s3b, sI_ s3t, sI_ hf3, sI_ x3, sI_ (0 : Int32), sI_ b2, sI_ b3, sJ_ (0 : Int64), sS_, sJ_ t2, sS_, sJ_ t3, sS_, .val fv1, sJ_ v2, sS_, .val fv2, sJ_ v3, sS_, .val fv3, .val cv1, .val cv2, .val cv3, sR_ ax, sI_ (1 : Int32), sI_ h2, sI_ (0 : Int32), sJ_ e2, sS_, sU_, sU_, sU_, sU_] [ow_14]))) st_14 ?_
        refine Goes.go (U' := (T_14.setTop (mkF m 549 #[sI_ fl, sJ_ e1, sS_, sJ_ e2, sS_, sJ_ e3, sS_, sJ_ f2, sS_, sJ_ f3, sS_, sI_ p1, sI_ hf1, sI_ p2, sI_ s2b, sI_ s2t, sI_ hf2, sI_ x2, sI_ p3, sI_ s3b, sI_ s3t, sI_ hf3, sI_ x3, sI_ (0 : Int32), sI_ b2, sI_ b3, sJ_ (0 : Int64), sS_, sJ_ t2, sS_, sJ_ t3, sS_, .val fv1, sJ_ v2, sS_, .val fv2, sJ_ v3, sS_, .val fv3, .val cv1, .val cv2, .val cv3, sR_ ax, sI_ (1 : Int32), sI_ h2, sI_ (0 : Int32), sJ_ e2, sS_, sU_, sU_, sU_, sU_] [(.long e2), (.int (1 : Int32)), ow_14]))) (fun t kt => ?_) ?_
        · skip
          refine XS.iload X_14.here hx rfl (hb hby at_532) rfl ?_
          refine XS.ifNo X_14.here hx rfl (hb hby at_534) rfl (XT.i0_ne_f ch) ?_
          refine XS.iload X_14.here hx rfl (hb hby at_537) rfl ?_
          refine XS.ifNo X_14.here hx rfl (hb hby at_539) rfl (XT.i0_ne_f (by decide)) ?_
          refine XS.iconst X_14.here hx rfl (hb hby at_542) ?_
          refine XS.goto X_14.here hx rfl (pc0 := 543) (pc' := 547) rfl (hb hby at_543) (by decide) (by decide) ?_
          refine XS.lload X_14.here hx rfl (hb hby at_547) rfl ?_
          exact kt
        obtain ⟨v_15, T_15, L_15, X_15, q_15, st_15⟩ := callStatic X_14 hx hZ (y := (⟨"com/example/dead_letter_replay/deadletterreplay/queue/CarriesFloorPinLaw", "is", "(Ljava/lang/Long;ZJ)Z"⟩ : MethodName)) (W := 0) hown (wdOf hw 29 rfl) (wdOf hw 30 rfl) (wdOf hw 31 rfl) (wdOf hw 32 rfl) (by decide) (rm_is l Z a0 hw [] ow_14 (1 : Int32) e2 none T_1.heap n0 y_11 W_14 (by simp) (by simp)) (by decide) (by decide) (by decide) (by decide) K_14 (g := (mkF m 549 #[sI_ fl, sJ_ e1, sS_, sJ_ e2, sS_, sJ_ e3, sS_, sJ_ f2, sS_, sJ_ f3, sS_, sI_ p1, sI_ hf1, sI_ p2, sI_ s2b, sI_ s2t, sI_ hf2, sI_ x2, sI_ p3, sI_ s3b, sI_ s3t, sI_ hf3, sI_ x3, sI_ (0 : Int32), sI_ b2, sI_ b3, sJ_ (0 : Int64), sS_, sJ_ t2, sS_, sJ_ t3, sS_, .val fv1, sJ_ v2, sS_, .val fv2, sJ_ v3, sS_, .val fv3, .val cv1, .val cv2, .val cv3, sR_ ax, sI_ (1 : Int32), sI_ h2, sI_ (0 : Int32), sJ_ e2, sS_, sU_, sU_, sU_, sU_] [(.long e2), (.int (1 : Int32)), ow_14])) rfl (by rw [hml]; rfl) (argsL := [ow_14, (.int (1 : Int32)), (.long e2)]) (rest := []) (lenOf pd_10 rfl) rfl rfl (Nat.le_refl _) (hb hby at_549)
        obtain ⟨rfl, n_15, K_15⟩ := q_15
        have N_15 := Fr.app N_14 n_15
        refine Goes.go (U' := (T_15.setTop (mkF m 552 #[sI_ fl, sJ_ e1, sS_, sJ_ e2, sS_, sJ_ e3, sS_, sJ_ f2, sS_, sJ_ f3, sS_, sI_ p1, sI_ hf1, sI_ p2, sI_ s2b, sI_ s2t, sI_ hf2, sI_ x2, sI_ p3, sI_ s3b, sI_ s3t, sI_ hf3, sI_ x3, sI_ (0 : Int32), sI_ b2, sI_ b3, sJ_ (0 : Int64), sS_, sJ_ t2, sS_, sJ_ t3, sS_, .val fv1, sJ_ v2, sS_, .val fv2, sJ_ v3, sS_, .val fv3, .val cv1, .val cv2, .val cv3, sR_ ax, sI_ (1 : Int32), sI_ h2, sI_ (0 : Int32), sJ_ e2, sS_, sU_, sU_, sU_, sU_] [(.int (1 : Int32))]))) st_15 ?_
        refine Goes.go (U' := (T_15.setTop (mkF m 562 #[sI_ fl, sJ_ e1, sS_, sJ_ e2, sS_, sJ_ e3, sS_, sJ_ f2, sS_, sJ_ f3, sS_, sI_ p1, sI_ hf1, sI_ p2, sI_ s2b, sI_ s2t, sI_ hf2, sI_ x2, sI_ p3, sI_ s3b, sI_ s3t, sI_ hf3, sI_ x3, sI_ (0 : Int32), sI_ b2, sI_ b3, sJ_ (0 : Int64), sS_, sJ_ t2, sS_, sJ_ t3, sS_, .val fv1, sJ_ v2, sS_, .val fv2, sJ_ v3, sS_, .val fv3, .val cv1, .val cv2, .val cv3, sR_ ax, sI_ (1 : Int32), sI_ h2, sI_ (0 : Int32), sJ_ e2, sS_, sU_, sU_, sU_, sU_] []))) (fun t kt => ?_) ?_
        · skip
          refine XS.ifNo X_15.here hx rfl (hb hby at_552) rfl (XT.i0_eq_f (by decide)) ?_
          refine XS.iconst X_15.here hx rfl (hb hby at_555) ?_
          refine XS.goto X_15.here hx rfl (pc0 := 556) (pc' := 560) rfl (hb hby at_556) (by decide) (by decide) ?_
          refine XS.istore X_15.here hx rfl (hb hby at_560) rfl (l' := #[sI_ fl, sJ_ e1, sS_, sJ_ e2, sS_, sJ_ e3, sS_, sJ_ f2, sS_, sJ_ f3, sS_, sI_ p1, sI_ hf1, sI_ p2, sI_ s2b, sI_ s2t, sI_ hf2, sI_ x2, sI_ p3, sI_ s3b, sI_ s3t, sI_ hf3, sI_ x3, sI_ (0 : Int32), sI_ b2, sI_ b3, sJ_ (0 : Int64), sS_, sJ_ t2, sS_, sJ_ t3, sS_, .val fv1, sJ_ v2, sS_, .val fv2, sJ_ v3, sS_, .val fv3, .val cv1, .val cv2, .val cv3, sR_ ax, sI_ (1 : Int32), sI_ h2, sI_ (0 : Int32), sJ_ e2, sS_, sU_, sU_, sU_, sU_]) rfl ?_
          exact kt
        exact law_562 l Z a0 hw fl e1 e2 e3 f2 f3 p1 hf1 p2 s2b s2t hf2 x2 p3 s3b s3t hf3 x3 b2 b3 t2 t3 fv1 o1 v2 fv2 o2 v3 fv3 o3 cv1 d1 cv2 d2 cv3 d3 ax h2 (0 : Int32) e2 hx_1 h0 n0 Z0 p e s m below meth c hx hby hml hown hnm hret hlk hZ _ _ _ X_15 K_15 N_15 K_11 f_2 BC hb2 hb3 ht2 ht3 f_3 f_4 ho2 f_5 ho3 f_6 hD1 f_7 hD2 f_8 hD3 oa za S_1 H2 E2
      · -- h2
        refine Goes.go (U' := (T_1.setTop (mkF m 529 #[sI_ fl, sJ_ e1, sS_, sJ_ e2, sS_, sJ_ e3, sS_, sJ_ f2, sS_, sJ_ f3, sS_, sI_ p1, sI_ hf1, sI_ p2, sI_ s2b, sI_ s2t, sI_ hf2, sI_ x2, sI_ p3, sI_ s3b, sI_ s3t, sI_ hf3, sI_ x3, sI_ (0 : Int32), sI_ b2, sI_ b3, sJ_ (0 : Int64), sS_, sJ_ t2, sS_, sJ_ t3, sS_, .val fv1, sJ_ v2, sS_, .val fv2, sJ_ v3, sS_, .val fv3, .val cv1, .val cv2, .val cv3, sR_ ax, sI_ (1 : Int32), sI_ h2, sI_ (0 : Int32), sJ_ e2, sS_, sU_, sU_, sU_, sU_] [(.ref ax)]))) (fun t kt => ?_) ?_
        · skip
          refine XS.ifYes X_1.here hx rfl (pc0 := 500) (pc' := 507) rfl (hb hby at_500) rfl (XT.i0_eq_t c_13) (by decide) (by decide) ?_
          refine XS.iconst X_1.here hx rfl (hb hby at_507) ?_
          refine XS.istore X_1.here hx rfl (hb hby at_508) rfl (l' := #[sI_ fl, sJ_ e1, sS_, sJ_ e2, sS_, sJ_ e3, sS_, sJ_ f2, sS_, sJ_ f3, sS_, sI_ p1, sI_ hf1, sI_ p2, sI_ s2b, sI_ s2t, sI_ hf2, sI_ x2, sI_ p3, sI_ s3b, sI_ s3t, sI_ hf3, sI_ x3, sI_ (0 : Int32), sI_ b2, sI_ b3, sJ_ (0 : Int64), sS_, sJ_ t2, sS_, sJ_ t3, sS_, .val fv1, sJ_ v2, sS_, .val fv2, sJ_ v3, sS_, .val fv3, .val cv1, .val cv2, .val cv3, sR_ ax, sI_ (1 : Int32), sI_ h2, sI_ (0 : Int32), sU_, sU_, sU_, sU_, sU_, sU_]) rfl ?_
          refine XS.iload X_1.here hx rfl (hb hby at_510) rfl ?_
          refine XS.ifYes X_1.here hx rfl (pc0 := 512) (pc' := 519) rfl (hb hby at_512) rfl (XT.i0_eq_t c_12) (by decide) (by decide) ?_
          refine XS.lloadN X_1.here hx rfl (hb hby at_519) rfl ?_
          refine XS.lstore X_1.here hx rfl (hb hby at_520) rfl (l' := #[sI_ fl, sJ_ e1, sS_, sJ_ e2, sS_, sJ_ e3, sS_, sJ_ f2, sS_, sJ_ f3, sS_, sI_ p1, sI_ hf1, sI_ p2, sI_ s2b, sI_ s2t, sI_ hf2, sI_ x2, sI_ p3, sI_ s3b, sI_ s3t, sI_ hf3, sI_ x3, sI_ (0 : Int32), sI_ b2, sI_ b3, sJ_ (0 : Int64), sS_, sJ_ t2, sS_, sJ_ t3, sS_, .val fv1, sJ_ v2, sS_, .val fv2, sJ_ v3, sS_, .val fv3, .val cv1, .val cv2, .val cv3, sR_ ax, sI_ (1 : Int32), sI_ h2, sI_ (0 : Int32), sJ_ e2, sS_, sU_, sU_, sU_, sU_]) rfl ?_
          refine XS.iload X_1.here hx rfl (hb hby at_522) rfl ?_
          show Steps p.tables e below (T_1.setTop (mkF m 524 #[sI_ fl, sJ_ e1, sS_, sJ_ e2, sS_, sJ_ e3, sS_, sJ_ f2, sS_, sJ_ f3, sS_, sI_ p1, sI_ hf1, sI_ p2, sI_ s2b, sI_ s2t, sI_ hf2, sI_ x2, sI_ p3, sI_ s3b, sI_ s3t, sI_ hf3, sI_ x3, sI_ (0 : Int32), sI_ b2, sI_ b3, sJ_ (0 : Int64), sS_, sJ_ t2, sS_, sJ_ t3, sS_, .val fv1, sJ_ v2, sS_, .val fv2, sJ_ v3, sS_, .val fv3, .val cv1, .val cv2, .val cv3, sR_ ax, sI_ (1 : Int32), sI_ h2, sI_ (0 : Int32), sJ_ e2, sS_, sU_, sU_, sU_, sU_] [(.int (1 : Int32))])) t
          refine XS.ifNo X_1.here hx rfl (hb hby at_524) rfl (XT.i0_eq_f (by decide)) ?_
          refine XS.aload X_1.here hx rfl (hb hby at_527) rfl rfl ?_
          exact kt
        obtain ⟨v_16, T_16, L_16, X_16, q_16, st_16⟩ := callVirtual X_1 hx hZ (y := (⟨"com/example/dead_letter_replay/deadletterreplay/queue/Carries", "floor", "()Ljava/lang/Long;"⟩ : MethodName)) (z := (⟨"com/example/dead_letter_replay/deadletterreplay/queue/Carries", "floor", "()Ljava/lang/Long;"⟩ : MethodName)) (W := 0) hown (wdOf hw 9 rfl) (wdOf hw 10 rfl) (notFace_of_selects (args := #[]) (mvT hZ (wdOf hw 12 rfl))) (wdOf hw 12 rfl) (wdOf hw 11 rfl) (wdOf hw 2 rfl) (wdOf hw 13 rfl) (by decide) (rm_floor l Z a0 hw [] ax d2 (OwnFst (OwnFst none d1) d2) none hx_1 T_1.heap n0 y_11 S_1 (by rw [if_neg (fun q => ch (E2.mp q))])) (by decide) (by decide) (by decide) (by decide) (rfl : T_1.heap = T_1.heap) f_10 (g := (mkF m 529 #[sI_ fl, sJ_ e1, sS_, sJ_ e2, sS_, sJ_ e3, sS_, sJ_ f2, sS_, sJ_ f3, sS_, sI_ p1, sI_ hf1, sI_ p2, sI_ s2b, sI_ s2t, sI_ hf2, sI_ x2, sI_ p3, sI_ s3b, sI_ s3t, sI_ hf3, sI_ x3, sI_ (0 : Int32), sI_ b2, sI_ b3, sJ_ (0 : Int64), sS_, sJ_ t2, sS_, sJ_ t3, sS_, .val fv1, sJ_ v2, sS_, .val fv2, sJ_ v3, sS_, .val fv3, .val cv1, .val cv2, .val cv3, sR_ ax, sI_ (1 : Int32), sI_ h2, sI_ (0 : Int32), sJ_ e2, sS_, sU_, sU_, sU_, sU_] [(.ref ax)])) rfl (by rw [hml]; rfl) (argsL := []) (rest := []) (lenOf pd_5 rfl) rfl rfl (Nat.le_refl _) (hb hby at_529)
        obtain ⟨ow_16, rfl, n_16, K_16, W_16⟩ := q_16
        have N_16 := Fr.app N_1 n_16
        refine Goes.go (U' := (T_16.setTop (mkF m 532 #[sI_ fl, sJ_ e1, sS_, sJ_ e2, sS_, sJ_ e3, sS_, sJ_ f2, sS_, sJ_ f3, sS_, sI_ p1, sI_ hf1, sI_ p2, sI_ s2b, sI_ s2t, sI_ hf2, sI_ x2, sI_ p3, sI_ s3b, sI_ s3t, sI_ hf3, sI_ x3, sI_ (0 : Int32), sI_ b2, sI_ b3, sJ_ (0 : Int64), sS_, sJ_ t2, sS_, sJ_ t3, sS_, .val fv1, sJ_ v2, sS_, .val fv2, sJ_ v3, sS_, .val fv3, .val cv1, .val cv2, .val cv3, sR_ ax, sI_ (1 : Int32), sI_ h2, sI_ (0 : Int32), sJ_ e2, sS_, sU_, sU_, sU_, sU_] [ow_16]))) st_16 ?_
        refine Goes.go (U' := (T_16.setTop (mkF m 549 #[sI_ fl, sJ_ e1, sS_, sJ_ e2, sS_, sJ_ e3, sS_, sJ_ f2, sS_, sJ_ f3, sS_, sI_ p1, sI_ hf1, sI_ p2, sI_ s2b, sI_ s2t, sI_ hf2, sI_ x2, sI_ p3, sI_ s3b, sI_ s3t, sI_ hf3, sI_ x3, sI_ (0 : Int32), sI_ b2, sI_ b3, sJ_ (0 : Int64), sS_, sJ_ t2, sS_, sJ_ t3, sS_, .val fv1, sJ_ v2, sS_, .val fv2, sJ_ v3, sS_, .val fv3, .val cv1, .val cv2, .val cv3, sR_ ax, sI_ (1 : Int32), sI_ h2, sI_ (0 : Int32), sJ_ e2, sS_, sU_, sU_, sU_, sU_] [(.long e2), (.int (1 : Int32)), ow_16]))) (fun t kt => ?_) ?_
        · skip
          refine XS.iload X_16.here hx rfl (hb hby at_532) rfl ?_
          refine XS.ifYes X_16.here hx rfl (pc0 := 534) (pc' := 542) rfl (hb hby at_534) rfl (XT.i0_ne_t ch) (by decide) (by decide) ?_
          refine XS.iconst X_16.here hx rfl (hb hby at_542) ?_
          refine XS.goto X_16.here hx rfl (pc0 := 543) (pc' := 547) rfl (hb hby at_543) (by decide) (by decide) ?_
          refine XS.lload X_16.here hx rfl (hb hby at_547) rfl ?_
          exact kt
        obtain ⟨v_17, T_17, L_17, X_17, q_17, st_17⟩ := callStatic X_16 hx hZ (y := (⟨"com/example/dead_letter_replay/deadletterreplay/queue/CarriesFloorPinLaw", "is", "(Ljava/lang/Long;ZJ)Z"⟩ : MethodName)) (W := 0) hown (wdOf hw 29 rfl) (wdOf hw 30 rfl) (wdOf hw 31 rfl) (wdOf hw 32 rfl) (by decide) (rm_is l Z a0 hw [] ow_16 (1 : Int32) e2 none T_1.heap n0 y_11 W_16 (by simp) (by simp)) (by decide) (by decide) (by decide) (by decide) K_16 (g := (mkF m 549 #[sI_ fl, sJ_ e1, sS_, sJ_ e2, sS_, sJ_ e3, sS_, sJ_ f2, sS_, sJ_ f3, sS_, sI_ p1, sI_ hf1, sI_ p2, sI_ s2b, sI_ s2t, sI_ hf2, sI_ x2, sI_ p3, sI_ s3b, sI_ s3t, sI_ hf3, sI_ x3, sI_ (0 : Int32), sI_ b2, sI_ b3, sJ_ (0 : Int64), sS_, sJ_ t2, sS_, sJ_ t3, sS_, .val fv1, sJ_ v2, sS_, .val fv2, sJ_ v3, sS_, .val fv3, .val cv1, .val cv2, .val cv3, sR_ ax, sI_ (1 : Int32), sI_ h2, sI_ (0 : Int32), sJ_ e2, sS_, sU_, sU_, sU_, sU_] [(.long e2), (.int (1 : Int32)), ow_16])) rfl (by rw [hml]; rfl) (argsL := [ow_16, (.int (1 : Int32)), (.long e2)]) (rest := []) (lenOf pd_10 rfl) rfl rfl (Nat.le_refl _) (hb hby at_549)
        obtain ⟨rfl, n_17, K_17⟩ := q_17
        have N_17 := Fr.app N_16 n_17
        refine Goes.go (U' := (T_17.setTop (mkF m 552 #[sI_ fl, sJ_ e1, sS_, sJ_ e2, sS_, sJ_ e3, sS_, sJ_ f2, sS_, sJ_ f3, sS_, sI_ p1, sI_ hf1, sI_ p2, sI_ s2b, sI_ s2t, sI_ hf2, sI_ x2, sI_ p3, sI_ s3b, sI_ s3t, sI_ hf3, sI_ x3, sI_ (0 : Int32), sI_ b2, sI_ b3, sJ_ (0 : Int64), sS_, sJ_ t2, sS_, sJ_ t3, sS_, .val fv1, sJ_ v2, sS_, .val fv2, sJ_ v3, sS_, .val fv3, .val cv1, .val cv2, .val cv3, sR_ ax, sI_ (1 : Int32), sI_ h2, sI_ (0 : Int32), sJ_ e2, sS_, sU_, sU_, sU_, sU_] [(.int (1 : Int32))]))) st_17 ?_
        refine Goes.go (U' := (T_17.setTop (mkF m 562 #[sI_ fl, sJ_ e1, sS_, sJ_ e2, sS_, sJ_ e3, sS_, sJ_ f2, sS_, sJ_ f3, sS_, sI_ p1, sI_ hf1, sI_ p2, sI_ s2b, sI_ s2t, sI_ hf2, sI_ x2, sI_ p3, sI_ s3b, sI_ s3t, sI_ hf3, sI_ x3, sI_ (0 : Int32), sI_ b2, sI_ b3, sJ_ (0 : Int64), sS_, sJ_ t2, sS_, sJ_ t3, sS_, .val fv1, sJ_ v2, sS_, .val fv2, sJ_ v3, sS_, .val fv3, .val cv1, .val cv2, .val cv3, sR_ ax, sI_ (1 : Int32), sI_ h2, sI_ (0 : Int32), sJ_ e2, sS_, sU_, sU_, sU_, sU_] []))) (fun t kt => ?_) ?_
        · skip
          refine XS.ifNo X_17.here hx rfl (hb hby at_552) rfl (XT.i0_eq_f (by decide)) ?_
          refine XS.iconst X_17.here hx rfl (hb hby at_555) ?_
          refine XS.goto X_17.here hx rfl (pc0 := 556) (pc' := 560) rfl (hb hby at_556) (by decide) (by decide) ?_
          refine XS.istore X_17.here hx rfl (hb hby at_560) rfl (l' := #[sI_ fl, sJ_ e1, sS_, sJ_ e2, sS_, sJ_ e3, sS_, sJ_ f2, sS_, sJ_ f3, sS_, sI_ p1, sI_ hf1, sI_ p2, sI_ s2b, sI_ s2t, sI_ hf2, sI_ x2, sI_ p3, sI_ s3b, sI_ s3t, sI_ hf3, sI_ x3, sI_ (0 : Int32), sI_ b2, sI_ b3, sJ_ (0 : Int64), sS_, sJ_ t2, sS_, sJ_ t3, sS_, .val fv1, sJ_ v2, sS_, .val fv2, sJ_ v3, sS_, .val fv3, .val cv1, .val cv2, .val cv3, sR_ ax, sI_ (1 : Int32), sI_ h2, sI_ (0 : Int32), sJ_ e2, sS_, sU_, sU_, sU_, sU_]) rfl ?_
          exact kt
        exact law_562 l Z a0 hw fl e1 e2 e3 f2 f3 p1 hf1 p2 s2b s2t hf2 x2 p3 s3b s3t hf3 x3 b2 b3 t2 t3 fv1 o1 v2 fv2 o2 v3 fv3 o3 cv1 d1 cv2 d2 cv3 d3 ax h2 (0 : Int32) e2 hx_1 h0 n0 Z0 p e s m below meth c hx hby hml hown hnm hret hlk hZ _ _ _ X_17 K_17 N_17 K_11 f_2 BC hb2 hb3 ht2 ht3 f_3 f_4 ho2 f_5 ho3 f_6 hD1 f_7 hD2 f_8 hD3 oa za S_1 H2 E2
    · -- not p2 = 0
      have hfo : OwnFst (OwnFst none d1) d2 = (some e2) := by rw [hD1.1 c_12, hD2.2 c_13]; rfl
      by_cases ch : h2 = 0
      · -- h2
        refine Goes.go (U' := (T_1.setTop (mkF m 529 #[sI_ fl, sJ_ e1, sS_, sJ_ e2, sS_, sJ_ e3, sS_, sJ_ f2, sS_, sJ_ f3, sS_, sI_ p1, sI_ hf1, sI_ p2, sI_ s2b, sI_ s2t, sI_ hf2, sI_ x2, sI_ p3, sI_ s3b, sI_ s3t, sI_ hf3, sI_ x3, sI_ (0 : Int32), sI_ b2, sI_ b3, sJ_ (0 : Int64), sS_, sJ_ t2, sS_, sJ_ t3, sS_, .val fv1, sJ_ v2, sS_, .val fv2, sJ_ v3, sS_, .val fv3, .val cv1, .val cv2, .val cv3, sR_ ax, sI_ (1 : Int32), sI_ h2, sI_ (1 : Int32), sJ_ e2, sS_, sU_, sU_, sU_, sU_] [(.ref ax)]))) (fun t kt => ?_) ?_
        · skip
          refine XS.ifNo X_1.here hx rfl (hb hby at_500) rfl (XT.i0_eq_f c_13) ?_
          refine XS.iconst X_1.here hx rfl (hb hby at_503) ?_
          refine XS.goto X_1.here hx rfl (pc0 := 504) (pc' := 508) rfl (hb hby at_504) (by decide) (by decide) ?_
          refine XS.istore X_1.here hx rfl (hb hby at_508) rfl (l' := #[sI_ fl, sJ_ e1, sS_, sJ_ e2, sS_, sJ_ e3, sS_, sJ_ f2, sS_, sJ_ f3, sS_, sI_ p1, sI_ hf1, sI_ p2, sI_ s2b, sI_ s2t, sI_ hf2, sI_ x2, sI_ p3, sI_ s3b, sI_ s3t, sI_ hf3, sI_ x3, sI_ (0 : Int32), sI_ b2, sI_ b3, sJ_ (0 : Int64), sS_, sJ_ t2, sS_, sJ_ t3, sS_, .val fv1, sJ_ v2, sS_, .val fv2, sJ_ v3, sS_, .val fv3, .val cv1, .val cv2, .val cv3, sR_ ax, sI_ (1 : Int32), sI_ h2, sI_ (1 : Int32), sU_, sU_, sU_, sU_, sU_, sU_]) rfl ?_
          refine XS.iload X_1.here hx rfl (hb hby at_510) rfl ?_
          refine XS.ifYes X_1.here hx rfl (pc0 := 512) (pc' := 519) rfl (hb hby at_512) rfl (XT.i0_eq_t c_12) (by decide) (by decide) ?_
          refine XS.lloadN X_1.here hx rfl (hb hby at_519) rfl ?_
          refine XS.lstore X_1.here hx rfl (hb hby at_520) rfl (l' := #[sI_ fl, sJ_ e1, sS_, sJ_ e2, sS_, sJ_ e3, sS_, sJ_ f2, sS_, sJ_ f3, sS_, sI_ p1, sI_ hf1, sI_ p2, sI_ s2b, sI_ s2t, sI_ hf2, sI_ x2, sI_ p3, sI_ s3b, sI_ s3t, sI_ hf3, sI_ x3, sI_ (0 : Int32), sI_ b2, sI_ b3, sJ_ (0 : Int64), sS_, sJ_ t2, sS_, sJ_ t3, sS_, .val fv1, sJ_ v2, sS_, .val fv2, sJ_ v3, sS_, .val fv3, .val cv1, .val cv2, .val cv3, sR_ ax, sI_ (1 : Int32), sI_ h2, sI_ (1 : Int32), sJ_ e2, sS_, sU_, sU_, sU_, sU_]) rfl ?_
          show Steps p.tables e below (T_1.setTop (mkF m 522 #[sI_ fl, sJ_ e1, sS_, sJ_ e2, sS_, sJ_ e3, sS_, sJ_ f2, sS_, sJ_ f3, sS_, sI_ p1, sI_ hf1, sI_ p2, sI_ s2b, sI_ s2t, sI_ hf2, sI_ x2, sI_ p3, sI_ s3b, sI_ s3t, sI_ hf3, sI_ x3, sI_ (0 : Int32), sI_ b2, sI_ b3, sJ_ (0 : Int64), sS_, sJ_ t2, sS_, sJ_ t3, sS_, .val fv1, sJ_ v2, sS_, .val fv2, sJ_ v3, sS_, .val fv3, .val cv1, .val cv2, .val cv3, sR_ ax, sI_ (1 : Int32), sI_ h2, sI_ (1 : Int32), sJ_ e2, sS_, sU_, sU_, sU_, sU_] [])) t
          refine XS.iload X_1.here hx rfl (hb hby at_522) rfl ?_
          refine XS.ifNo X_1.here hx rfl (hb hby at_524) rfl (XT.i0_eq_f (by decide)) ?_
          refine XS.aload X_1.here hx rfl (hb hby at_527) rfl rfl ?_
          exact kt
        obtain ⟨v_18, T_18, L_18, X_18, q_18, st_18⟩ := callVirtual X_1 hx hZ (y := (⟨"com/example/dead_letter_replay/deadletterreplay/queue/Carries", "floor", "()Ljava/lang/Long;"⟩ : MethodName)) (z := (⟨"com/example/dead_letter_replay/deadletterreplay/queue/Carries", "floor", "()Ljava/lang/Long;"⟩ : MethodName)) (W := 0) hown (wdOf hw 9 rfl) (wdOf hw 10 rfl) (notFace_of_selects (args := #[]) (mvT hZ (wdOf hw 12 rfl))) (wdOf hw 12 rfl) (wdOf hw 11 rfl) (wdOf hw 2 rfl) (wdOf hw 13 rfl) (by decide) (rm_floor l Z a0 hw [] ax d2 (OwnFst (OwnFst none d1) d2) (some e2) hx_1 T_1.heap n0 y_11 S_1 (by rw [if_pos (E2.mpr ch), hfo])) (by decide) (by decide) (by decide) (by decide) (rfl : T_1.heap = T_1.heap) f_10 (g := (mkF m 529 #[sI_ fl, sJ_ e1, sS_, sJ_ e2, sS_, sJ_ e3, sS_, sJ_ f2, sS_, sJ_ f3, sS_, sI_ p1, sI_ hf1, sI_ p2, sI_ s2b, sI_ s2t, sI_ hf2, sI_ x2, sI_ p3, sI_ s3b, sI_ s3t, sI_ hf3, sI_ x3, sI_ (0 : Int32), sI_ b2, sI_ b3, sJ_ (0 : Int64), sS_, sJ_ t2, sS_, sJ_ t3, sS_, .val fv1, sJ_ v2, sS_, .val fv2, sJ_ v3, sS_, .val fv3, .val cv1, .val cv2, .val cv3, sR_ ax, sI_ (1 : Int32), sI_ h2, sI_ (1 : Int32), sJ_ e2, sS_, sU_, sU_, sU_, sU_] [(.ref ax)])) rfl (by rw [hml]; rfl) (argsL := []) (rest := []) (lenOf pd_5 rfl) rfl rfl (Nat.le_refl _) (hb hby at_529)
        obtain ⟨ow_18, rfl, n_18, K_18, W_18⟩ := q_18
        have N_18 := Fr.app N_1 n_18
        refine Goes.go (U' := (T_18.setTop (mkF m 532 #[sI_ fl, sJ_ e1, sS_, sJ_ e2, sS_, sJ_ e3, sS_, sJ_ f2, sS_, sJ_ f3, sS_, sI_ p1, sI_ hf1, sI_ p2, sI_ s2b, sI_ s2t, sI_ hf2, sI_ x2, sI_ p3, sI_ s3b, sI_ s3t, sI_ hf3, sI_ x3, sI_ (0 : Int32), sI_ b2, sI_ b3, sJ_ (0 : Int64), sS_, sJ_ t2, sS_, sJ_ t3, sS_, .val fv1, sJ_ v2, sS_, .val fv2, sJ_ v3, sS_, .val fv3, .val cv1, .val cv2, .val cv3, sR_ ax, sI_ (1 : Int32), sI_ h2, sI_ (1 : Int32), sJ_ e2, sS_, sU_, sU_, sU_, sU_] [ow_18]))) st_18 ?_
        refine Goes.go (U' := (T_18.setTop (mkF m 549 #[sI_ fl, sJ_ e1, sS_, sJ_ e2, sS_, sJ_ e3, sS_, sJ_ f2, sS_, sJ_ f3, sS_, sI_ p1, sI_ hf1, sI_ p2, sI_ s2b, sI_ s2t, sI_ hf2, sI_ x2, sI_ p3, sI_ s3b, sI_ s3t, sI_ hf3, sI_ x3, sI_ (0 : Int32), sI_ b2, sI_ b3, sJ_ (0 : Int64), sS_, sJ_ t2, sS_, sJ_ t3, sS_, .val fv1, sJ_ v2, sS_, .val fv2, sJ_ v3, sS_, .val fv3, .val cv1, .val cv2, .val cv3, sR_ ax, sI_ (1 : Int32), sI_ h2, sI_ (1 : Int32), sJ_ e2, sS_, sU_, sU_, sU_, sU_] [(.long e2), (.int (0 : Int32)), ow_18]))) (fun t kt => ?_) ?_
        · skip
          refine XS.iload X_18.here hx rfl (hb hby at_532) rfl ?_
          refine XS.ifNo X_18.here hx rfl (hb hby at_534) rfl (XT.i0_ne_f ch) ?_
          refine XS.iload X_18.here hx rfl (hb hby at_537) rfl ?_
          refine XS.ifYes X_18.here hx rfl (pc0 := 539) (pc' := 546) rfl (hb hby at_539) rfl (XT.i0_ne_t (by decide)) (by decide) (by decide) ?_
          refine XS.iconst X_18.here hx rfl (hb hby at_546) ?_
          refine XS.lload X_18.here hx rfl (hb hby at_547) rfl ?_
          exact kt
        obtain ⟨v_19, T_19, L_19, X_19, q_19, st_19⟩ := callStatic X_18 hx hZ (y := (⟨"com/example/dead_letter_replay/deadletterreplay/queue/CarriesFloorPinLaw", "is", "(Ljava/lang/Long;ZJ)Z"⟩ : MethodName)) (W := 0) hown (wdOf hw 29 rfl) (wdOf hw 30 rfl) (wdOf hw 31 rfl) (wdOf hw 32 rfl) (by decide) (rm_is l Z a0 hw [] ow_18 (0 : Int32) e2 (some e2) T_1.heap n0 y_11 W_18 (by simp) (by simp)) (by decide) (by decide) (by decide) (by decide) K_18 (g := (mkF m 549 #[sI_ fl, sJ_ e1, sS_, sJ_ e2, sS_, sJ_ e3, sS_, sJ_ f2, sS_, sJ_ f3, sS_, sI_ p1, sI_ hf1, sI_ p2, sI_ s2b, sI_ s2t, sI_ hf2, sI_ x2, sI_ p3, sI_ s3b, sI_ s3t, sI_ hf3, sI_ x3, sI_ (0 : Int32), sI_ b2, sI_ b3, sJ_ (0 : Int64), sS_, sJ_ t2, sS_, sJ_ t3, sS_, .val fv1, sJ_ v2, sS_, .val fv2, sJ_ v3, sS_, .val fv3, .val cv1, .val cv2, .val cv3, sR_ ax, sI_ (1 : Int32), sI_ h2, sI_ (1 : Int32), sJ_ e2, sS_, sU_, sU_, sU_, sU_] [(.long e2), (.int (0 : Int32)), ow_18])) rfl (by rw [hml]; rfl) (argsL := [ow_18, (.int (0 : Int32)), (.long e2)]) (rest := []) (lenOf pd_10 rfl) rfl rfl (Nat.le_refl _) (hb hby at_549)
        obtain ⟨rfl, n_19, K_19⟩ := q_19
        have N_19 := Fr.app N_18 n_19
        refine Goes.go (U' := (T_19.setTop (mkF m 552 #[sI_ fl, sJ_ e1, sS_, sJ_ e2, sS_, sJ_ e3, sS_, sJ_ f2, sS_, sJ_ f3, sS_, sI_ p1, sI_ hf1, sI_ p2, sI_ s2b, sI_ s2t, sI_ hf2, sI_ x2, sI_ p3, sI_ s3b, sI_ s3t, sI_ hf3, sI_ x3, sI_ (0 : Int32), sI_ b2, sI_ b3, sJ_ (0 : Int64), sS_, sJ_ t2, sS_, sJ_ t3, sS_, .val fv1, sJ_ v2, sS_, .val fv2, sJ_ v3, sS_, .val fv3, .val cv1, .val cv2, .val cv3, sR_ ax, sI_ (1 : Int32), sI_ h2, sI_ (1 : Int32), sJ_ e2, sS_, sU_, sU_, sU_, sU_] [(.int (1 : Int32))]))) st_19 ?_
        refine Goes.go (U' := (T_19.setTop (mkF m 562 #[sI_ fl, sJ_ e1, sS_, sJ_ e2, sS_, sJ_ e3, sS_, sJ_ f2, sS_, sJ_ f3, sS_, sI_ p1, sI_ hf1, sI_ p2, sI_ s2b, sI_ s2t, sI_ hf2, sI_ x2, sI_ p3, sI_ s3b, sI_ s3t, sI_ hf3, sI_ x3, sI_ (0 : Int32), sI_ b2, sI_ b3, sJ_ (0 : Int64), sS_, sJ_ t2, sS_, sJ_ t3, sS_, .val fv1, sJ_ v2, sS_, .val fv2, sJ_ v3, sS_, .val fv3, .val cv1, .val cv2, .val cv3, sR_ ax, sI_ (1 : Int32), sI_ h2, sI_ (1 : Int32), sJ_ e2, sS_, sU_, sU_, sU_, sU_] []))) (fun t kt => ?_) ?_
        · skip
          refine XS.ifNo X_19.here hx rfl (hb hby at_552) rfl (XT.i0_eq_f (by decide)) ?_
          refine XS.iconst X_19.here hx rfl (hb hby at_555) ?_
          refine XS.goto X_19.here hx rfl (pc0 := 556) (pc' := 560) rfl (hb hby at_556) (by decide) (by decide) ?_
          refine XS.istore X_19.here hx rfl (hb hby at_560) rfl (l' := #[sI_ fl, sJ_ e1, sS_, sJ_ e2, sS_, sJ_ e3, sS_, sJ_ f2, sS_, sJ_ f3, sS_, sI_ p1, sI_ hf1, sI_ p2, sI_ s2b, sI_ s2t, sI_ hf2, sI_ x2, sI_ p3, sI_ s3b, sI_ s3t, sI_ hf3, sI_ x3, sI_ (0 : Int32), sI_ b2, sI_ b3, sJ_ (0 : Int64), sS_, sJ_ t2, sS_, sJ_ t3, sS_, .val fv1, sJ_ v2, sS_, .val fv2, sJ_ v3, sS_, .val fv3, .val cv1, .val cv2, .val cv3, sR_ ax, sI_ (1 : Int32), sI_ h2, sI_ (1 : Int32), sJ_ e2, sS_, sU_, sU_, sU_, sU_]) rfl ?_
          exact kt
        exact law_562 l Z a0 hw fl e1 e2 e3 f2 f3 p1 hf1 p2 s2b s2t hf2 x2 p3 s3b s3t hf3 x3 b2 b3 t2 t3 fv1 o1 v2 fv2 o2 v3 fv3 o3 cv1 d1 cv2 d2 cv3 d3 ax h2 (1 : Int32) e2 hx_1 h0 n0 Z0 p e s m below meth c hx hby hml hown hnm hret hlk hZ _ _ _ X_19 K_19 N_19 K_11 f_2 BC hb2 hb3 ht2 ht3 f_3 f_4 ho2 f_5 ho3 f_6 hD1 f_7 hD2 f_8 hD3 oa za S_1 H2 E2
      · -- h2
        refine Goes.go (U' := (T_1.setTop (mkF m 529 #[sI_ fl, sJ_ e1, sS_, sJ_ e2, sS_, sJ_ e3, sS_, sJ_ f2, sS_, sJ_ f3, sS_, sI_ p1, sI_ hf1, sI_ p2, sI_ s2b, sI_ s2t, sI_ hf2, sI_ x2, sI_ p3, sI_ s3b, sI_ s3t, sI_ hf3, sI_ x3, sI_ (0 : Int32), sI_ b2, sI_ b3, sJ_ (0 : Int64), sS_, sJ_ t2, sS_, sJ_ t3, sS_, .val fv1, sJ_ v2, sS_, .val fv2, sJ_ v3, sS_, .val fv3, .val cv1, .val cv2, .val cv3, sR_ ax, sI_ (1 : Int32), sI_ h2, sI_ (1 : Int32), sJ_ e2, sS_, sU_, sU_, sU_, sU_] [(.ref ax)]))) (fun t kt => ?_) ?_
        · skip
          refine XS.ifNo X_1.here hx rfl (hb hby at_500) rfl (XT.i0_eq_f c_13) ?_
          refine XS.iconst X_1.here hx rfl (hb hby at_503) ?_
          refine XS.goto X_1.here hx rfl (pc0 := 504) (pc' := 508) rfl (hb hby at_504) (by decide) (by decide) ?_
          refine XS.istore X_1.here hx rfl (hb hby at_508) rfl (l' := #[sI_ fl, sJ_ e1, sS_, sJ_ e2, sS_, sJ_ e3, sS_, sJ_ f2, sS_, sJ_ f3, sS_, sI_ p1, sI_ hf1, sI_ p2, sI_ s2b, sI_ s2t, sI_ hf2, sI_ x2, sI_ p3, sI_ s3b, sI_ s3t, sI_ hf3, sI_ x3, sI_ (0 : Int32), sI_ b2, sI_ b3, sJ_ (0 : Int64), sS_, sJ_ t2, sS_, sJ_ t3, sS_, .val fv1, sJ_ v2, sS_, .val fv2, sJ_ v3, sS_, .val fv3, .val cv1, .val cv2, .val cv3, sR_ ax, sI_ (1 : Int32), sI_ h2, sI_ (1 : Int32), sU_, sU_, sU_, sU_, sU_, sU_]) rfl ?_
          refine XS.iload X_1.here hx rfl (hb hby at_510) rfl ?_
          refine XS.ifYes X_1.here hx rfl (pc0 := 512) (pc' := 519) rfl (hb hby at_512) rfl (XT.i0_eq_t c_12) (by decide) (by decide) ?_
          refine XS.lloadN X_1.here hx rfl (hb hby at_519) rfl ?_
          refine XS.lstore X_1.here hx rfl (hb hby at_520) rfl (l' := #[sI_ fl, sJ_ e1, sS_, sJ_ e2, sS_, sJ_ e3, sS_, sJ_ f2, sS_, sJ_ f3, sS_, sI_ p1, sI_ hf1, sI_ p2, sI_ s2b, sI_ s2t, sI_ hf2, sI_ x2, sI_ p3, sI_ s3b, sI_ s3t, sI_ hf3, sI_ x3, sI_ (0 : Int32), sI_ b2, sI_ b3, sJ_ (0 : Int64), sS_, sJ_ t2, sS_, sJ_ t3, sS_, .val fv1, sJ_ v2, sS_, .val fv2, sJ_ v3, sS_, .val fv3, .val cv1, .val cv2, .val cv3, sR_ ax, sI_ (1 : Int32), sI_ h2, sI_ (1 : Int32), sJ_ e2, sS_, sU_, sU_, sU_, sU_]) rfl ?_
          show Steps p.tables e below (T_1.setTop (mkF m 522 #[sI_ fl, sJ_ e1, sS_, sJ_ e2, sS_, sJ_ e3, sS_, sJ_ f2, sS_, sJ_ f3, sS_, sI_ p1, sI_ hf1, sI_ p2, sI_ s2b, sI_ s2t, sI_ hf2, sI_ x2, sI_ p3, sI_ s3b, sI_ s3t, sI_ hf3, sI_ x3, sI_ (0 : Int32), sI_ b2, sI_ b3, sJ_ (0 : Int64), sS_, sJ_ t2, sS_, sJ_ t3, sS_, .val fv1, sJ_ v2, sS_, .val fv2, sJ_ v3, sS_, .val fv3, .val cv1, .val cv2, .val cv3, sR_ ax, sI_ (1 : Int32), sI_ h2, sI_ (1 : Int32), sJ_ e2, sS_, sU_, sU_, sU_, sU_] [])) t
          refine XS.iload X_1.here hx rfl (hb hby at_522) rfl ?_
          refine XS.ifNo X_1.here hx rfl (hb hby at_524) rfl (XT.i0_eq_f (by decide)) ?_
          refine XS.aload X_1.here hx rfl (hb hby at_527) rfl rfl ?_
          exact kt
        obtain ⟨v_20, T_20, L_20, X_20, q_20, st_20⟩ := callVirtual X_1 hx hZ (y := (⟨"com/example/dead_letter_replay/deadletterreplay/queue/Carries", "floor", "()Ljava/lang/Long;"⟩ : MethodName)) (z := (⟨"com/example/dead_letter_replay/deadletterreplay/queue/Carries", "floor", "()Ljava/lang/Long;"⟩ : MethodName)) (W := 0) hown (wdOf hw 9 rfl) (wdOf hw 10 rfl) (notFace_of_selects (args := #[]) (mvT hZ (wdOf hw 12 rfl))) (wdOf hw 12 rfl) (wdOf hw 11 rfl) (wdOf hw 2 rfl) (wdOf hw 13 rfl) (by decide) (rm_floor l Z a0 hw [] ax d2 (OwnFst (OwnFst none d1) d2) none hx_1 T_1.heap n0 y_11 S_1 (by rw [if_neg (fun q => ch (E2.mp q))])) (by decide) (by decide) (by decide) (by decide) (rfl : T_1.heap = T_1.heap) f_10 (g := (mkF m 529 #[sI_ fl, sJ_ e1, sS_, sJ_ e2, sS_, sJ_ e3, sS_, sJ_ f2, sS_, sJ_ f3, sS_, sI_ p1, sI_ hf1, sI_ p2, sI_ s2b, sI_ s2t, sI_ hf2, sI_ x2, sI_ p3, sI_ s3b, sI_ s3t, sI_ hf3, sI_ x3, sI_ (0 : Int32), sI_ b2, sI_ b3, sJ_ (0 : Int64), sS_, sJ_ t2, sS_, sJ_ t3, sS_, .val fv1, sJ_ v2, sS_, .val fv2, sJ_ v3, sS_, .val fv3, .val cv1, .val cv2, .val cv3, sR_ ax, sI_ (1 : Int32), sI_ h2, sI_ (1 : Int32), sJ_ e2, sS_, sU_, sU_, sU_, sU_] [(.ref ax)])) rfl (by rw [hml]; rfl) (argsL := []) (rest := []) (lenOf pd_5 rfl) rfl rfl (Nat.le_refl _) (hb hby at_529)
        obtain ⟨ow_20, rfl, n_20, K_20, W_20⟩ := q_20
        have N_20 := Fr.app N_1 n_20
        refine Goes.go (U' := (T_20.setTop (mkF m 532 #[sI_ fl, sJ_ e1, sS_, sJ_ e2, sS_, sJ_ e3, sS_, sJ_ f2, sS_, sJ_ f3, sS_, sI_ p1, sI_ hf1, sI_ p2, sI_ s2b, sI_ s2t, sI_ hf2, sI_ x2, sI_ p3, sI_ s3b, sI_ s3t, sI_ hf3, sI_ x3, sI_ (0 : Int32), sI_ b2, sI_ b3, sJ_ (0 : Int64), sS_, sJ_ t2, sS_, sJ_ t3, sS_, .val fv1, sJ_ v2, sS_, .val fv2, sJ_ v3, sS_, .val fv3, .val cv1, .val cv2, .val cv3, sR_ ax, sI_ (1 : Int32), sI_ h2, sI_ (1 : Int32), sJ_ e2, sS_, sU_, sU_, sU_, sU_] [ow_20]))) st_20 ?_
        refine Goes.go (U' := (T_20.setTop (mkF m 549 #[sI_ fl, sJ_ e1, sS_, sJ_ e2, sS_, sJ_ e3, sS_, sJ_ f2, sS_, sJ_ f3, sS_, sI_ p1, sI_ hf1, sI_ p2, sI_ s2b, sI_ s2t, sI_ hf2, sI_ x2, sI_ p3, sI_ s3b, sI_ s3t, sI_ hf3, sI_ x3, sI_ (0 : Int32), sI_ b2, sI_ b3, sJ_ (0 : Int64), sS_, sJ_ t2, sS_, sJ_ t3, sS_, .val fv1, sJ_ v2, sS_, .val fv2, sJ_ v3, sS_, .val fv3, .val cv1, .val cv2, .val cv3, sR_ ax, sI_ (1 : Int32), sI_ h2, sI_ (1 : Int32), sJ_ e2, sS_, sU_, sU_, sU_, sU_] [(.long e2), (.int (1 : Int32)), ow_20]))) (fun t kt => ?_) ?_
        · skip
          refine XS.iload X_20.here hx rfl (hb hby at_532) rfl ?_
          refine XS.ifYes X_20.here hx rfl (pc0 := 534) (pc' := 542) rfl (hb hby at_534) rfl (XT.i0_ne_t ch) (by decide) (by decide) ?_
          refine XS.iconst X_20.here hx rfl (hb hby at_542) ?_
          refine XS.goto X_20.here hx rfl (pc0 := 543) (pc' := 547) rfl (hb hby at_543) (by decide) (by decide) ?_
          refine XS.lload X_20.here hx rfl (hb hby at_547) rfl ?_
          exact kt
        obtain ⟨v_21, T_21, L_21, X_21, q_21, st_21⟩ := callStatic X_20 hx hZ (y := (⟨"com/example/dead_letter_replay/deadletterreplay/queue/CarriesFloorPinLaw", "is", "(Ljava/lang/Long;ZJ)Z"⟩ : MethodName)) (W := 0) hown (wdOf hw 29 rfl) (wdOf hw 30 rfl) (wdOf hw 31 rfl) (wdOf hw 32 rfl) (by decide) (rm_is l Z a0 hw [] ow_20 (1 : Int32) e2 none T_1.heap n0 y_11 W_20 (by simp) (by simp)) (by decide) (by decide) (by decide) (by decide) K_20 (g := (mkF m 549 #[sI_ fl, sJ_ e1, sS_, sJ_ e2, sS_, sJ_ e3, sS_, sJ_ f2, sS_, sJ_ f3, sS_, sI_ p1, sI_ hf1, sI_ p2, sI_ s2b, sI_ s2t, sI_ hf2, sI_ x2, sI_ p3, sI_ s3b, sI_ s3t, sI_ hf3, sI_ x3, sI_ (0 : Int32), sI_ b2, sI_ b3, sJ_ (0 : Int64), sS_, sJ_ t2, sS_, sJ_ t3, sS_, .val fv1, sJ_ v2, sS_, .val fv2, sJ_ v3, sS_, .val fv3, .val cv1, .val cv2, .val cv3, sR_ ax, sI_ (1 : Int32), sI_ h2, sI_ (1 : Int32), sJ_ e2, sS_, sU_, sU_, sU_, sU_] [(.long e2), (.int (1 : Int32)), ow_20])) rfl (by rw [hml]; rfl) (argsL := [ow_20, (.int (1 : Int32)), (.long e2)]) (rest := []) (lenOf pd_10 rfl) rfl rfl (Nat.le_refl _) (hb hby at_549)
        obtain ⟨rfl, n_21, K_21⟩ := q_21
        have N_21 := Fr.app N_20 n_21
        refine Goes.go (U' := (T_21.setTop (mkF m 552 #[sI_ fl, sJ_ e1, sS_, sJ_ e2, sS_, sJ_ e3, sS_, sJ_ f2, sS_, sJ_ f3, sS_, sI_ p1, sI_ hf1, sI_ p2, sI_ s2b, sI_ s2t, sI_ hf2, sI_ x2, sI_ p3, sI_ s3b, sI_ s3t, sI_ hf3, sI_ x3, sI_ (0 : Int32), sI_ b2, sI_ b3, sJ_ (0 : Int64), sS_, sJ_ t2, sS_, sJ_ t3, sS_, .val fv1, sJ_ v2, sS_, .val fv2, sJ_ v3, sS_, .val fv3, .val cv1, .val cv2, .val cv3, sR_ ax, sI_ (1 : Int32), sI_ h2, sI_ (1 : Int32), sJ_ e2, sS_, sU_, sU_, sU_, sU_] [(.int (1 : Int32))]))) st_21 ?_
        refine Goes.go (U' := (T_21.setTop (mkF m 562 #[sI_ fl, sJ_ e1, sS_, sJ_ e2, sS_, sJ_ e3, sS_, sJ_ f2, sS_, sJ_ f3, sS_, sI_ p1, sI_ hf1, sI_ p2, sI_ s2b, sI_ s2t, sI_ hf2, sI_ x2, sI_ p3, sI_ s3b, sI_ s3t, sI_ hf3, sI_ x3, sI_ (0 : Int32), sI_ b2, sI_ b3, sJ_ (0 : Int64), sS_, sJ_ t2, sS_, sJ_ t3, sS_, .val fv1, sJ_ v2, sS_, .val fv2, sJ_ v3, sS_, .val fv3, .val cv1, .val cv2, .val cv3, sR_ ax, sI_ (1 : Int32), sI_ h2, sI_ (1 : Int32), sJ_ e2, sS_, sU_, sU_, sU_, sU_] []))) (fun t kt => ?_) ?_
        · skip
          refine XS.ifNo X_21.here hx rfl (hb hby at_552) rfl (XT.i0_eq_f (by decide)) ?_
          refine XS.iconst X_21.here hx rfl (hb hby at_555) ?_
          refine XS.goto X_21.here hx rfl (pc0 := 556) (pc' := 560) rfl (hb hby at_556) (by decide) (by decide) ?_
          refine XS.istore X_21.here hx rfl (hb hby at_560) rfl (l' := #[sI_ fl, sJ_ e1, sS_, sJ_ e2, sS_, sJ_ e3, sS_, sJ_ f2, sS_, sJ_ f3, sS_, sI_ p1, sI_ hf1, sI_ p2, sI_ s2b, sI_ s2t, sI_ hf2, sI_ x2, sI_ p3, sI_ s3b, sI_ s3t, sI_ hf3, sI_ x3, sI_ (0 : Int32), sI_ b2, sI_ b3, sJ_ (0 : Int64), sS_, sJ_ t2, sS_, sJ_ t3, sS_, .val fv1, sJ_ v2, sS_, .val fv2, sJ_ v3, sS_, .val fv3, .val cv1, .val cv2, .val cv3, sR_ ax, sI_ (1 : Int32), sI_ h2, sI_ (1 : Int32), sJ_ e2, sS_, sU_, sU_, sU_, sU_]) rfl ?_
          exact kt
        exact law_562 l Z a0 hw fl e1 e2 e3 f2 f3 p1 hf1 p2 s2b s2t hf2 x2 p3 s3b s3t hf3 x3 b2 b3 t2 t3 fv1 o1 v2 fv2 o2 v3 fv3 o3 cv1 d1 cv2 d2 cv3 d3 ax h2 (1 : Int32) e2 hx_1 h0 n0 Z0 p e s m below meth c hx hby hml hown hnm hret hlk hZ _ _ _ X_21 K_21 N_21 K_11 f_2 BC hb2 hb3 ht2 ht3 f_3 f_4 ho2 f_5 ho3 f_6 hD1 f_7 hD2 f_8 hD3 oa za S_1 H2 E2
  · -- not p1 = 0
    have hfo : OwnFst (OwnFst none d1) d2 = (some e1) := by rw [hD1.2 c_12]; rfl
    by_cases ch : h2 = 0
    · -- h2
      refine Goes.go (U' := (T_1.setTop (mkF m 529 #[sI_ fl, sJ_ e1, sS_, sJ_ e2, sS_, sJ_ e3, sS_, sJ_ f2, sS_, sJ_ f3, sS_, sI_ p1, sI_ hf1, sI_ p2, sI_ s2b, sI_ s2t, sI_ hf2, sI_ x2, sI_ p3, sI_ s3b, sI_ s3t, sI_ hf3, sI_ x3, sI_ (0 : Int32), sI_ b2, sI_ b3, sJ_ (0 : Int64), sS_, sJ_ t2, sS_, sJ_ t3, sS_, .val fv1, sJ_ v2, sS_, .val fv2, sJ_ v3, sS_, .val fv3, .val cv1, .val cv2, .val cv3, sR_ ax, sI_ (1 : Int32), sI_ h2, sI_ (1 : Int32), sJ_ e1, sS_, sU_, sU_, sU_, sU_] [(.ref ax)]))) (fun t kt => ?_) ?_
      · skip
        refine XS.ifYes X_1.here hx rfl (pc0 := 495) (pc' := 503) rfl (hb hby at_495) rfl (XT.i0_ne_t c_12) (by decide) (by decide) ?_
        refine XS.iconst X_1.here hx rfl (hb hby at_503) ?_
        refine XS.goto X_1.here hx rfl (pc0 := 504) (pc' := 508) rfl (hb hby at_504) (by decide) (by decide) ?_
        refine XS.istore X_1.here hx rfl (hb hby at_508) rfl (l' := #[sI_ fl, sJ_ e1, sS_, sJ_ e2, sS_, sJ_ e3, sS_, sJ_ f2, sS_, sJ_ f3, sS_, sI_ p1, sI_ hf1, sI_ p2, sI_ s2b, sI_ s2t, sI_ hf2, sI_ x2, sI_ p3, sI_ s3b, sI_ s3t, sI_ hf3, sI_ x3, sI_ (0 : Int32), sI_ b2, sI_ b3, sJ_ (0 : Int64), sS_, sJ_ t2, sS_, sJ_ t3, sS_, .val fv1, sJ_ v2, sS_, .val fv2, sJ_ v3, sS_, .val fv3, .val cv1, .val cv2, .val cv3, sR_ ax, sI_ (1 : Int32), sI_ h2, sI_ (1 : Int32), sU_, sU_, sU_, sU_, sU_, sU_]) rfl ?_
        refine XS.iload X_1.here hx rfl (hb hby at_510) rfl ?_
        refine XS.ifNo X_1.here hx rfl (hb hby at_512) rfl (XT.i0_eq_f c_12) ?_
        refine XS.lloadN X_1.here hx rfl (hb hby at_515) rfl ?_
        refine XS.goto X_1.here hx rfl (pc0 := 516) (pc' := 520) rfl (hb hby at_516) (by decide) (by decide) ?_
        show Steps p.tables e below (T_1.setTop (mkF m 520 #[sI_ fl, sJ_ e1, sS_, sJ_ e2, sS_, sJ_ e3, sS_, sJ_ f2, sS_, sJ_ f3, sS_, sI_ p1, sI_ hf1, sI_ p2, sI_ s2b, sI_ s2t, sI_ hf2, sI_ x2, sI_ p3, sI_ s3b, sI_ s3t, sI_ hf3, sI_ x3, sI_ (0 : Int32), sI_ b2, sI_ b3, sJ_ (0 : Int64), sS_, sJ_ t2, sS_, sJ_ t3, sS_, .val fv1, sJ_ v2, sS_, .val fv2, sJ_ v3, sS_, .val fv3, .val cv1, .val cv2, .val cv3, sR_ ax, sI_ (1 : Int32), sI_ h2, sI_ (1 : Int32), sU_, sU_, sU_, sU_, sU_, sU_] [(.long e1)])) t
        refine XS.lstore X_1.here hx rfl (hb hby at_520) rfl (l' := #[sI_ fl, sJ_ e1, sS_, sJ_ e2, sS_, sJ_ e3, sS_, sJ_ f2, sS_, sJ_ f3, sS_, sI_ p1, sI_ hf1, sI_ p2, sI_ s2b, sI_ s2t, sI_ hf2, sI_ x2, sI_ p3, sI_ s3b, sI_ s3t, sI_ hf3, sI_ x3, sI_ (0 : Int32), sI_ b2, sI_ b3, sJ_ (0 : Int64), sS_, sJ_ t2, sS_, sJ_ t3, sS_, .val fv1, sJ_ v2, sS_, .val fv2, sJ_ v3, sS_, .val fv3, .val cv1, .val cv2, .val cv3, sR_ ax, sI_ (1 : Int32), sI_ h2, sI_ (1 : Int32), sJ_ e1, sS_, sU_, sU_, sU_, sU_]) rfl ?_
        refine XS.iload X_1.here hx rfl (hb hby at_522) rfl ?_
        refine XS.ifNo X_1.here hx rfl (hb hby at_524) rfl (XT.i0_eq_f (by decide)) ?_
        refine XS.aload X_1.here hx rfl (hb hby at_527) rfl rfl ?_
        exact kt
      obtain ⟨v_22, T_22, L_22, X_22, q_22, st_22⟩ := callVirtual X_1 hx hZ (y := (⟨"com/example/dead_letter_replay/deadletterreplay/queue/Carries", "floor", "()Ljava/lang/Long;"⟩ : MethodName)) (z := (⟨"com/example/dead_letter_replay/deadletterreplay/queue/Carries", "floor", "()Ljava/lang/Long;"⟩ : MethodName)) (W := 0) hown (wdOf hw 9 rfl) (wdOf hw 10 rfl) (notFace_of_selects (args := #[]) (mvT hZ (wdOf hw 12 rfl))) (wdOf hw 12 rfl) (wdOf hw 11 rfl) (wdOf hw 2 rfl) (wdOf hw 13 rfl) (by decide) (rm_floor l Z a0 hw [] ax d2 (OwnFst (OwnFst none d1) d2) (some e1) hx_1 T_1.heap n0 y_11 S_1 (by rw [if_pos (E2.mpr ch), hfo])) (by decide) (by decide) (by decide) (by decide) (rfl : T_1.heap = T_1.heap) f_10 (g := (mkF m 529 #[sI_ fl, sJ_ e1, sS_, sJ_ e2, sS_, sJ_ e3, sS_, sJ_ f2, sS_, sJ_ f3, sS_, sI_ p1, sI_ hf1, sI_ p2, sI_ s2b, sI_ s2t, sI_ hf2, sI_ x2, sI_ p3, sI_ s3b, sI_ s3t, sI_ hf3, sI_ x3, sI_ (0 : Int32), sI_ b2, sI_ b3, sJ_ (0 : Int64), sS_, sJ_ t2, sS_, sJ_ t3, sS_, .val fv1, sJ_ v2, sS_, .val fv2, sJ_ v3, sS_, .val fv3, .val cv1, .val cv2, .val cv3, sR_ ax, sI_ (1 : Int32), sI_ h2, sI_ (1 : Int32), sJ_ e1, sS_, sU_, sU_, sU_, sU_] [(.ref ax)])) rfl (by rw [hml]; rfl) (argsL := []) (rest := []) (lenOf pd_5 rfl) rfl rfl (Nat.le_refl _) (hb hby at_529)
      obtain ⟨ow_22, rfl, n_22, K_22, W_22⟩ := q_22
      have N_22 := Fr.app N_1 n_22
      refine Goes.go (U' := (T_22.setTop (mkF m 532 #[sI_ fl, sJ_ e1, sS_, sJ_ e2, sS_, sJ_ e3, sS_, sJ_ f2, sS_, sJ_ f3, sS_, sI_ p1, sI_ hf1, sI_ p2, sI_ s2b, sI_ s2t, sI_ hf2, sI_ x2, sI_ p3, sI_ s3b, sI_ s3t, sI_ hf3, sI_ x3, sI_ (0 : Int32), sI_ b2, sI_ b3, sJ_ (0 : Int64), sS_, sJ_ t2, sS_, sJ_ t3, sS_, .val fv1, sJ_ v2, sS_, .val fv2, sJ_ v3, sS_, .val fv3, .val cv1, .val cv2, .val cv3, sR_ ax, sI_ (1 : Int32), sI_ h2, sI_ (1 : Int32), sJ_ e1, sS_, sU_, sU_, sU_, sU_] [ow_22]))) st_22 ?_
      refine Goes.go (U' := (T_22.setTop (mkF m 549 #[sI_ fl, sJ_ e1, sS_, sJ_ e2, sS_, sJ_ e3, sS_, sJ_ f2, sS_, sJ_ f3, sS_, sI_ p1, sI_ hf1, sI_ p2, sI_ s2b, sI_ s2t, sI_ hf2, sI_ x2, sI_ p3, sI_ s3b, sI_ s3t, sI_ hf3, sI_ x3, sI_ (0 : Int32), sI_ b2, sI_ b3, sJ_ (0 : Int64), sS_, sJ_ t2, sS_, sJ_ t3, sS_, .val fv1, sJ_ v2, sS_, .val fv2, sJ_ v3, sS_, .val fv3, .val cv1, .val cv2, .val cv3, sR_ ax, sI_ (1 : Int32), sI_ h2, sI_ (1 : Int32), sJ_ e1, sS_, sU_, sU_, sU_, sU_] [(.long e1), (.int (0 : Int32)), ow_22]))) (fun t kt => ?_) ?_
      · skip
        refine XS.iload X_22.here hx rfl (hb hby at_532) rfl ?_
        refine XS.ifNo X_22.here hx rfl (hb hby at_534) rfl (XT.i0_ne_f ch) ?_
        refine XS.iload X_22.here hx rfl (hb hby at_537) rfl ?_
        refine XS.ifYes X_22.here hx rfl (pc0 := 539) (pc' := 546) rfl (hb hby at_539) rfl (XT.i0_ne_t (by decide)) (by decide) (by decide) ?_
        refine XS.iconst X_22.here hx rfl (hb hby at_546) ?_
        refine XS.lload X_22.here hx rfl (hb hby at_547) rfl ?_
        exact kt
      obtain ⟨v_23, T_23, L_23, X_23, q_23, st_23⟩ := callStatic X_22 hx hZ (y := (⟨"com/example/dead_letter_replay/deadletterreplay/queue/CarriesFloorPinLaw", "is", "(Ljava/lang/Long;ZJ)Z"⟩ : MethodName)) (W := 0) hown (wdOf hw 29 rfl) (wdOf hw 30 rfl) (wdOf hw 31 rfl) (wdOf hw 32 rfl) (by decide) (rm_is l Z a0 hw [] ow_22 (0 : Int32) e1 (some e1) T_1.heap n0 y_11 W_22 (by simp) (by simp)) (by decide) (by decide) (by decide) (by decide) K_22 (g := (mkF m 549 #[sI_ fl, sJ_ e1, sS_, sJ_ e2, sS_, sJ_ e3, sS_, sJ_ f2, sS_, sJ_ f3, sS_, sI_ p1, sI_ hf1, sI_ p2, sI_ s2b, sI_ s2t, sI_ hf2, sI_ x2, sI_ p3, sI_ s3b, sI_ s3t, sI_ hf3, sI_ x3, sI_ (0 : Int32), sI_ b2, sI_ b3, sJ_ (0 : Int64), sS_, sJ_ t2, sS_, sJ_ t3, sS_, .val fv1, sJ_ v2, sS_, .val fv2, sJ_ v3, sS_, .val fv3, .val cv1, .val cv2, .val cv3, sR_ ax, sI_ (1 : Int32), sI_ h2, sI_ (1 : Int32), sJ_ e1, sS_, sU_, sU_, sU_, sU_] [(.long e1), (.int (0 : Int32)), ow_22])) rfl (by rw [hml]; rfl) (argsL := [ow_22, (.int (0 : Int32)), (.long e1)]) (rest := []) (lenOf pd_10 rfl) rfl rfl (Nat.le_refl _) (hb hby at_549)
      obtain ⟨rfl, n_23, K_23⟩ := q_23
      have N_23 := Fr.app N_22 n_23
      refine Goes.go (U' := (T_23.setTop (mkF m 552 #[sI_ fl, sJ_ e1, sS_, sJ_ e2, sS_, sJ_ e3, sS_, sJ_ f2, sS_, sJ_ f3, sS_, sI_ p1, sI_ hf1, sI_ p2, sI_ s2b, sI_ s2t, sI_ hf2, sI_ x2, sI_ p3, sI_ s3b, sI_ s3t, sI_ hf3, sI_ x3, sI_ (0 : Int32), sI_ b2, sI_ b3, sJ_ (0 : Int64), sS_, sJ_ t2, sS_, sJ_ t3, sS_, .val fv1, sJ_ v2, sS_, .val fv2, sJ_ v3, sS_, .val fv3, .val cv1, .val cv2, .val cv3, sR_ ax, sI_ (1 : Int32), sI_ h2, sI_ (1 : Int32), sJ_ e1, sS_, sU_, sU_, sU_, sU_] [(.int (1 : Int32))]))) st_23 ?_
      refine Goes.go (U' := (T_23.setTop (mkF m 562 #[sI_ fl, sJ_ e1, sS_, sJ_ e2, sS_, sJ_ e3, sS_, sJ_ f2, sS_, sJ_ f3, sS_, sI_ p1, sI_ hf1, sI_ p2, sI_ s2b, sI_ s2t, sI_ hf2, sI_ x2, sI_ p3, sI_ s3b, sI_ s3t, sI_ hf3, sI_ x3, sI_ (0 : Int32), sI_ b2, sI_ b3, sJ_ (0 : Int64), sS_, sJ_ t2, sS_, sJ_ t3, sS_, .val fv1, sJ_ v2, sS_, .val fv2, sJ_ v3, sS_, .val fv3, .val cv1, .val cv2, .val cv3, sR_ ax, sI_ (1 : Int32), sI_ h2, sI_ (1 : Int32), sJ_ e1, sS_, sU_, sU_, sU_, sU_] []))) (fun t kt => ?_) ?_
      · skip
        refine XS.ifNo X_23.here hx rfl (hb hby at_552) rfl (XT.i0_eq_f (by decide)) ?_
        refine XS.iconst X_23.here hx rfl (hb hby at_555) ?_
        refine XS.goto X_23.here hx rfl (pc0 := 556) (pc' := 560) rfl (hb hby at_556) (by decide) (by decide) ?_
        refine XS.istore X_23.here hx rfl (hb hby at_560) rfl (l' := #[sI_ fl, sJ_ e1, sS_, sJ_ e2, sS_, sJ_ e3, sS_, sJ_ f2, sS_, sJ_ f3, sS_, sI_ p1, sI_ hf1, sI_ p2, sI_ s2b, sI_ s2t, sI_ hf2, sI_ x2, sI_ p3, sI_ s3b, sI_ s3t, sI_ hf3, sI_ x3, sI_ (0 : Int32), sI_ b2, sI_ b3, sJ_ (0 : Int64), sS_, sJ_ t2, sS_, sJ_ t3, sS_, .val fv1, sJ_ v2, sS_, .val fv2, sJ_ v3, sS_, .val fv3, .val cv1, .val cv2, .val cv3, sR_ ax, sI_ (1 : Int32), sI_ h2, sI_ (1 : Int32), sJ_ e1, sS_, sU_, sU_, sU_, sU_]) rfl ?_
        exact kt
      exact law_562 l Z a0 hw fl e1 e2 e3 f2 f3 p1 hf1 p2 s2b s2t hf2 x2 p3 s3b s3t hf3 x3 b2 b3 t2 t3 fv1 o1 v2 fv2 o2 v3 fv3 o3 cv1 d1 cv2 d2 cv3 d3 ax h2 (1 : Int32) e1 hx_1 h0 n0 Z0 p e s m below meth c hx hby hml hown hnm hret hlk hZ _ _ _ X_23 K_23 N_23 K_11 f_2 BC hb2 hb3 ht2 ht3 f_3 f_4 ho2 f_5 ho3 f_6 hD1 f_7 hD2 f_8 hD3 oa za S_1 H2 E2
    · -- h2
      refine Goes.go (U' := (T_1.setTop (mkF m 529 #[sI_ fl, sJ_ e1, sS_, sJ_ e2, sS_, sJ_ e3, sS_, sJ_ f2, sS_, sJ_ f3, sS_, sI_ p1, sI_ hf1, sI_ p2, sI_ s2b, sI_ s2t, sI_ hf2, sI_ x2, sI_ p3, sI_ s3b, sI_ s3t, sI_ hf3, sI_ x3, sI_ (0 : Int32), sI_ b2, sI_ b3, sJ_ (0 : Int64), sS_, sJ_ t2, sS_, sJ_ t3, sS_, .val fv1, sJ_ v2, sS_, .val fv2, sJ_ v3, sS_, .val fv3, .val cv1, .val cv2, .val cv3, sR_ ax, sI_ (1 : Int32), sI_ h2, sI_ (1 : Int32), sJ_ e1, sS_, sU_, sU_, sU_, sU_] [(.ref ax)]))) (fun t kt => ?_) ?_
      · skip
        refine XS.ifYes X_1.here hx rfl (pc0 := 495) (pc' := 503) rfl (hb hby at_495) rfl (XT.i0_ne_t c_12) (by decide) (by decide) ?_
        refine XS.iconst X_1.here hx rfl (hb hby at_503) ?_
        refine XS.goto X_1.here hx rfl (pc0 := 504) (pc' := 508) rfl (hb hby at_504) (by decide) (by decide) ?_
        refine XS.istore X_1.here hx rfl (hb hby at_508) rfl (l' := #[sI_ fl, sJ_ e1, sS_, sJ_ e2, sS_, sJ_ e3, sS_, sJ_ f2, sS_, sJ_ f3, sS_, sI_ p1, sI_ hf1, sI_ p2, sI_ s2b, sI_ s2t, sI_ hf2, sI_ x2, sI_ p3, sI_ s3b, sI_ s3t, sI_ hf3, sI_ x3, sI_ (0 : Int32), sI_ b2, sI_ b3, sJ_ (0 : Int64), sS_, sJ_ t2, sS_, sJ_ t3, sS_, .val fv1, sJ_ v2, sS_, .val fv2, sJ_ v3, sS_, .val fv3, .val cv1, .val cv2, .val cv3, sR_ ax, sI_ (1 : Int32), sI_ h2, sI_ (1 : Int32), sU_, sU_, sU_, sU_, sU_, sU_]) rfl ?_
        refine XS.iload X_1.here hx rfl (hb hby at_510) rfl ?_
        refine XS.ifNo X_1.here hx rfl (hb hby at_512) rfl (XT.i0_eq_f c_12) ?_
        refine XS.lloadN X_1.here hx rfl (hb hby at_515) rfl ?_
        refine XS.goto X_1.here hx rfl (pc0 := 516) (pc' := 520) rfl (hb hby at_516) (by decide) (by decide) ?_
        show Steps p.tables e below (T_1.setTop (mkF m 520 #[sI_ fl, sJ_ e1, sS_, sJ_ e2, sS_, sJ_ e3, sS_, sJ_ f2, sS_, sJ_ f3, sS_, sI_ p1, sI_ hf1, sI_ p2, sI_ s2b, sI_ s2t, sI_ hf2, sI_ x2, sI_ p3, sI_ s3b, sI_ s3t, sI_ hf3, sI_ x3, sI_ (0 : Int32), sI_ b2, sI_ b3, sJ_ (0 : Int64), sS_, sJ_ t2, sS_, sJ_ t3, sS_, .val fv1, sJ_ v2, sS_, .val fv2, sJ_ v3, sS_, .val fv3, .val cv1, .val cv2, .val cv3, sR_ ax, sI_ (1 : Int32), sI_ h2, sI_ (1 : Int32), sU_, sU_, sU_, sU_, sU_, sU_] [(.long e1)])) t
        refine XS.lstore X_1.here hx rfl (hb hby at_520) rfl (l' := #[sI_ fl, sJ_ e1, sS_, sJ_ e2, sS_, sJ_ e3, sS_, sJ_ f2, sS_, sJ_ f3, sS_, sI_ p1, sI_ hf1, sI_ p2, sI_ s2b, sI_ s2t, sI_ hf2, sI_ x2, sI_ p3, sI_ s3b, sI_ s3t, sI_ hf3, sI_ x3, sI_ (0 : Int32), sI_ b2, sI_ b3, sJ_ (0 : Int64), sS_, sJ_ t2, sS_, sJ_ t3, sS_, .val fv1, sJ_ v2, sS_, .val fv2, sJ_ v3, sS_, .val fv3, .val cv1, .val cv2, .val cv3, sR_ ax, sI_ (1 : Int32), sI_ h2, sI_ (1 : Int32), sJ_ e1, sS_, sU_, sU_, sU_, sU_]) rfl ?_
        refine XS.iload X_1.here hx rfl (hb hby at_522) rfl ?_
        refine XS.ifNo X_1.here hx rfl (hb hby at_524) rfl (XT.i0_eq_f (by decide)) ?_
        refine XS.aload X_1.here hx rfl (hb hby at_527) rfl rfl ?_
        exact kt
      obtain ⟨v_24, T_24, L_24, X_24, q_24, st_24⟩ := callVirtual X_1 hx hZ (y := (⟨"com/example/dead_letter_replay/deadletterreplay/queue/Carries", "floor", "()Ljava/lang/Long;"⟩ : MethodName)) (z := (⟨"com/example/dead_letter_replay/deadletterreplay/queue/Carries", "floor", "()Ljava/lang/Long;"⟩ : MethodName)) (W := 0) hown (wdOf hw 9 rfl) (wdOf hw 10 rfl) (notFace_of_selects (args := #[]) (mvT hZ (wdOf hw 12 rfl))) (wdOf hw 12 rfl) (wdOf hw 11 rfl) (wdOf hw 2 rfl) (wdOf hw 13 rfl) (by decide) (rm_floor l Z a0 hw [] ax d2 (OwnFst (OwnFst none d1) d2) none hx_1 T_1.heap n0 y_11 S_1 (by rw [if_neg (fun q => ch (E2.mp q))])) (by decide) (by decide) (by decide) (by decide) (rfl : T_1.heap = T_1.heap) f_10 (g := (mkF m 529 #[sI_ fl, sJ_ e1, sS_, sJ_ e2, sS_, sJ_ e3, sS_, sJ_ f2, sS_, sJ_ f3, sS_, sI_ p1, sI_ hf1, sI_ p2, sI_ s2b, sI_ s2t, sI_ hf2, sI_ x2, sI_ p3, sI_ s3b, sI_ s3t, sI_ hf3, sI_ x3, sI_ (0 : Int32), sI_ b2, sI_ b3, sJ_ (0 : Int64), sS_, sJ_ t2, sS_, sJ_ t3, sS_, .val fv1, sJ_ v2, sS_, .val fv2, sJ_ v3, sS_, .val fv3, .val cv1, .val cv2, .val cv3, sR_ ax, sI_ (1 : Int32), sI_ h2, sI_ (1 : Int32), sJ_ e1, sS_, sU_, sU_, sU_, sU_] [(.ref ax)])) rfl (by rw [hml]; rfl) (argsL := []) (rest := []) (lenOf pd_5 rfl) rfl rfl (Nat.le_refl _) (hb hby at_529)
      obtain ⟨ow_24, rfl, n_24, K_24, W_24⟩ := q_24
      have N_24 := Fr.app N_1 n_24
      refine Goes.go (U' := (T_24.setTop (mkF m 532 #[sI_ fl, sJ_ e1, sS_, sJ_ e2, sS_, sJ_ e3, sS_, sJ_ f2, sS_, sJ_ f3, sS_, sI_ p1, sI_ hf1, sI_ p2, sI_ s2b, sI_ s2t, sI_ hf2, sI_ x2, sI_ p3, sI_ s3b, sI_ s3t, sI_ hf3, sI_ x3, sI_ (0 : Int32), sI_ b2, sI_ b3, sJ_ (0 : Int64), sS_, sJ_ t2, sS_, sJ_ t3, sS_, .val fv1, sJ_ v2, sS_, .val fv2, sJ_ v3, sS_, .val fv3, .val cv1, .val cv2, .val cv3, sR_ ax, sI_ (1 : Int32), sI_ h2, sI_ (1 : Int32), sJ_ e1, sS_, sU_, sU_, sU_, sU_] [ow_24]))) st_24 ?_
      refine Goes.go (U' := (T_24.setTop (mkF m 549 #[sI_ fl, sJ_ e1, sS_, sJ_ e2, sS_, sJ_ e3, sS_, sJ_ f2, sS_, sJ_ f3, sS_, sI_ p1, sI_ hf1, sI_ p2, sI_ s2b, sI_ s2t, sI_ hf2, sI_ x2, sI_ p3, sI_ s3b, sI_ s3t, sI_ hf3, sI_ x3, sI_ (0 : Int32), sI_ b2, sI_ b3, sJ_ (0 : Int64), sS_, sJ_ t2, sS_, sJ_ t3, sS_, .val fv1, sJ_ v2, sS_, .val fv2, sJ_ v3, sS_, .val fv3, .val cv1, .val cv2, .val cv3, sR_ ax, sI_ (1 : Int32), sI_ h2, sI_ (1 : Int32), sJ_ e1, sS_, sU_, sU_, sU_, sU_] [(.long e1), (.int (1 : Int32)), ow_24]))) (fun t kt => ?_) ?_
      · skip
        refine XS.iload X_24.here hx rfl (hb hby at_532) rfl ?_
        refine XS.ifYes X_24.here hx rfl (pc0 := 534) (pc' := 542) rfl (hb hby at_534) rfl (XT.i0_ne_t ch) (by decide) (by decide) ?_
        refine XS.iconst X_24.here hx rfl (hb hby at_542) ?_
        refine XS.goto X_24.here hx rfl (pc0 := 543) (pc' := 547) rfl (hb hby at_543) (by decide) (by decide) ?_
        refine XS.lload X_24.here hx rfl (hb hby at_547) rfl ?_
        exact kt
      obtain ⟨v_25, T_25, L_25, X_25, q_25, st_25⟩ := callStatic X_24 hx hZ (y := (⟨"com/example/dead_letter_replay/deadletterreplay/queue/CarriesFloorPinLaw", "is", "(Ljava/lang/Long;ZJ)Z"⟩ : MethodName)) (W := 0) hown (wdOf hw 29 rfl) (wdOf hw 30 rfl) (wdOf hw 31 rfl) (wdOf hw 32 rfl) (by decide) (rm_is l Z a0 hw [] ow_24 (1 : Int32) e1 none T_1.heap n0 y_11 W_24 (by simp) (by simp)) (by decide) (by decide) (by decide) (by decide) K_24 (g := (mkF m 549 #[sI_ fl, sJ_ e1, sS_, sJ_ e2, sS_, sJ_ e3, sS_, sJ_ f2, sS_, sJ_ f3, sS_, sI_ p1, sI_ hf1, sI_ p2, sI_ s2b, sI_ s2t, sI_ hf2, sI_ x2, sI_ p3, sI_ s3b, sI_ s3t, sI_ hf3, sI_ x3, sI_ (0 : Int32), sI_ b2, sI_ b3, sJ_ (0 : Int64), sS_, sJ_ t2, sS_, sJ_ t3, sS_, .val fv1, sJ_ v2, sS_, .val fv2, sJ_ v3, sS_, .val fv3, .val cv1, .val cv2, .val cv3, sR_ ax, sI_ (1 : Int32), sI_ h2, sI_ (1 : Int32), sJ_ e1, sS_, sU_, sU_, sU_, sU_] [(.long e1), (.int (1 : Int32)), ow_24])) rfl (by rw [hml]; rfl) (argsL := [ow_24, (.int (1 : Int32)), (.long e1)]) (rest := []) (lenOf pd_10 rfl) rfl rfl (Nat.le_refl _) (hb hby at_549)
      obtain ⟨rfl, n_25, K_25⟩ := q_25
      have N_25 := Fr.app N_24 n_25
      refine Goes.go (U' := (T_25.setTop (mkF m 552 #[sI_ fl, sJ_ e1, sS_, sJ_ e2, sS_, sJ_ e3, sS_, sJ_ f2, sS_, sJ_ f3, sS_, sI_ p1, sI_ hf1, sI_ p2, sI_ s2b, sI_ s2t, sI_ hf2, sI_ x2, sI_ p3, sI_ s3b, sI_ s3t, sI_ hf3, sI_ x3, sI_ (0 : Int32), sI_ b2, sI_ b3, sJ_ (0 : Int64), sS_, sJ_ t2, sS_, sJ_ t3, sS_, .val fv1, sJ_ v2, sS_, .val fv2, sJ_ v3, sS_, .val fv3, .val cv1, .val cv2, .val cv3, sR_ ax, sI_ (1 : Int32), sI_ h2, sI_ (1 : Int32), sJ_ e1, sS_, sU_, sU_, sU_, sU_] [(.int (1 : Int32))]))) st_25 ?_
      refine Goes.go (U' := (T_25.setTop (mkF m 562 #[sI_ fl, sJ_ e1, sS_, sJ_ e2, sS_, sJ_ e3, sS_, sJ_ f2, sS_, sJ_ f3, sS_, sI_ p1, sI_ hf1, sI_ p2, sI_ s2b, sI_ s2t, sI_ hf2, sI_ x2, sI_ p3, sI_ s3b, sI_ s3t, sI_ hf3, sI_ x3, sI_ (0 : Int32), sI_ b2, sI_ b3, sJ_ (0 : Int64), sS_, sJ_ t2, sS_, sJ_ t3, sS_, .val fv1, sJ_ v2, sS_, .val fv2, sJ_ v3, sS_, .val fv3, .val cv1, .val cv2, .val cv3, sR_ ax, sI_ (1 : Int32), sI_ h2, sI_ (1 : Int32), sJ_ e1, sS_, sU_, sU_, sU_, sU_] []))) (fun t kt => ?_) ?_
      · skip
        refine XS.ifNo X_25.here hx rfl (hb hby at_552) rfl (XT.i0_eq_f (by decide)) ?_
        refine XS.iconst X_25.here hx rfl (hb hby at_555) ?_
        refine XS.goto X_25.here hx rfl (pc0 := 556) (pc' := 560) rfl (hb hby at_556) (by decide) (by decide) ?_
        refine XS.istore X_25.here hx rfl (hb hby at_560) rfl (l' := #[sI_ fl, sJ_ e1, sS_, sJ_ e2, sS_, sJ_ e3, sS_, sJ_ f2, sS_, sJ_ f3, sS_, sI_ p1, sI_ hf1, sI_ p2, sI_ s2b, sI_ s2t, sI_ hf2, sI_ x2, sI_ p3, sI_ s3b, sI_ s3t, sI_ hf3, sI_ x3, sI_ (0 : Int32), sI_ b2, sI_ b3, sJ_ (0 : Int64), sS_, sJ_ t2, sS_, sJ_ t3, sS_, .val fv1, sJ_ v2, sS_, .val fv2, sJ_ v3, sS_, .val fv3, .val cv1, .val cv2, .val cv3, sR_ ax, sI_ (1 : Int32), sI_ h2, sI_ (1 : Int32), sJ_ e1, sS_, sU_, sU_, sU_, sU_]) rfl ?_
        exact kt
      exact law_562 l Z a0 hw fl e1 e2 e3 f2 f3 p1 hf1 p2 s2b s2t hf2 x2 p3 s3b s3t hf3 x3 b2 b3 t2 t3 fv1 o1 v2 fv2 o2 v3 fv3 o3 cv1 d1 cv2 d2 cv3 d3 ax h2 (1 : Int32) e1 hx_1 h0 n0 Z0 p e s m below meth c hx hby hml hown hnm hret hlk hZ _ _ _ X_25 K_25 N_25 K_11 f_2 BC hb2 hb3 ht2 ht3 f_3 f_4 ho2 f_5 ho3 f_6 hD1 f_7 hD2 f_8 hD3 oa za S_1 H2 E2
set_option maxRecDepth 65536 in
set_option maxHeartbeats 40000000 in
theorem law_447 (l : Launch) (Z : State) (a0 : Array Value) (hw : ∀ d ∈ tables_1, d.before a0 Z = true) (fl : Int32) (e1 e2 e3 f2 f3 : Int64) (p1 : Int32) (hf1 : Int32) (p2 : Int32) (s2b : Int32) (s2t : Int32) (hf2 : Int32) (x2 : Int32) (p3 : Int32) (s3b : Int32) (s3t : Int32) (hf3 : Int32) (x3 : Int32) (b2 : Int32) (b3 : Int32) (t2 : Int64) (t3 : Int64) (fv1 : Value) (o1 : Option Int64) (v2 : Int64) (fv2 : Value) (o2 : Option Int64) (v3 : Int64) (fv3 : Value) (o3 : Option Int64) (cv1 : Value) (d1 : Option OwnC) (cv2 : Value) (d2 : Option OwnC) (cv3 : Value) (d3 : Option OwnC) (ax : Addr) (h0 : Heap) (n0 : Nat) (Z0 : n0 ≤ h0.size) (p : Program) (e : Env) (s : State) (m : MethodId) (below : List Frame) (meth : Method) (c : Code) (hx : p.tables.exec = Jvm.exec) (hby : c.code = code) (hml : c.maxLocals = maxLocals) (hown : s.vm.findClass "com/example/dead_letter_replay/deadletterreplay/queue/CarriesFloorPinLaw" = some m.cls) (hnm : meth.name = "law") (hret : meth.sig.returnType = ret) (hlk : meth.locks = false) (hZ : Z.Warmed39 s.vm) (h : Heap) (T : State) (locs : List Loc) (X : Stand p l e room_1 s m #[(.int fl), (.long e1), (.long e2), (.long e3), (.long f2), (.long f3)] below meth c T locs 9 22) (eT : T.heap = h) (N : Fr n0 locs) (K0 : Keep h0 h []) (O : Old Z n0 h) (BC : BoxC Z "java/lang/Long$LongCache" "[Ljava/lang/Long;" "java/lang/Long" "J" (fun i => .long (i.toInt32 - 128).toInt64)) (hb2 : b2 = (0 : Int32) ↔ ¬ s2b = 0) (hb3 : b3 = b2 ↔ ¬ s3b = 0) (ht2 : t2 = (0 : Int64) ↔ ¬ s2t = 0) (ht3 : t3 = t2 ↔ ¬ s3t = 0) (L1 : LongV Z h fv1 o1) (L2 : LongV Z h fv2 o2) (ho2 : (hf2 = 0 → o2 = none) ∧ (¬ hf2 = 0 → o2 = some v2)) (L3 : LongV Z h fv3 o3) (ho3 : (hf3 = 0 → o3 = none) ∧ (¬ hf3 = 0 → o3 = some v3)) (C1 : CarV Z h cv1 d1) (hD1 : (p1 = 0 → d1 = none) ∧ (¬ p1 = 0 → d1 = some (o1, e1, (0 : Int64), (0 : Int32)))) (C2 : CarV Z h cv2 d2) (hD2 : (p2 = 0 → d2 = none) ∧ (¬ p2 = 0 → d2 = some (o2, e2, t2, b2))) (C3 : CarV Z h cv3 d3) (hD3 : (p3 = 0 → d3 = none) ∧ (¬ p3 = 0 → d3 = some (o3, e3, t3, b3))) (oa : n0 ≤ ax) (za : h0.size ≤ ax) (S : CarS Z h ax d1 (OwnFst none d1) (0 : Int32)) :
    Goes p e s below (fun v h L => v = some (.int 1) ∧ Fr n0 L) room_1.cells room_1.slots (T.setTop (mkF m 447 #[sI_ fl, sJ_ e1, sS_, sJ_ e2, sS_, sJ_ e3, sS_, sJ_ f2, sS_, sJ_ f3, sS_, sI_ p1, sI_ hf1, sI_ p2, sI_ s2b, sI_ s2t, sI_ hf2, sI_ x2, sI_ p3, sI_ s3b, sI_ s3t, sI_ hf3, sI_ x3, sI_ (0 : Int32), sI_ b2, sI_ b3, sJ_ (0 : Int64), sS_, sJ_ t2, sS_, sJ_ t3, sS_, .val fv1, sJ_ v2, sS_, .val fv2, sJ_ v3, sS_, .val fv3, .val cv1, .val cv2, .val cv3, sR_ ax, sI_ (1 : Int32), sU_, sU_, sU_, sU_, sU_, sU_, sU_, sU_] [])) := by
  have sz0 : n0 ≤ h.size := Nat.le_trans Z0 K0.1
  refine Goes.go (U' := (T.setTop (mkF m 449 #[sI_ fl, sJ_ e1, sS_, sJ_ e2, sS_, sJ_ e3, sS_, sJ_ f2, sS_, sJ_ f3, sS_, sI_ p1, sI_ hf1, sI_ p2, sI_ s2b, sI_ s2t, sI_ hf2, sI_ x2, sI_ p3, sI_ s3b, sI_ s3t, sI_ hf3, sI_ x3, sI_ (0 : Int32), sI_ b2, sI_ b3, sJ_ (0 : Int64), sS_, sJ_ t2, sS_, sJ_ t3, sS_, .val fv1, sJ_ v2, sS_, .val fv2, sJ_ v3, sS_, .val fv3, .val cv1, .val cv2, .val cv3, sR_ ax, sI_ (1 : Int32), sU_, sU_, sU_, sU_, sU_, sU_, sU_, sU_] [(.int p1)]))) (fun t kt => ?_) ?_
  · skip
    refine XS.iload X.here hx rfl (hb hby at_447) rfl ?_
    exact kt
  by_cases c_1 : p1 = 0
  · -- p1 = 0
    refine Goes.go (U' := (T.setTop (mkF m 486 #[sI_ fl, sJ_ e1, sS_, sJ_ e2, sS_, sJ_ e3, sS_, sJ_ f2, sS_, sJ_ f3, sS_, sI_ p1, sI_ hf1, sI_ p2, sI_ s2b, sI_ s2t, sI_ hf2, sI_ x2, sI_ p3, sI_ s3b, sI_ s3t, sI_ hf3, sI_ x3, sI_ (0 : Int32), sI_ b2, sI_ b3, sJ_ (0 : Int64), sS_, sJ_ t2, sS_, sJ_ t3, sS_, .val fv1, sJ_ v2, sS_, .val fv2, sJ_ v3, sS_, .val fv3, .val cv1, .val cv2, .val cv3, sR_ ax, sI_ (1 : Int32), sI_ (0 : Int32), sU_, sU_, sU_, sU_, sU_, sU_, sU_] []))) (fun t kt => ?_) ?_
    · skip
      refine XS.ifYes X.here hx rfl (pc0 := 449) (pc' := 483) rfl (hb hby at_449) rfl (XT.i0_eq_t c_1) (by decide) (by decide) ?_
      refine XS.iconst X.here hx rfl (hb hby at_483) ?_
      refine XS.istore X.here hx rfl (hb hby at_484) rfl (l' := #[sI_ fl, sJ_ e1, sS_, sJ_ e2, sS_, sJ_ e3, sS_, sJ_ f2, sS_, sJ_ f3, sS_, sI_ p1, sI_ hf1, sI_ p2, sI_ s2b, sI_ s2t, sI_ hf2, sI_ x2, sI_ p3, sI_ s3b, sI_ s3t, sI_ hf3, sI_ x3, sI_ (0 : Int32), sI_ b2, sI_ b3, sJ_ (0 : Int64), sS_, sJ_ t2, sS_, sJ_ t3, sS_, .val fv1, sJ_ v2, sS_, .val fv2, sJ_ v3, sS_, .val fv3, .val cv1, .val cv2, .val cv3, sR_ ax, sI_ (1 : Int32), sI_ (0 : Int32), sU_, sU_, sU_, sU_, sU_, sU_, sU_]) rfl ?_
      exact kt
    exact law_486 l Z a0 hw fl e1 e2 e3 f2 f3 p1 hf1 p2 s2b s2t hf2 x2 p3 s3b s3t hf3 x3 b2 b3 t2 t3 fv1 o1 v2 fv2 o2 v3 fv3 o3 cv1 d1 cv2 d2 cv3 d3 ax (0 : Int32) h0 n0 Z0 p e s m below meth c hx hby hml hown hnm hret hlk hZ _ _ _ X eT N K0 O BC hb2 hb3 ht2 ht3 L1 L2 ho2 L3 ho3 C1 hD1 C2 hD2 C3 hD3 oa za S (own_H2 hD1 hD2 hb2 ht2 ho2 (by simp [c_1]))
  · -- not p1 = 0
    refine Goes.go (U' := (T.setTop (mkF m 454 #[sI_ fl, sJ_ e1, sS_, sJ_ e2, sS_, sJ_ e3, sS_, sJ_ f2, sS_, sJ_ f3, sS_, sI_ p1, sI_ hf1, sI_ p2, sI_ s2b, sI_ s2t, sI_ hf2, sI_ x2, sI_ p3, sI_ s3b, sI_ s3t, sI_ hf3, sI_ x3, sI_ (0 : Int32), sI_ b2, sI_ b3, sJ_ (0 : Int64), sS_, sJ_ t2, sS_, sJ_ t3, sS_, .val fv1, sJ_ v2, sS_, .val fv2, sJ_ v3, sS_, .val fv3, .val cv1, .val cv2, .val cv3, sR_ ax, sI_ (1 : Int32), sU_, sU_, sU_, sU_, sU_, sU_, sU_, sU_] [(.int p2)]))) (fun t kt => ?_) ?_
    · skip
      refine XS.ifNo X.here hx rfl (hb hby at_449) rfl (XT.i0_eq_f c_1) ?_
      refine XS.iload X.here hx rfl (hb hby at_452) rfl ?_
      exact kt
    by_cases c_2 : p2 = 0
    · -- p2 = 0
      refine Goes.go (U' := (T.setTop (mkF m 486 #[sI_ fl, sJ_ e1, sS_, sJ_ e2, sS_, sJ_ e3, sS_, sJ_ f2, sS_, sJ_ f3, sS_, sI_ p1, sI_ hf1, sI_ p2, sI_ s2b, sI_ s2t, sI_ hf2, sI_ x2, sI_ p3, sI_ s3b, sI_ s3t, sI_ hf3, sI_ x3, sI_ (0 : Int32), sI_ b2, sI_ b3, sJ_ (0 : Int64), sS_, sJ_ t2, sS_, sJ_ t3, sS_, .val fv1, sJ_ v2, sS_, .val fv2, sJ_ v3, sS_, .val fv3, .val cv1, .val cv2, .val cv3, sR_ ax, sI_ (1 : Int32), sI_ (0 : Int32), sU_, sU_, sU_, sU_, sU_, sU_, sU_] []))) (fun t kt => ?_) ?_
      · skip
        refine XS.ifYes X.here hx rfl (pc0 := 454) (pc' := 483) rfl (hb hby at_454) rfl (XT.i0_eq_t c_2) (by decide) (by decide) ?_
        refine XS.iconst X.here hx rfl (hb hby at_483) ?_
        refine XS.istore X.here hx rfl (hb hby at_484) rfl (l' := #[sI_ fl, sJ_ e1, sS_, sJ_ e2, sS_, sJ_ e3, sS_, sJ_ f2, sS_, sJ_ f3, sS_, sI_ p1, sI_ hf1, sI_ p2, sI_ s2b, sI_ s2t, sI_ hf2, sI_ x2, sI_ p3, sI_ s3b, sI_ s3t, sI_ hf3, sI_ x3, sI_ (0 : Int32), sI_ b2, sI_ b3, sJ_ (0 : Int64), sS_, sJ_ t2, sS_, sJ_ t3, sS_, .val fv1, sJ_ v2, sS_, .val fv2, sJ_ v3, sS_, .val fv3, .val cv1, .val cv2, .val cv3, sR_ ax, sI_ (1 : Int32), sI_ (0 : Int32), sU_, sU_, sU_, sU_, sU_, sU_, sU_]) rfl ?_
        exact kt
      exact law_486 l Z a0 hw fl e1 e2 e3 f2 f3 p1 hf1 p2 s2b s2t hf2 x2 p3 s3b s3t hf3 x3 b2 b3 t2 t3 fv1 o1 v2 fv2 o2 v3 fv3 o3 cv1 d1 cv2 d2 cv3 d3 ax (0 : Int32) h0 n0 Z0 p e s m below meth c hx hby hml hown hnm hret hlk hZ _ _ _ X eT N K0 O BC hb2 hb3 ht2 ht3 L1 L2 ho2 L3 ho3 C1 hD1 C2 hD2 C3 hD3 oa za S (own_H2 hD1 hD2 hb2 ht2 ho2 (by simp [c_1, c_2]))
    · -- not p2 = 0
      refine Goes.go (U' := (T.setTop (mkF m 459 #[sI_ fl, sJ_ e1, sS_, sJ_ e2, sS_, sJ_ e3, sS_, sJ_ f2, sS_, sJ_ f3, sS_, sI_ p1, sI_ hf1, sI_ p2, sI_ s2b, sI_ s2t, sI_ hf2, sI_ x2, sI_ p3, sI_ s3b, sI_ s3t, sI_ hf3, sI_ x3, sI_ (0 : Int32), sI_ b2, sI_ b3, sJ_ (0 : Int64), sS_, sJ_ t2, sS_, sJ_ t3, sS_, .val fv1, sJ_ v2, sS_, .val fv2, sJ_ v3, sS_, .val fv3, .val cv1, .val cv2, .val cv3, sR_ ax, sI_ (1 : Int32), sU_, sU_, sU_, sU_, sU_, sU_, sU_, sU_] [(.int s2b)]))) (fun t kt => ?_) ?_
      · skip
        refine XS.ifNo X.here hx rfl (hb hby at_454) rfl (XT.i0_eq_f c_2) ?_
        refine XS.iload X.here hx rfl (hb hby at_457) rfl ?_
        exact kt
      by_cases c_3 : s2b = 0
      · -- s2b = 0
        refine Goes.go (U' := (T.setTop (mkF m 486 #[sI_ fl, sJ_ e1, sS_, sJ_ e2, sS_, sJ_ e3, sS_, sJ_ f2, sS_, sJ_ f3, sS_, sI_ p1, sI_ hf1, sI_ p2, sI_ s2b, sI_ s2t, sI_ hf2, sI_ x2, sI_ p3, sI_ s3b, sI_ s3t, sI_ hf3, sI_ x3, sI_ (0 : Int32), sI_ b2, sI_ b3, sJ_ (0 : Int64), sS_, sJ_ t2, sS_, sJ_ t3, sS_, .val fv1, sJ_ v2, sS_, .val fv2, sJ_ v3, sS_, .val fv3, .val cv1, .val cv2, .val cv3, sR_ ax, sI_ (1 : Int32), sI_ (0 : Int32), sU_, sU_, sU_, sU_, sU_, sU_, sU_] []))) (fun t kt => ?_) ?_
        · skip
          refine XS.ifYes X.here hx rfl (pc0 := 459) (pc' := 483) rfl (hb hby at_459) rfl (XT.i0_eq_t c_3) (by decide) (by decide) ?_
          refine XS.iconst X.here hx rfl (hb hby at_483) ?_
          refine XS.istore X.here hx rfl (hb hby at_484) rfl (l' := #[sI_ fl, sJ_ e1, sS_, sJ_ e2, sS_, sJ_ e3, sS_, sJ_ f2, sS_, sJ_ f3, sS_, sI_ p1, sI_ hf1, sI_ p2, sI_ s2b, sI_ s2t, sI_ hf2, sI_ x2, sI_ p3, sI_ s3b, sI_ s3t, sI_ hf3, sI_ x3, sI_ (0 : Int32), sI_ b2, sI_ b3, sJ_ (0 : Int64), sS_, sJ_ t2, sS_, sJ_ t3, sS_, .val fv1, sJ_ v2, sS_, .val fv2, sJ_ v3, sS_, .val fv3, .val cv1, .val cv2, .val cv3, sR_ ax, sI_ (1 : Int32), sI_ (0 : Int32), sU_, sU_, sU_, sU_, sU_, sU_, sU_]) rfl ?_
          exact kt
        exact law_486 l Z a0 hw fl e1 e2 e3 f2 f3 p1 hf1 p2 s2b s2t hf2 x2 p3 s3b s3t hf3 x3 b2 b3 t2 t3 fv1 o1 v2 fv2 o2 v3 fv3 o3 cv1 d1 cv2 d2 cv3 d3 ax (0 : Int32) h0 n0 Z0 p e s m below meth c hx hby hml hown hnm hret hlk hZ _ _ _ X eT N K0 O BC hb2 hb3 ht2 ht3 L1 L2 ho2 L3 ho3 C1 hD1 C2 hD2 C3 hD3 oa za S (own_H2 hD1 hD2 hb2 ht2 ho2 (by simp [c_1, c_2, c_3]))
      · -- not s2b = 0
        refine Goes.go (U' := (T.setTop (mkF m 464 #[sI_ fl, sJ_ e1, sS_, sJ_ e2, sS_, sJ_ e3, sS_, sJ_ f2, sS_, sJ_ f3, sS_, sI_ p1, sI_ hf1, sI_ p2, sI_ s2b, sI_ s2t, sI_ hf2, sI_ x2, sI_ p3, sI_ s3b, sI_ s3t, sI_ hf3, sI_ x3, sI_ (0 : Int32), sI_ b2, sI_ b3, sJ_ (0 : Int64), sS_, sJ_ t2, sS_, sJ_ t3, sS_, .val fv1, sJ_ v2, sS_, .val fv2, sJ_ v3, sS_, .val fv3, .val cv1, .val cv2, .val cv3, sR_ ax, sI_ (1 : Int32), sU_, sU_, sU_, sU_, sU_, sU_, sU_, sU_] [(.int s2t)]))) (fun t kt => ?_) ?_
        · skip
          refine XS.ifNo X.here hx rfl (hb hby at_459) rfl (XT.i0_eq_f c_3) ?_
          refine XS.iload X.here hx rfl (hb hby at_462) rfl ?_
          exact kt
        by_cases c_4 : s2t = 0
        · -- s2t = 0
          refine Goes.go (U' := (T.setTop (mkF m 469 #[sI_ fl, sJ_ e1, sS_, sJ_ e2, sS_, sJ_ e3, sS_, sJ_ f2, sS_, sJ_ f3, sS_, sI_ p1, sI_ hf1, sI_ p2, sI_ s2b, sI_ s2t, sI_ hf2, sI_ x2, sI_ p3, sI_ s3b, sI_ s3t, sI_ hf3, sI_ x3, sI_ (0 : Int32), sI_ b2, sI_ b3, sJ_ (0 : Int64), sS_, sJ_ t2, sS_, sJ_ t3, sS_, .val fv1, sJ_ v2, sS_, .val fv2, sJ_ v3, sS_, .val fv3, .val cv1, .val cv2, .val cv3, sR_ ax, sI_ (1 : Int32), sU_, sU_, sU_, sU_, sU_, sU_, sU_, sU_] [(.int hf2)]))) (fun t kt => ?_) ?_
          · skip
            refine XS.ifNo X.here hx rfl (hb hby at_464) rfl (XT.i0_ne_f c_4) ?_
            refine XS.iload X.here hx rfl (hb hby at_467) rfl ?_
            exact kt
          by_cases c_5 : hf2 = 0
          · -- hf2 = 0
            refine Goes.go (U' := (T.setTop (mkF m 486 #[sI_ fl, sJ_ e1, sS_, sJ_ e2, sS_, sJ_ e3, sS_, sJ_ f2, sS_, sJ_ f3, sS_, sI_ p1, sI_ hf1, sI_ p2, sI_ s2b, sI_ s2t, sI_ hf2, sI_ x2, sI_ p3, sI_ s3b, sI_ s3t, sI_ hf3, sI_ x3, sI_ (0 : Int32), sI_ b2, sI_ b3, sJ_ (0 : Int64), sS_, sJ_ t2, sS_, sJ_ t3, sS_, .val fv1, sJ_ v2, sS_, .val fv2, sJ_ v3, sS_, .val fv3, .val cv1, .val cv2, .val cv3, sR_ ax, sI_ (1 : Int32), sI_ (0 : Int32), sU_, sU_, sU_, sU_, sU_, sU_, sU_] []))) (fun t kt => ?_) ?_
            · skip
              refine XS.ifYes X.here hx rfl (pc0 := 469) (pc' := 483) rfl (hb hby at_469) rfl (XT.i0_eq_t c_5) (by decide) (by decide) ?_
              refine XS.iconst X.here hx rfl (hb hby at_483) ?_
              refine XS.istore X.here hx rfl (hb hby at_484) rfl (l' := #[sI_ fl, sJ_ e1, sS_, sJ_ e2, sS_, sJ_ e3, sS_, sJ_ f2, sS_, sJ_ f3, sS_, sI_ p1, sI_ hf1, sI_ p2, sI_ s2b, sI_ s2t, sI_ hf2, sI_ x2, sI_ p3, sI_ s3b, sI_ s3t, sI_ hf3, sI_ x3, sI_ (0 : Int32), sI_ b2, sI_ b3, sJ_ (0 : Int64), sS_, sJ_ t2, sS_, sJ_ t3, sS_, .val fv1, sJ_ v2, sS_, .val fv2, sJ_ v3, sS_, .val fv3, .val cv1, .val cv2, .val cv3, sR_ ax, sI_ (1 : Int32), sI_ (0 : Int32), sU_, sU_, sU_, sU_, sU_, sU_, sU_]) rfl ?_
              exact kt
            exact law_486 l Z a0 hw fl e1 e2 e3 f2 f3 p1 hf1 p2 s2b s2t hf2 x2 p3 s3b s3t hf3 x3 b2 b3 t2 t3 fv1 o1 v2 fv2 o2 v3 fv3 o3 cv1 d1 cv2 d2 cv3 d3 ax (0 : Int32) h0 n0 Z0 p e s m below meth c hx hby hml hown hnm hret hlk hZ _ _ _ X eT N K0 O BC hb2 hb3 ht2 ht3 L1 L2 ho2 L3 ho3 C1 hD1 C2 hD2 C3 hD3 oa za S (own_H2 hD1 hD2 hb2 ht2 ho2 (by simp [c_1, c_2, c_3, c_4, c_5]))
          · -- not hf2 = 0
            refine Goes.go (U' := (T.setTop (mkF m 476 #[sI_ fl, sJ_ e1, sS_, sJ_ e2, sS_, sJ_ e3, sS_, sJ_ f2, sS_, sJ_ f3, sS_, sI_ p1, sI_ hf1, sI_ p2, sI_ s2b, sI_ s2t, sI_ hf2, sI_ x2, sI_ p3, sI_ s3b, sI_ s3t, sI_ hf3, sI_ x3, sI_ (0 : Int32), sI_ b2, sI_ b3, sJ_ (0 : Int64), sS_, sJ_ t2, sS_, sJ_ t3, sS_, .val fv1, sJ_ v2, sS_, .val fv2, sJ_ v3, sS_, .val fv3, .val cv1, .val cv2, .val cv3, sR_ ax, sI_ (1 : Int32), sU_, sU_, sU_, sU_, sU_, sU_, sU_, sU_] [(.int (XT.cmpL v2 e1))]))) (fun t kt => ?_) ?_
            · skip
              refine XS.ifNo X.here hx rfl (hb hby at_469) rfl (XT.i0_eq_f c_5) ?_
              refine XS.lload X.here hx rfl (hb hby at_472) rfl ?_
              refine XS.lloadN X.here hx rfl (hb hby at_474) rfl ?_
              refine XT.lcmp X.here hx rfl (hb hby at_475) rfl ?_
              exact kt
            by_cases c_6 : v2 = e1
            · -- v2 = e1
              refine Goes.go (U' := (T.setTop (mkF m 486 #[sI_ fl, sJ_ e1, sS_, sJ_ e2, sS_, sJ_ e3, sS_, sJ_ f2, sS_, sJ_ f3, sS_, sI_ p1, sI_ hf1, sI_ p2, sI_ s2b, sI_ s2t, sI_ hf2, sI_ x2, sI_ p3, sI_ s3b, sI_ s3t, sI_ hf3, sI_ x3, sI_ (0 : Int32), sI_ b2, sI_ b3, sJ_ (0 : Int64), sS_, sJ_ t2, sS_, sJ_ t3, sS_, .val fv1, sJ_ v2, sS_, .val fv2, sJ_ v3, sS_, .val fv3, .val cv1, .val cv2, .val cv3, sR_ ax, sI_ (1 : Int32), sI_ (1 : Int32), sU_, sU_, sU_, sU_, sU_, sU_, sU_] []))) (fun t kt => ?_) ?_
              · skip
                refine XS.ifNo X.here hx rfl (hb hby at_476) rfl (XT.ll_ne_f c_6) ?_
                refine XS.iconst X.here hx rfl (hb hby at_479) ?_
                refine XS.goto X.here hx rfl (pc0 := 480) (pc' := 484) rfl (hb hby at_480) (by decide) (by decide) ?_
                refine XS.istore X.here hx rfl (hb hby at_484) rfl (l' := #[sI_ fl, sJ_ e1, sS_, sJ_ e2, sS_, sJ_ e3, sS_, sJ_ f2, sS_, sJ_ f3, sS_, sI_ p1, sI_ hf1, sI_ p2, sI_ s2b, sI_ s2t, sI_ hf2, sI_ x2, sI_ p3, sI_ s3b, sI_ s3t, sI_ hf3, sI_ x3, sI_ (0 : Int32), sI_ b2, sI_ b3, sJ_ (0 : Int64), sS_, sJ_ t2, sS_, sJ_ t3, sS_, .val fv1, sJ_ v2, sS_, .val fv2, sJ_ v3, sS_, .val fv3, .val cv1, .val cv2, .val cv3, sR_ ax, sI_ (1 : Int32), sI_ (1 : Int32), sU_, sU_, sU_, sU_, sU_, sU_, sU_]) rfl ?_
                exact kt
              exact law_486 l Z a0 hw fl e1 e2 e3 f2 f3 p1 hf1 p2 s2b s2t hf2 x2 p3 s3b s3t hf3 x3 b2 b3 t2 t3 fv1 o1 v2 fv2 o2 v3 fv3 o3 cv1 d1 cv2 d2 cv3 d3 ax (1 : Int32) h0 n0 Z0 p e s m below meth c hx hby hml hown hnm hret hlk hZ _ _ _ X eT N K0 O BC hb2 hb3 ht2 ht3 L1 L2 ho2 L3 ho3 C1 hD1 C2 hD2 C3 hD3 oa za S (own_H2 hD1 hD2 hb2 ht2 ho2 (by simp [c_1, c_2, c_3, c_4, c_5, c_6]))
            · -- not v2 = e1
              refine Goes.go (U' := (T.setTop (mkF m 486 #[sI_ fl, sJ_ e1, sS_, sJ_ e2, sS_, sJ_ e3, sS_, sJ_ f2, sS_, sJ_ f3, sS_, sI_ p1, sI_ hf1, sI_ p2, sI_ s2b, sI_ s2t, sI_ hf2, sI_ x2, sI_ p3, sI_ s3b, sI_ s3t, sI_ hf3, sI_ x3, sI_ (0 : Int32), sI_ b2, sI_ b3, sJ_ (0 : Int64), sS_, sJ_ t2, sS_, sJ_ t3, sS_, .val fv1, sJ_ v2, sS_, .val fv2, sJ_ v3, sS_, .val fv3, .val cv1, .val cv2, .val cv3, sR_ ax, sI_ (1 : Int32), sI_ (0 : Int32), sU_, sU_, sU_, sU_, sU_, sU_, sU_] []))) (fun t kt => ?_) ?_
              · skip
                refine XS.ifYes X.here hx rfl (pc0 := 476) (pc' := 483) rfl (hb hby at_476) rfl (XT.ll_ne_t c_6) (by decide) (by decide) ?_
                refine XS.iconst X.here hx rfl (hb hby at_483) ?_
                refine XS.istore X.here hx rfl (hb hby at_484) rfl (l' := #[sI_ fl, sJ_ e1, sS_, sJ_ e2, sS_, sJ_ e3, sS_, sJ_ f2, sS_, sJ_ f3, sS_, sI_ p1, sI_ hf1, sI_ p2, sI_ s2b, sI_ s2t, sI_ hf2, sI_ x2, sI_ p3, sI_ s3b, sI_ s3t, sI_ hf3, sI_ x3, sI_ (0 : Int32), sI_ b2, sI_ b3, sJ_ (0 : Int64), sS_, sJ_ t2, sS_, sJ_ t3, sS_, .val fv1, sJ_ v2, sS_, .val fv2, sJ_ v3, sS_, .val fv3, .val cv1, .val cv2, .val cv3, sR_ ax, sI_ (1 : Int32), sI_ (0 : Int32), sU_, sU_, sU_, sU_, sU_, sU_, sU_]) rfl ?_
                exact kt
              exact law_486 l Z a0 hw fl e1 e2 e3 f2 f3 p1 hf1 p2 s2b s2t hf2 x2 p3 s3b s3t hf3 x3 b2 b3 t2 t3 fv1 o1 v2 fv2 o2 v3 fv3 o3 cv1 d1 cv2 d2 cv3 d3 ax (0 : Int32) h0 n0 Z0 p e s m below meth c hx hby hml hown hnm hret hlk hZ _ _ _ X eT N K0 O BC hb2 hb3 ht2 ht3 L1 L2 ho2 L3 ho3 C1 hD1 C2 hD2 C3 hD3 oa za S (own_H2 hD1 hD2 hb2 ht2 ho2 (by simp [c_1, c_2, c_3, c_4, c_5, c_6]))
        · -- not s2t = 0
          refine Goes.go (U' := (T.setTop (mkF m 486 #[sI_ fl, sJ_ e1, sS_, sJ_ e2, sS_, sJ_ e3, sS_, sJ_ f2, sS_, sJ_ f3, sS_, sI_ p1, sI_ hf1, sI_ p2, sI_ s2b, sI_ s2t, sI_ hf2, sI_ x2, sI_ p3, sI_ s3b, sI_ s3t, sI_ hf3, sI_ x3, sI_ (0 : Int32), sI_ b2, sI_ b3, sJ_ (0 : Int64), sS_, sJ_ t2, sS_, sJ_ t3, sS_, .val fv1, sJ_ v2, sS_, .val fv2, sJ_ v3, sS_, .val fv3, .val cv1, .val cv2, .val cv3, sR_ ax, sI_ (1 : Int32), sI_ (0 : Int32), sU_, sU_, sU_, sU_, sU_, sU_, sU_] []))) (fun t kt => ?_) ?_
          · skip
            refine XS.ifYes X.here hx rfl (pc0 := 464) (pc' := 483) rfl (hb hby at_464) rfl (XT.i0_ne_t c_4) (by decide) (by decide) ?_
            refine XS.iconst X.here hx rfl (hb hby at_483) ?_
            refine XS.istore X.here hx rfl (hb hby at_484) rfl (l' := #[sI_ fl, sJ_ e1, sS_, sJ_ e2, sS_, sJ_ e3, sS_, sJ_ f2, sS_, sJ_ f3, sS_, sI_ p1, sI_ hf1, sI_ p2, sI_ s2b, sI_ s2t, sI_ hf2, sI_ x2, sI_ p3, sI_ s3b, sI_ s3t, sI_ hf3, sI_ x3, sI_ (0 : Int32), sI_ b2, sI_ b3, sJ_ (0 : Int64), sS_, sJ_ t2, sS_, sJ_ t3, sS_, .val fv1, sJ_ v2, sS_, .val fv2, sJ_ v3, sS_, .val fv3, .val cv1, .val cv2, .val cv3, sR_ ax, sI_ (1 : Int32), sI_ (0 : Int32), sU_, sU_, sU_, sU_, sU_, sU_, sU_]) rfl ?_
            exact kt
          exact law_486 l Z a0 hw fl e1 e2 e3 f2 f3 p1 hf1 p2 s2b s2t hf2 x2 p3 s3b s3t hf3 x3 b2 b3 t2 t3 fv1 o1 v2 fv2 o2 v3 fv3 o3 cv1 d1 cv2 d2 cv3 d3 ax (0 : Int32) h0 n0 Z0 p e s m below meth c hx hby hml hown hnm hret hlk hZ _ _ _ X eT N K0 O BC hb2 hb3 ht2 ht3 L1 L2 ho2 L3 ho3 C1 hD1 C2 hD2 C3 hD3 oa za S (own_H2 hD1 hD2 hb2 ht2 ho2 (by simp [c_1, c_2, c_3, c_4]))
set_option maxRecDepth 65536 in
set_option maxHeartbeats 40000000 in
theorem law_382 (l : Launch) (Z : State) (a0 : Array Value) (hw : ∀ d ∈ tables_1, d.before a0 Z = true) (fl : Int32) (e1 e2 e3 f2 f3 : Int64) (p1 : Int32) (hf1 : Int32) (p2 : Int32) (s2b : Int32) (s2t : Int32) (hf2 : Int32) (x2 : Int32) (p3 : Int32) (s3b : Int32) (s3t : Int32) (hf3 : Int32) (x3 : Int32) (b2 : Int32) (b3 : Int32) (t2 : Int64) (t3 : Int64) (fv1 : Value) (o1 : Option Int64) (v2 : Int64) (fv2 : Value) (o2 : Option Int64) (v3 : Int64) (fv3 : Value) (o3 : Option Int64) (cv1 : Value) (d1 : Option OwnC) (cv2 : Value) (d2 : Option OwnC) (cv3 : Value) (d3 : Option OwnC) (h0 : Heap) (n0 : Nat) (Z0 : n0 ≤ h0.size) (p : Program) (e : Env) (s : State) (m : MethodId) (below : List Frame) (meth : Method) (c : Code) (hx : p.tables.exec = Jvm.exec) (hby : c.code = code) (hml : c.maxLocals = maxLocals) (hown : s.vm.findClass "com/example/dead_letter_replay/deadletterreplay/queue/CarriesFloorPinLaw" = some m.cls) (hnm : meth.name = "law") (hret : meth.sig.returnType = ret) (hlk : meth.locks = false) (hZ : Z.Warmed39 s.vm) (h : Heap) (T : State) (locs : List Loc) (X : Stand p l e room_1 s m #[(.int fl), (.long e1), (.long e2), (.long e3), (.long f2), (.long f3)] below meth c T locs 6 15) (eT : T.heap = h) (N : Fr n0 locs) (K0 : Keep h0 h []) (O : Old Z n0 h) (BC : BoxC Z "java/lang/Long$LongCache" "[Ljava/lang/Long;" "java/lang/Long" "J" (fun i => .long (i.toInt32 - 128).toInt64)) (hb2 : b2 = (0 : Int32) ↔ ¬ s2b = 0) (hb3 : b3 = b2 ↔ ¬ s3b = 0) (ht2 : t2 = (0 : Int64) ↔ ¬ s2t = 0) (ht3 : t3 = t2 ↔ ¬ s3t = 0) (L1 : LongV Z h fv1 o1) (L2 : LongV Z h fv2 o2) (ho2 : (hf2 = 0 → o2 = none) ∧ (¬ hf2 = 0 → o2 = some v2)) (L3 : LongV Z h fv3 o3) (ho3 : (hf3 = 0 → o3 = none) ∧ (¬ hf3 = 0 → o3 = some v3)) (C1 : CarV Z h cv1 d1) (hD1 : (p1 = 0 → d1 = none) ∧ (¬ p1 = 0 → d1 = some (o1, e1, (0 : Int64), (0 : Int32)))) (C2 : CarV Z h cv2 d2) (hD2 : (p2 = 0 → d2 = none) ∧ (¬ p2 = 0 → d2 = some (o2, e2, t2, b2))) (C3 : CarV Z h cv3 d3) (hD3 : (p3 = 0 → d3 = none) ∧ (¬ p3 = 0 → d3 = some (o3, e3, t3, b3))) :
    Goes p e s below (fun v h L => v = some (.int 1) ∧ Fr n0 L) room_1.cells room_1.slots (T.setTop (mkF m 382 #[sI_ fl, sJ_ e1, sS_, sJ_ e2, sS_, sJ_ e3, sS_, sJ_ f2, sS_, sJ_ f3, sS_, sI_ p1, sI_ hf1, sI_ p2, sI_ s2b, sI_ s2t, sI_ hf2, sI_ x2, sI_ p3, sI_ s3b, sI_ s3t, sI_ hf3, sI_ x3, sI_ (0 : Int32), sI_ b2, sI_ b3, sJ_ (0 : Int64), sS_, sJ_ t2, sS_, sJ_ t3, sS_, .val fv1, sJ_ v2, sS_, .val fv2, sJ_ v3, sS_, .val fv3, .val cv1, .val cv2, .val cv3, sU_, sU_, sU_, sU_, sU_, sU_, sU_, sU_, sU_, sU_] [])) := by
  have sz0 : n0 ≤ h.size := Nat.le_trans Z0 K0.1
  obtain ⟨T_1, h_1, X_1, e_1, E_1, A_1, D_1, -, st_1⟩ := newO X hx hZ hown (wdOf hw 0 rfl) (wdOf hw 1 rfl) (wdOf hw 2 rfl) eT (g := (mkF m 382 #[sI_ fl, sJ_ e1, sS_, sJ_ e2, sS_, sJ_ e3, sS_, sJ_ f2, sS_, sJ_ f3, sS_, sI_ p1, sI_ hf1, sI_ p2, sI_ s2b, sI_ s2t, sI_ hf2, sI_ x2, sI_ p3, sI_ s3b, sI_ s3t, sI_ hf3, sI_ x3, sI_ (0 : Int32), sI_ b2, sI_ b3, sJ_ (0 : Int64), sS_, sJ_ t2, sS_, sJ_ t3, sS_, .val fv1, sJ_ v2, sS_, .val fv2, sJ_ v3, sS_, .val fv3, .val cv1, .val cv2, .val cv3, sU_, sU_, sU_, sU_, sU_, sU_, sU_, sU_, sU_, sU_] [])) rfl (hb hby at_382) (by decide) (by decide)
  obtain ⟨b_1, g_1⟩ : ∃ z, z = h.size := ⟨_, rfl⟩
  rw [← g_1] at A_1 D_1 st_1
  have o_1 : n0 ≤ b_1 := Nat.le_trans sz0 (Nat.le_of_eq g_1.symm)
  have z_1 : h0.size ≤ b_1 := Nat.le_trans K0.1 (Nat.le_of_eq g_1.symm)
  have f_2 : Old Z n0 h_1 := O.ext E_1
  have f_3 : LongV Z h_1 fv1 o1 := L1.ext E_1
  have f_4 : LongV Z h_1 fv2 o2 := L2.ext E_1
  have f_5 : LongV Z h_1 fv3 o3 := L3.ext E_1
  have f_6 : CarV Z h_1 cv1 d1 := C1.ext E_1
  have f_7 : CarV Z h_1 cv2 d2 := C2.ext E_1
  have f_8 : CarV Z h_1 cv3 d3 := C3.ext E_1
  have f_9 : Fld Z h_1 b_1 "com/example/dead_letter_replay/deadletterreplay/queue/Carries" "held" "Z" (.int (0 : Int32)) := D_1 (Or.inl (wdOf hw 15 rfl)) (ty := .boolean) (by decide)
  have f_10 : Fld Z h_1 b_1 "com/example/dead_letter_replay/deadletterreplay/queue/Carries" "first" "Ljava/lang/Long;" .null := D_1 (Or.inl (wdOf hw 17 rfl)) (ty := (.object "java/lang/Long")) (by decide)
  have f_11 : Fld Z h_1 b_1 "com/example/dead_letter_replay/deadletterreplay/queue/Carries" "last" "Lcom/example/dead_letter_replay/deadletterreplay/queue/Carries$Carried;" .null := D_1 (Or.inl (wdOf hw 24 rfl)) (ty := (.object "com/example/dead_letter_replay/deadletterreplay/queue/Carries$Carried")) (by decide)
  have f_12 : Fld Z h_1 b_1 "com/example/dead_letter_replay/deadletterreplay/queue/Carries" "risk" "I" (.int (0 : Int32)) := D_1 (Or.inl (wdOf hw 26 rfl)) (ty := .int) (by decide)
  have f_13 : Fld Z h_1 b_1 "com/example/dead_letter_replay/deadletterreplay/queue/Carries" "since" "I" (.int (0 : Int32)) := D_1 (Or.inl (wdOf hw 28 rfl)) (ty := .int) (by decide)
  have K_14 : Keep h0 h_1 [] := K0.ext E_1
  have y_14 : n0 ≤ h_1.size := Nat.le_trans Z0 K_14.1
  refine Goes.go (U' := (T_1.setTop (mkF m 385 #[sI_ fl, sJ_ e1, sS_, sJ_ e2, sS_, sJ_ e3, sS_, sJ_ f2, sS_, sJ_ f3, sS_, sI_ p1, sI_ hf1, sI_ p2, sI_ s2b, sI_ s2t, sI_ hf2, sI_ x2, sI_ p3, sI_ s3b, sI_ s3t, sI_ hf3, sI_ x3, sI_ (0 : Int32), sI_ b2, sI_ b3, sJ_ (0 : Int64), sS_, sJ_ t2, sS_, sJ_ t3, sS_, .val fv1, sJ_ v2, sS_, .val fv2, sJ_ v3, sS_, .val fv3, .val cv1, .val cv2, .val cv3, sU_, sU_, sU_, sU_, sU_, sU_, sU_, sU_, sU_, sU_] [(.ref b_1)]))) st_1 ?_
  refine Goes.go (U' := (T_1.setTop (mkF m 386 #[sI_ fl, sJ_ e1, sS_, sJ_ e2, sS_, sJ_ e3, sS_, sJ_ f2, sS_, sJ_ f3, sS_, sI_ p1, sI_ hf1, sI_ p2, sI_ s2b, sI_ s2t, sI_ hf2, sI_ x2, sI_ p3, sI_ s3b, sI_ s3t, sI_ hf3, sI_ x3, sI_ (0 : Int32), sI_ b2, sI_ b3, sJ_ (0 : Int64), sS_, sJ_ t2, sS_, sJ_ t3, sS_, .val fv1, sJ_ v2, sS_, .val fv2, sJ_ v3, sS_, .val fv3, .val cv1, .val cv2, .val cv3, sU_, sU_, sU_, sU_, sU_, sU_, sU_, sU_, sU_, sU_] [(.ref b_1), (.ref b_1)]))) (fun t kt => ?_) ?_
  · skip
    refine XS.dup X_1.here hx rfl (hb hby at_385) rfl rfl ?_
    exact kt
  obtain ⟨v_15, T_15, L_15, X_15, q_15, st_15⟩ := callInit X_1 hx hZ (y := (⟨"com/example/dead_letter_replay/deadletterreplay/queue/Carries", "<init>", "()V"⟩ : MethodName)) (W := 1) rfl hown (wdOf hw 3 rfl) (wdOf hw 4 rfl) (wdOf hw 2 rfl) (wdOf hw 5 rfl) (by decide) (rm_ca l Z a0 hw [] b_1 h_1 n0 y_14) (by decide) (by decide) (by decide) (by decide) e_1 (b := b_1) (g := (mkF m 386 #[sI_ fl, sJ_ e1, sS_, sJ_ e2, sS_, sJ_ e3, sS_, sJ_ f2, sS_, sJ_ f3, sS_, sI_ p1, sI_ hf1, sI_ p2, sI_ s2b, sI_ s2t, sI_ hf2, sI_ x2, sI_ p3, sI_ s3b, sI_ s3t, sI_ hf3, sI_ x3, sI_ (0 : Int32), sI_ b2, sI_ b3, sJ_ (0 : Int64), sS_, sJ_ t2, sS_, sJ_ t3, sS_, .val fv1, sJ_ v2, sS_, .val fv2, sJ_ v3, sS_, .val fv3, .val cv1, .val cv2, .val cv3, sU_, sU_, sU_, sU_, sU_, sU_, sU_, sU_, sU_, sU_] [(.ref b_1), (.ref b_1)])) rfl (by rw [hml]; rfl) (argsL := []) (rest := [(.ref b_1)]) (lenOf pd_0 rfl) rfl rfl (Nat.le_refl _) (hb hby at_386)
  obtain ⟨rfl, n_15, K_15⟩ := q_15
  have N_15 := Fr.app N n_15
  refine Goes.go (U' := (T_15.setTop (mkF m 389 #[sI_ fl, sJ_ e1, sS_, sJ_ e2, sS_, sJ_ e3, sS_, sJ_ f2, sS_, sJ_ f3, sS_, sI_ p1, sI_ hf1, sI_ p2, sI_ s2b, sI_ s2t, sI_ hf2, sI_ x2, sI_ p3, sI_ s3b, sI_ s3t, sI_ hf3, sI_ x3, sI_ (0 : Int32), sI_ b2, sI_ b3, sJ_ (0 : Int64), sS_, sJ_ t2, sS_, sJ_ t3, sS_, .val fv1, sJ_ v2, sS_, .val fv2, sJ_ v3, sS_, .val fv3, .val cv1, .val cv2, .val cv3, sU_, sU_, sU_, sU_, sU_, sU_, sU_, sU_, sU_, sU_] [(.ref b_1)]))) st_15 ?_
  have S0 : CarS Z h_1 b_1 none none (0 : Int32) := ⟨_, _, _, _, A_1, f_13, f_11, f_12, f_10, f_9, rfl, rfl⟩
  refine Goes.go (U' := (T_15.setTop (mkF m 393 #[sI_ fl, sJ_ e1, sS_, sJ_ e2, sS_, sJ_ e3, sS_, sJ_ f2, sS_, sJ_ f3, sS_, sI_ p1, sI_ hf1, sI_ p2, sI_ s2b, sI_ s2t, sI_ hf2, sI_ x2, sI_ p3, sI_ s3b, sI_ s3t, sI_ hf3, sI_ x3, sI_ (0 : Int32), sI_ b2, sI_ b3, sJ_ (0 : Int64), sS_, sJ_ t2, sS_, sJ_ t3, sS_, .val fv1, sJ_ v2, sS_, .val fv2, sJ_ v3, sS_, .val fv3, .val cv1, .val cv2, .val cv3, sR_ b_1, sU_, sU_, sU_, sU_, sU_, sU_, sU_, sU_, sU_] [(.ref b_1)]))) (fun t kt => ?_) ?_
  · skip
    refine XS.astore X_15.here hx rfl (hb hby at_389) rfl rfl (l' := #[sI_ fl, sJ_ e1, sS_, sJ_ e2, sS_, sJ_ e3, sS_, sJ_ f2, sS_, sJ_ f3, sS_, sI_ p1, sI_ hf1, sI_ p2, sI_ s2b, sI_ s2t, sI_ hf2, sI_ x2, sI_ p3, sI_ s3b, sI_ s3t, sI_ hf3, sI_ x3, sI_ (0 : Int32), sI_ b2, sI_ b3, sJ_ (0 : Int64), sS_, sJ_ t2, sS_, sJ_ t3, sS_, .val fv1, sJ_ v2, sS_, .val fv2, sJ_ v3, sS_, .val fv3, .val cv1, .val cv2, .val cv3, sR_ b_1, sU_, sU_, sU_, sU_, sU_, sU_, sU_, sU_, sU_]) rfl ?_
    refine XS.aload X_15.here hx rfl (hb hby at_391) rfl rfl ?_
    exact kt
  obtain ⟨v_16, T_16, L_16, X_16, q_16, st_16⟩ := callVirtual X_15 hx hZ (y := (⟨"com/example/dead_letter_replay/deadletterreplay/queue/Carries", "floor", "()Ljava/lang/Long;"⟩ : MethodName)) (z := (⟨"com/example/dead_letter_replay/deadletterreplay/queue/Carries", "floor", "()Ljava/lang/Long;"⟩ : MethodName)) (W := 0) hown (wdOf hw 9 rfl) (wdOf hw 10 rfl) (notFace_of_selects (args := #[]) (mvT hZ (wdOf hw 12 rfl))) (wdOf hw 12 rfl) (wdOf hw 11 rfl) (wdOf hw 2 rfl) (wdOf hw 13 rfl) (by decide) (rm_floor l Z a0 hw [] b_1 none none none (0 : Int32) h_1 n0 y_14 S0 (by simp)) (by decide) (by decide) (by decide) (by decide) K_15 A_1 (g := (mkF m 393 #[sI_ fl, sJ_ e1, sS_, sJ_ e2, sS_, sJ_ e3, sS_, sJ_ f2, sS_, sJ_ f3, sS_, sI_ p1, sI_ hf1, sI_ p2, sI_ s2b, sI_ s2t, sI_ hf2, sI_ x2, sI_ p3, sI_ s3b, sI_ s3t, sI_ hf3, sI_ x3, sI_ (0 : Int32), sI_ b2, sI_ b3, sJ_ (0 : Int64), sS_, sJ_ t2, sS_, sJ_ t3, sS_, .val fv1, sJ_ v2, sS_, .val fv2, sJ_ v3, sS_, .val fv3, .val cv1, .val cv2, .val cv3, sR_ b_1, sU_, sU_, sU_, sU_, sU_, sU_, sU_, sU_, sU_] [(.ref b_1)])) rfl (by rw [hml]; rfl) (argsL := []) (rest := []) (lenOf pd_5 rfl) rfl rfl (Nat.le_refl _) (hb hby at_393)
  obtain ⟨ow_16, rfl, n_16, K_16, W_16⟩ := q_16
  obtain rfl : ow_16 = Value.null := W_16
  have N_16 := Fr.app N_15 n_16
  refine Goes.go (U' := (T_16.setTop (mkF m 396 #[sI_ fl, sJ_ e1, sS_, sJ_ e2, sS_, sJ_ e3, sS_, sJ_ f2, sS_, sJ_ f3, sS_, sI_ p1, sI_ hf1, sI_ p2, sI_ s2b, sI_ s2t, sI_ hf2, sI_ x2, sI_ p3, sI_ s3b, sI_ s3t, sI_ hf3, sI_ x3, sI_ (0 : Int32), sI_ b2, sI_ b3, sJ_ (0 : Int64), sS_, sJ_ t2, sS_, sJ_ t3, sS_, .val fv1, sJ_ v2, sS_, .val fv2, sJ_ v3, sS_, .val fv3, .val cv1, .val cv2, .val cv3, sR_ b_1, sU_, sU_, sU_, sU_, sU_, sU_, sU_, sU_, sU_] [.null]))) st_16 ?_
  refine Goes.go (U' := (T_16.setTop (mkF m 410 #[sI_ fl, sJ_ e1, sS_, sJ_ e2, sS_, sJ_ e3, sS_, sJ_ f2, sS_, sJ_ f3, sS_, sI_ p1, sI_ hf1, sI_ p2, sI_ s2b, sI_ s2t, sI_ hf2, sI_ x2, sI_ p3, sI_ s3b, sI_ s3t, sI_ hf3, sI_ x3, sI_ (0 : Int32), sI_ b2, sI_ b3, sJ_ (0 : Int64), sS_, sJ_ t2, sS_, sJ_ t3, sS_, .val fv1, sJ_ v2, sS_, .val fv2, sJ_ v3, sS_, .val fv3, .val cv1, .val cv2, .val cv3, sR_ b_1, sI_ (1 : Int32), sU_, sU_, sU_, sU_, sU_, sU_, sU_, sU_] [cv1, (.ref b_1)]))) (fun t kt => ?_) ?_
  · skip
    refine XS.ifnonnullNo X_16.here hx rfl (hb hby at_396) rfl ?_
    refine XS.iconst X_16.here hx rfl (hb hby at_399) ?_
    refine XS.goto X_16.here hx rfl (pc0 := 400) (pc' := 404) rfl (hb hby at_400) (by decide) (by decide) ?_
    refine XS.istore X_16.here hx rfl (hb hby at_404) rfl (l' := #[sI_ fl, sJ_ e1, sS_, sJ_ e2, sS_, sJ_ e3, sS_, sJ_ f2, sS_, sJ_ f3, sS_, sI_ p1, sI_ hf1, sI_ p2, sI_ s2b, sI_ s2t, sI_ hf2, sI_ x2, sI_ p3, sI_ s3b, sI_ s3t, sI_ hf3, sI_ x3, sI_ (0 : Int32), sI_ b2, sI_ b3, sJ_ (0 : Int64), sS_, sJ_ t2, sS_, sJ_ t3, sS_, .val fv1, sJ_ v2, sS_, .val fv2, sJ_ v3, sS_, .val fv3, .val cv1, .val cv2, .val cv3, sR_ b_1, sI_ (1 : Int32), sU_, sU_, sU_, sU_, sU_, sU_, sU_, sU_]) rfl ?_
    refine XS.aload X_16.here hx rfl (hb hby at_406) rfl rfl ?_
    refine XS.aload X_16.here hx rfl (hb hby at_408) rfl C1.isRef ?_
    exact kt
  obtain ⟨v_17, T_17, L_17, X_17, q_17, st_17⟩ := callVirtual X_16 hx hZ (y := (⟨"com/example/dead_letter_replay/deadletterreplay/queue/Carries", "carried", "(Lcom/example/dead_letter_replay/deadletterreplay/queue/Carries$Carried;)V"⟩ : MethodName)) (z := (⟨"com/example/dead_letter_replay/deadletterreplay/queue/Carries", "carried", "(Lcom/example/dead_letter_replay/deadletterreplay/queue/Carries$Carried;)V"⟩ : MethodName)) (W := 0) hown (wdOf hw 18 rfl) (wdOf hw 19 rfl) (notFace_of_selects (args := #[]) (mvT hZ (wdOf hw 21 rfl))) (wdOf hw 21 rfl) (wdOf hw 20 rfl) (wdOf hw 2 rfl) (wdOf hw 22 rfl) (by decide) (rm_cr l Z a0 hw [] b_1 cv1 none d1 none (0 : Int32) h_1 n0 y_14 f_2 BC o_1 S0 f_6) (by decide) (by decide) (by decide) (by decide) K_16 A_1 (g := (mkF m 410 #[sI_ fl, sJ_ e1, sS_, sJ_ e2, sS_, sJ_ e3, sS_, sJ_ f2, sS_, sJ_ f3, sS_, sI_ p1, sI_ hf1, sI_ p2, sI_ s2b, sI_ s2t, sI_ hf2, sI_ x2, sI_ p3, sI_ s3b, sI_ s3t, sI_ hf3, sI_ x3, sI_ (0 : Int32), sI_ b2, sI_ b3, sJ_ (0 : Int64), sS_, sJ_ t2, sS_, sJ_ t3, sS_, .val fv1, sJ_ v2, sS_, .val fv2, sJ_ v3, sS_, .val fv3, .val cv1, .val cv2, .val cv3, sR_ b_1, sI_ (1 : Int32), sU_, sU_, sU_, sU_, sU_, sU_, sU_, sU_] [cv1, (.ref b_1)])) rfl (by rw [hml]; rfl) (argsL := [cv1]) (rest := []) (lenOf pd_9 rfl) rfl rfl (Nat.le_refl _) (hb hby at_410)
  obtain ⟨hx_17, rfl, n_17, K_17, S_17, ha_17, hb_17⟩ := q_17
  have N_17 := Fr.app N_16 n_17
  have f_18 : Old Z n0 T_17.heap := f_2.keep K_17 (allS o_1 all0)
  have f_19 : LongV Z T_17.heap fv1 o1 := f_3.keepX K_17 S0.exa (by decide)
  have f_20 : LongV Z T_17.heap fv2 o2 := f_4.keepX K_17 S0.exa (by decide)
  have f_21 : LongV Z T_17.heap fv3 o3 := f_5.keepX K_17 S0.exa (by decide)
  have f_22 : CarV Z T_17.heap cv1 d1 := f_6.keepX K_17 S0.exa (by decide) (by decide)
  have f_23 : CarV Z T_17.heap cv2 d2 := f_7.keepX K_17 S0.exa (by decide) (by decide)
  have f_24 : CarV Z T_17.heap cv3 d3 := f_8.keepX K_17 S0.exa (by decide) (by decide)
  have f_25 : Exa Z T_17.heap b_1 "com/example/dead_letter_replay/deadletterreplay/queue/Carries" := S0.exa.keep K_17
  have K_26 : Keep h0 T_17.heap [] := K_14.trans K_17 (allS (P := fun x => x ∈ [] ∨ h0.size ≤ x) (Or.inr z_1) all0)
  have y_26 : n0 ≤ T_17.heap.size := Nat.le_trans Z0 K_26.1
  refine Goes.go (U' := (T_17.setTop (mkF m 413 #[sI_ fl, sJ_ e1, sS_, sJ_ e2, sS_, sJ_ e3, sS_, sJ_ f2, sS_, sJ_ f3, sS_, sI_ p1, sI_ hf1, sI_ p2, sI_ s2b, sI_ s2t, sI_ hf2, sI_ x2, sI_ p3, sI_ s3b, sI_ s3t, sI_ hf3, sI_ x3, sI_ (0 : Int32), sI_ b2, sI_ b3, sJ_ (0 : Int64), sS_, sJ_ t2, sS_, sJ_ t3, sS_, .val fv1, sJ_ v2, sS_, .val fv2, sJ_ v3, sS_, .val fv3, .val cv1, .val cv2, .val cv3, sR_ b_1, sI_ (1 : Int32), sU_, sU_, sU_, sU_, sU_, sU_, sU_, sU_] []))) st_17 ?_
  obtain rfl : hx_17 = 0 := own_hd0 ha_17 hb_17
  by_cases cp : p1 = 0
  · -- p1
    have hd1 := hD1.1 cp
    refine Goes.go (U' := (T_17.setTop (mkF m 420 #[sI_ fl, sJ_ e1, sS_, sJ_ e2, sS_, sJ_ e3, sS_, sJ_ f2, sS_, sJ_ f3, sS_, sI_ p1, sI_ hf1, sI_ p2, sI_ s2b, sI_ s2t, sI_ hf2, sI_ x2, sI_ p3, sI_ s3b, sI_ s3t, sI_ hf3, sI_ x3, sI_ (0 : Int32), sI_ b2, sI_ b3, sJ_ (0 : Int64), sS_, sJ_ t2, sS_, sJ_ t3, sS_, .val fv1, sJ_ v2, sS_, .val fv2, sJ_ v3, sS_, .val fv3, .val cv1, .val cv2, .val cv3, sR_ b_1, sI_ (1 : Int32), sU_, sU_, sU_, sU_, sU_, sU_, sU_, sU_] [(.ref b_1)]))) (fun t kt => ?_) ?_
    · skip
      refine XS.iload X_17.here hx rfl (hb hby at_413) rfl ?_
      refine XS.ifNo X_17.here hx rfl (hb hby at_415) rfl (XT.i0_eq_f (by decide)) ?_
      refine XS.aload X_17.here hx rfl (hb hby at_418) rfl rfl ?_
      exact kt
    obtain ⟨v_27, T_27, L_27, X_27, q_27, st_27⟩ := callVirtual X_17 hx hZ (y := (⟨"com/example/dead_letter_replay/deadletterreplay/queue/Carries", "floor", "()Ljava/lang/Long;"⟩ : MethodName)) (z := (⟨"com/example/dead_letter_replay/deadletterreplay/queue/Carries", "floor", "()Ljava/lang/Long;"⟩ : MethodName)) (W := 0) hown (wdOf hw 9 rfl) (wdOf hw 10 rfl) (notFace_of_selects (args := #[]) (mvT hZ (wdOf hw 12 rfl))) (wdOf hw 12 rfl) (wdOf hw 11 rfl) (wdOf hw 2 rfl) (wdOf hw 13 rfl) (by decide) (rm_floor l Z a0 hw [] b_1 d1 (OwnFst none d1) none (0 : Int32) T_17.heap n0 y_26 S_17 (by rw [hd1]; rfl)) (by decide) (by decide) (by decide) (by decide) (rfl : T_17.heap = T_17.heap) f_25 (g := (mkF m 420 #[sI_ fl, sJ_ e1, sS_, sJ_ e2, sS_, sJ_ e3, sS_, sJ_ f2, sS_, sJ_ f3, sS_, sI_ p1, sI_ hf1, sI_ p2, sI_ s2b, sI_ s2t, sI_ hf2, sI_ x2, sI_ p3, sI_ s3b, sI_ s3t, sI_ hf3, sI_ x3, sI_ (0 : Int32), sI_ b2, sI_ b3, sJ_ (0 : Int64), sS_, sJ_ t2, sS_, sJ_ t3, sS_, .val fv1, sJ_ v2, sS_, .val fv2, sJ_ v3, sS_, .val fv3, .val cv1, .val cv2, .val cv3, sR_ b_1, sI_ (1 : Int32), sU_, sU_, sU_, sU_, sU_, sU_, sU_, sU_] [(.ref b_1)])) rfl (by rw [hml]; rfl) (argsL := []) (rest := []) (lenOf pd_5 rfl) rfl rfl (Nat.le_refl _) (hb hby at_420)
    obtain ⟨ow_27, rfl, n_27, K_27, W_27⟩ := q_27
    have N_27 := Fr.app N_17 n_27
    refine Goes.go (U' := (T_27.setTop (mkF m 423 #[sI_ fl, sJ_ e1, sS_, sJ_ e2, sS_, sJ_ e3, sS_, sJ_ f2, sS_, sJ_ f3, sS_, sI_ p1, sI_ hf1, sI_ p2, sI_ s2b, sI_ s2t, sI_ hf2, sI_ x2, sI_ p3, sI_ s3b, sI_ s3t, sI_ hf3, sI_ x3, sI_ (0 : Int32), sI_ b2, sI_ b3, sJ_ (0 : Int64), sS_, sJ_ t2, sS_, sJ_ t3, sS_, .val fv1, sJ_ v2, sS_, .val fv2, sJ_ v3, sS_, .val fv3, .val cv1, .val cv2, .val cv3, sR_ b_1, sI_ (1 : Int32), sU_, sU_, sU_, sU_, sU_, sU_, sU_, sU_] [ow_27]))) st_27 ?_
    refine Goes.go (U' := (T_27.setTop (mkF m 434 #[sI_ fl, sJ_ e1, sS_, sJ_ e2, sS_, sJ_ e3, sS_, sJ_ f2, sS_, sJ_ f3, sS_, sI_ p1, sI_ hf1, sI_ p2, sI_ s2b, sI_ s2t, sI_ hf2, sI_ x2, sI_ p3, sI_ s3b, sI_ s3t, sI_ hf3, sI_ x3, sI_ (0 : Int32), sI_ b2, sI_ b3, sJ_ (0 : Int64), sS_, sJ_ t2, sS_, sJ_ t3, sS_, .val fv1, sJ_ v2, sS_, .val fv2, sJ_ v3, sS_, .val fv3, .val cv1, .val cv2, .val cv3, sR_ b_1, sI_ (1 : Int32), sU_, sU_, sU_, sU_, sU_, sU_, sU_, sU_] [(.long e1), (.int (1 : Int32)), ow_27]))) (fun t kt => ?_) ?_
    · skip
      refine XS.iload X_27.here hx rfl (hb hby at_423) rfl ?_
      refine XS.ifNo X_27.here hx rfl (hb hby at_425) rfl (XT.i0_ne_f cp) ?_
      refine XS.iconst X_27.here hx rfl (hb hby at_428) ?_
      refine XS.goto X_27.here hx rfl (pc0 := 429) (pc' := 433) rfl (hb hby at_429) (by decide) (by decide) ?_
      refine XS.lloadN X_27.here hx rfl (hb hby at_433) rfl ?_
      exact kt
    obtain ⟨v_28, T_28, L_28, X_28, q_28, st_28⟩ := callStatic X_27 hx hZ (y := (⟨"com/example/dead_letter_replay/deadletterreplay/queue/CarriesFloorPinLaw", "is", "(Ljava/lang/Long;ZJ)Z"⟩ : MethodName)) (W := 0) hown (wdOf hw 29 rfl) (wdOf hw 30 rfl) (wdOf hw 31 rfl) (wdOf hw 32 rfl) (by decide) (rm_is l Z a0 hw [] ow_27 (1 : Int32) e1 none T_17.heap n0 y_26 W_27 (by simp) (by simp)) (by decide) (by decide) (by decide) (by decide) K_27 (g := (mkF m 434 #[sI_ fl, sJ_ e1, sS_, sJ_ e2, sS_, sJ_ e3, sS_, sJ_ f2, sS_, sJ_ f3, sS_, sI_ p1, sI_ hf1, sI_ p2, sI_ s2b, sI_ s2t, sI_ hf2, sI_ x2, sI_ p3, sI_ s3b, sI_ s3t, sI_ hf3, sI_ x3, sI_ (0 : Int32), sI_ b2, sI_ b3, sJ_ (0 : Int64), sS_, sJ_ t2, sS_, sJ_ t3, sS_, .val fv1, sJ_ v2, sS_, .val fv2, sJ_ v3, sS_, .val fv3, .val cv1, .val cv2, .val cv3, sR_ b_1, sI_ (1 : Int32), sU_, sU_, sU_, sU_, sU_, sU_, sU_, sU_] [(.long e1), (.int (1 : Int32)), ow_27])) rfl (by rw [hml]; rfl) (argsL := [ow_27, (.int (1 : Int32)), (.long e1)]) (rest := []) (lenOf pd_10 rfl) rfl rfl (Nat.le_refl _) (hb hby at_434)
    obtain ⟨rfl, n_28, K_28⟩ := q_28
    have N_28 := Fr.app N_27 n_28
    refine Goes.go (U' := (T_28.setTop (mkF m 437 #[sI_ fl, sJ_ e1, sS_, sJ_ e2, sS_, sJ_ e3, sS_, sJ_ f2, sS_, sJ_ f3, sS_, sI_ p1, sI_ hf1, sI_ p2, sI_ s2b, sI_ s2t, sI_ hf2, sI_ x2, sI_ p3, sI_ s3b, sI_ s3t, sI_ hf3, sI_ x3, sI_ (0 : Int32), sI_ b2, sI_ b3, sJ_ (0 : Int64), sS_, sJ_ t2, sS_, sJ_ t3, sS_, .val fv1, sJ_ v2, sS_, .val fv2, sJ_ v3, sS_, .val fv3, .val cv1, .val cv2, .val cv3, sR_ b_1, sI_ (1 : Int32), sU_, sU_, sU_, sU_, sU_, sU_, sU_, sU_] [(.int (1 : Int32))]))) st_28 ?_
    refine Goes.go (U' := (T_28.setTop (mkF m 447 #[sI_ fl, sJ_ e1, sS_, sJ_ e2, sS_, sJ_ e3, sS_, sJ_ f2, sS_, sJ_ f3, sS_, sI_ p1, sI_ hf1, sI_ p2, sI_ s2b, sI_ s2t, sI_ hf2, sI_ x2, sI_ p3, sI_ s3b, sI_ s3t, sI_ hf3, sI_ x3, sI_ (0 : Int32), sI_ b2, sI_ b3, sJ_ (0 : Int64), sS_, sJ_ t2, sS_, sJ_ t3, sS_, .val fv1, sJ_ v2, sS_, .val fv2, sJ_ v3, sS_, .val fv3, .val cv1, .val cv2, .val cv3, sR_ b_1, sI_ (1 : Int32), sU_, sU_, sU_, sU_, sU_, sU_, sU_, sU_] []))) (fun t kt => ?_) ?_
    · skip
      refine XS.ifNo X_28.here hx rfl (hb hby at_437) rfl (XT.i0_eq_f (by decide)) ?_
      refine XS.iconst X_28.here hx rfl (hb hby at_440) ?_
      refine XS.goto X_28.here hx rfl (pc0 := 441) (pc' := 445) rfl (hb hby at_441) (by decide) (by decide) ?_
      refine XS.istore X_28.here hx rfl (hb hby at_445) rfl (l' := #[sI_ fl, sJ_ e1, sS_, sJ_ e2, sS_, sJ_ e3, sS_, sJ_ f2, sS_, sJ_ f3, sS_, sI_ p1, sI_ hf1, sI_ p2, sI_ s2b, sI_ s2t, sI_ hf2, sI_ x2, sI_ p3, sI_ s3b, sI_ s3t, sI_ hf3, sI_ x3, sI_ (0 : Int32), sI_ b2, sI_ b3, sJ_ (0 : Int64), sS_, sJ_ t2, sS_, sJ_ t3, sS_, .val fv1, sJ_ v2, sS_, .val fv2, sJ_ v3, sS_, .val fv3, .val cv1, .val cv2, .val cv3, sR_ b_1, sI_ (1 : Int32), sU_, sU_, sU_, sU_, sU_, sU_, sU_, sU_]) rfl ?_
      exact kt
    exact law_447 l Z a0 hw fl e1 e2 e3 f2 f3 p1 hf1 p2 s2b s2t hf2 x2 p3 s3b s3t hf3 x3 b2 b3 t2 t3 fv1 o1 v2 fv2 o2 v3 fv3 o3 cv1 d1 cv2 d2 cv3 d3 b_1 h0 n0 Z0 p e s m below meth c hx hby hml hown hnm hret hlk hZ _ _ _ X_28 K_28 N_28 K_26 f_18 BC hb2 hb3 ht2 ht3 f_19 f_20 ho2 f_21 ho3 f_22 hD1 f_23 hD2 f_24 hD3 o_1 z_1 S_17
  · -- p1
    have hd1 := hD1.2 cp
    refine Goes.go (U' := (T_17.setTop (mkF m 420 #[sI_ fl, sJ_ e1, sS_, sJ_ e2, sS_, sJ_ e3, sS_, sJ_ f2, sS_, sJ_ f3, sS_, sI_ p1, sI_ hf1, sI_ p2, sI_ s2b, sI_ s2t, sI_ hf2, sI_ x2, sI_ p3, sI_ s3b, sI_ s3t, sI_ hf3, sI_ x3, sI_ (0 : Int32), sI_ b2, sI_ b3, sJ_ (0 : Int64), sS_, sJ_ t2, sS_, sJ_ t3, sS_, .val fv1, sJ_ v2, sS_, .val fv2, sJ_ v3, sS_, .val fv3, .val cv1, .val cv2, .val cv3, sR_ b_1, sI_ (1 : Int32), sU_, sU_, sU_, sU_, sU_, sU_, sU_, sU_] [(.ref b_1)]))) (fun t kt => ?_) ?_
    · skip
      refine XS.iload X_17.here hx rfl (hb hby at_413) rfl ?_
      refine XS.ifNo X_17.here hx rfl (hb hby at_415) rfl (XT.i0_eq_f (by decide)) ?_
      refine XS.aload X_17.here hx rfl (hb hby at_418) rfl rfl ?_
      exact kt
    obtain ⟨v_29, T_29, L_29, X_29, q_29, st_29⟩ := callVirtual X_17 hx hZ (y := (⟨"com/example/dead_letter_replay/deadletterreplay/queue/Carries", "floor", "()Ljava/lang/Long;"⟩ : MethodName)) (z := (⟨"com/example/dead_letter_replay/deadletterreplay/queue/Carries", "floor", "()Ljava/lang/Long;"⟩ : MethodName)) (W := 0) hown (wdOf hw 9 rfl) (wdOf hw 10 rfl) (notFace_of_selects (args := #[]) (mvT hZ (wdOf hw 12 rfl))) (wdOf hw 12 rfl) (wdOf hw 11 rfl) (wdOf hw 2 rfl) (wdOf hw 13 rfl) (by decide) (rm_floor l Z a0 hw [] b_1 d1 (OwnFst none d1) (some e1) (0 : Int32) T_17.heap n0 y_26 S_17 (by rw [hd1]; rfl)) (by decide) (by decide) (by decide) (by decide) (rfl : T_17.heap = T_17.heap) f_25 (g := (mkF m 420 #[sI_ fl, sJ_ e1, sS_, sJ_ e2, sS_, sJ_ e3, sS_, sJ_ f2, sS_, sJ_ f3, sS_, sI_ p1, sI_ hf1, sI_ p2, sI_ s2b, sI_ s2t, sI_ hf2, sI_ x2, sI_ p3, sI_ s3b, sI_ s3t, sI_ hf3, sI_ x3, sI_ (0 : Int32), sI_ b2, sI_ b3, sJ_ (0 : Int64), sS_, sJ_ t2, sS_, sJ_ t3, sS_, .val fv1, sJ_ v2, sS_, .val fv2, sJ_ v3, sS_, .val fv3, .val cv1, .val cv2, .val cv3, sR_ b_1, sI_ (1 : Int32), sU_, sU_, sU_, sU_, sU_, sU_, sU_, sU_] [(.ref b_1)])) rfl (by rw [hml]; rfl) (argsL := []) (rest := []) (lenOf pd_5 rfl) rfl rfl (Nat.le_refl _) (hb hby at_420)
    obtain ⟨ow_29, rfl, n_29, K_29, W_29⟩ := q_29
    have N_29 := Fr.app N_17 n_29
    refine Goes.go (U' := (T_29.setTop (mkF m 423 #[sI_ fl, sJ_ e1, sS_, sJ_ e2, sS_, sJ_ e3, sS_, sJ_ f2, sS_, sJ_ f3, sS_, sI_ p1, sI_ hf1, sI_ p2, sI_ s2b, sI_ s2t, sI_ hf2, sI_ x2, sI_ p3, sI_ s3b, sI_ s3t, sI_ hf3, sI_ x3, sI_ (0 : Int32), sI_ b2, sI_ b3, sJ_ (0 : Int64), sS_, sJ_ t2, sS_, sJ_ t3, sS_, .val fv1, sJ_ v2, sS_, .val fv2, sJ_ v3, sS_, .val fv3, .val cv1, .val cv2, .val cv3, sR_ b_1, sI_ (1 : Int32), sU_, sU_, sU_, sU_, sU_, sU_, sU_, sU_] [ow_29]))) st_29 ?_
    refine Goes.go (U' := (T_29.setTop (mkF m 434 #[sI_ fl, sJ_ e1, sS_, sJ_ e2, sS_, sJ_ e3, sS_, sJ_ f2, sS_, sJ_ f3, sS_, sI_ p1, sI_ hf1, sI_ p2, sI_ s2b, sI_ s2t, sI_ hf2, sI_ x2, sI_ p3, sI_ s3b, sI_ s3t, sI_ hf3, sI_ x3, sI_ (0 : Int32), sI_ b2, sI_ b3, sJ_ (0 : Int64), sS_, sJ_ t2, sS_, sJ_ t3, sS_, .val fv1, sJ_ v2, sS_, .val fv2, sJ_ v3, sS_, .val fv3, .val cv1, .val cv2, .val cv3, sR_ b_1, sI_ (1 : Int32), sU_, sU_, sU_, sU_, sU_, sU_, sU_, sU_] [(.long e1), (.int (0 : Int32)), ow_29]))) (fun t kt => ?_) ?_
    · skip
      refine XS.iload X_29.here hx rfl (hb hby at_423) rfl ?_
      refine XS.ifYes X_29.here hx rfl (pc0 := 425) (pc' := 432) rfl (hb hby at_425) rfl (XT.i0_ne_t cp) (by decide) (by decide) ?_
      refine XS.iconst X_29.here hx rfl (hb hby at_432) ?_
      refine XS.lloadN X_29.here hx rfl (hb hby at_433) rfl ?_
      exact kt
    obtain ⟨v_30, T_30, L_30, X_30, q_30, st_30⟩ := callStatic X_29 hx hZ (y := (⟨"com/example/dead_letter_replay/deadletterreplay/queue/CarriesFloorPinLaw", "is", "(Ljava/lang/Long;ZJ)Z"⟩ : MethodName)) (W := 0) hown (wdOf hw 29 rfl) (wdOf hw 30 rfl) (wdOf hw 31 rfl) (wdOf hw 32 rfl) (by decide) (rm_is l Z a0 hw [] ow_29 (0 : Int32) e1 (some e1) T_17.heap n0 y_26 W_29 (by simp) (by simp)) (by decide) (by decide) (by decide) (by decide) K_29 (g := (mkF m 434 #[sI_ fl, sJ_ e1, sS_, sJ_ e2, sS_, sJ_ e3, sS_, sJ_ f2, sS_, sJ_ f3, sS_, sI_ p1, sI_ hf1, sI_ p2, sI_ s2b, sI_ s2t, sI_ hf2, sI_ x2, sI_ p3, sI_ s3b, sI_ s3t, sI_ hf3, sI_ x3, sI_ (0 : Int32), sI_ b2, sI_ b3, sJ_ (0 : Int64), sS_, sJ_ t2, sS_, sJ_ t3, sS_, .val fv1, sJ_ v2, sS_, .val fv2, sJ_ v3, sS_, .val fv3, .val cv1, .val cv2, .val cv3, sR_ b_1, sI_ (1 : Int32), sU_, sU_, sU_, sU_, sU_, sU_, sU_, sU_] [(.long e1), (.int (0 : Int32)), ow_29])) rfl (by rw [hml]; rfl) (argsL := [ow_29, (.int (0 : Int32)), (.long e1)]) (rest := []) (lenOf pd_10 rfl) rfl rfl (Nat.le_refl _) (hb hby at_434)
    obtain ⟨rfl, n_30, K_30⟩ := q_30
    have N_30 := Fr.app N_29 n_30
    refine Goes.go (U' := (T_30.setTop (mkF m 437 #[sI_ fl, sJ_ e1, sS_, sJ_ e2, sS_, sJ_ e3, sS_, sJ_ f2, sS_, sJ_ f3, sS_, sI_ p1, sI_ hf1, sI_ p2, sI_ s2b, sI_ s2t, sI_ hf2, sI_ x2, sI_ p3, sI_ s3b, sI_ s3t, sI_ hf3, sI_ x3, sI_ (0 : Int32), sI_ b2, sI_ b3, sJ_ (0 : Int64), sS_, sJ_ t2, sS_, sJ_ t3, sS_, .val fv1, sJ_ v2, sS_, .val fv2, sJ_ v3, sS_, .val fv3, .val cv1, .val cv2, .val cv3, sR_ b_1, sI_ (1 : Int32), sU_, sU_, sU_, sU_, sU_, sU_, sU_, sU_] [(.int (1 : Int32))]))) st_30 ?_
    refine Goes.go (U' := (T_30.setTop (mkF m 447 #[sI_ fl, sJ_ e1, sS_, sJ_ e2, sS_, sJ_ e3, sS_, sJ_ f2, sS_, sJ_ f3, sS_, sI_ p1, sI_ hf1, sI_ p2, sI_ s2b, sI_ s2t, sI_ hf2, sI_ x2, sI_ p3, sI_ s3b, sI_ s3t, sI_ hf3, sI_ x3, sI_ (0 : Int32), sI_ b2, sI_ b3, sJ_ (0 : Int64), sS_, sJ_ t2, sS_, sJ_ t3, sS_, .val fv1, sJ_ v2, sS_, .val fv2, sJ_ v3, sS_, .val fv3, .val cv1, .val cv2, .val cv3, sR_ b_1, sI_ (1 : Int32), sU_, sU_, sU_, sU_, sU_, sU_, sU_, sU_] []))) (fun t kt => ?_) ?_
    · skip
      refine XS.ifNo X_30.here hx rfl (hb hby at_437) rfl (XT.i0_eq_f (by decide)) ?_
      refine XS.iconst X_30.here hx rfl (hb hby at_440) ?_
      refine XS.goto X_30.here hx rfl (pc0 := 441) (pc' := 445) rfl (hb hby at_441) (by decide) (by decide) ?_
      refine XS.istore X_30.here hx rfl (hb hby at_445) rfl (l' := #[sI_ fl, sJ_ e1, sS_, sJ_ e2, sS_, sJ_ e3, sS_, sJ_ f2, sS_, sJ_ f3, sS_, sI_ p1, sI_ hf1, sI_ p2, sI_ s2b, sI_ s2t, sI_ hf2, sI_ x2, sI_ p3, sI_ s3b, sI_ s3t, sI_ hf3, sI_ x3, sI_ (0 : Int32), sI_ b2, sI_ b3, sJ_ (0 : Int64), sS_, sJ_ t2, sS_, sJ_ t3, sS_, .val fv1, sJ_ v2, sS_, .val fv2, sJ_ v3, sS_, .val fv3, .val cv1, .val cv2, .val cv3, sR_ b_1, sI_ (1 : Int32), sU_, sU_, sU_, sU_, sU_, sU_, sU_, sU_]) rfl ?_
      exact kt
    exact law_447 l Z a0 hw fl e1 e2 e3 f2 f3 p1 hf1 p2 s2b s2t hf2 x2 p3 s3b s3t hf3 x3 b2 b3 t2 t3 fv1 o1 v2 fv2 o2 v3 fv3 o3 cv1 d1 cv2 d2 cv3 d3 b_1 h0 n0 Z0 p e s m below meth c hx hby hml hown hnm hret hlk hZ _ _ _ X_30 K_30 N_30 K_26 f_18 BC hb2 hb3 ht2 ht3 f_19 f_20 ho2 f_21 ho3 f_22 hD1 f_23 hD2 f_24 hD3 o_1 z_1 S_17
set_option maxRecDepth 65536 in
set_option maxHeartbeats 40000000 in
theorem law_356 (l : Launch) (Z : State) (a0 : Array Value) (hw : ∀ d ∈ tables_1, d.before a0 Z = true) (fl : Int32) (e1 e2 e3 f2 f3 : Int64) (p1 : Int32) (hf1 : Int32) (p2 : Int32) (s2b : Int32) (s2t : Int32) (hf2 : Int32) (x2 : Int32) (p3 : Int32) (s3b : Int32) (s3t : Int32) (hf3 : Int32) (x3 : Int32) (b2 : Int32) (b3 : Int32) (t2 : Int64) (t3 : Int64) (fv1 : Value) (o1 : Option Int64) (v2 : Int64) (fv2 : Value) (o2 : Option Int64) (v3 : Int64) (fv3 : Value) (o3 : Option Int64) (cv1 : Value) (d1 : Option OwnC) (cv2 : Value) (d2 : Option OwnC) (h0 : Heap) (n0 : Nat) (Z0 : n0 ≤ h0.size) (p : Program) (e : Env) (s : State) (m : MethodId) (below : List Frame) (meth : Method) (c : Code) (hx : p.tables.exec = Jvm.exec) (hby : c.code = code) (hml : c.maxLocals = maxLocals) (hown : s.vm.findClass "com/example/dead_letter_replay/deadletterreplay/queue/CarriesFloorPinLaw" = some m.cls) (hnm : meth.name = "law") (hret : meth.sig.returnType = ret) (hlk : meth.locks = false) (hZ : Z.Warmed39 s.vm) (h : Heap) (T : State) (locs : List Loc) (X : Stand p l e room_1 s m #[(.int fl), (.long e1), (.long e2), (.long e3), (.long f2), (.long f3)] below meth c T locs 5 11) (eT : T.heap = h) (N : Fr n0 locs) (K0 : Keep h0 h []) (O : Old Z n0 h) (BC : BoxC Z "java/lang/Long$LongCache" "[Ljava/lang/Long;" "java/lang/Long" "J" (fun i => .long (i.toInt32 - 128).toInt64)) (hb2 : b2 = (0 : Int32) ↔ ¬ s2b = 0) (hb3 : b3 = b2 ↔ ¬ s3b = 0) (ht2 : t2 = (0 : Int64) ↔ ¬ s2t = 0) (ht3 : t3 = t2 ↔ ¬ s3t = 0) (L1 : LongV Z h fv1 o1) (L2 : LongV Z h fv2 o2) (ho2 : (hf2 = 0 → o2 = none) ∧ (¬ hf2 = 0 → o2 = some v2)) (L3 : LongV Z h fv3 o3) (ho3 : (hf3 = 0 → o3 = none) ∧ (¬ hf3 = 0 → o3 = some v3)) (C1 : CarV Z h cv1 d1) (hD1 : (p1 = 0 → d1 = none) ∧ (¬ p1 = 0 → d1 = some (o1, e1, (0 : Int64), (0 : Int32)))) (C2 : CarV Z h cv2 d2) (hD2 : (p2 = 0 → d2 = none) ∧ (¬ p2 = 0 → d2 = some (o2, e2, t2, b2))) :
    Goes p e s below (fun v h L => v = some (.int 1) ∧ Fr n0 L) room_1.cells room_1.slots (T.setTop (mkF m 356 #[sI_ fl, sJ_ e1, sS_, sJ_ e2, sS_, sJ_ e3, sS_, sJ_ f2, sS_, sJ_ f3, sS_, sI_ p1, sI_ hf1, sI_ p2, sI_ s2b, sI_ s2t, sI_ hf2, sI_ x2, sI_ p3, sI_ s3b, sI_ s3t, sI_ hf3, sI_ x3, sI_ (0 : Int32), sI_ b2, sI_ b3, sJ_ (0 : Int64), sS_, sJ_ t2, sS_, sJ_ t3, sS_, .val fv1, sJ_ v2, sS_, .val fv2, sJ_ v3, sS_, .val fv3, .val cv1, .val cv2, sU_, sU_, sU_, sU_, sU_, sU_, sU_, sU_, sU_, sU_, sU_] [])) := by
  have sz0 : n0 ≤ h.size := Nat.le_trans Z0 K0.1
  refine Goes.go (U' := (T.setTop (mkF m 358 #[sI_ fl, sJ_ e1, sS_, sJ_ e2, sS_, sJ_ e3, sS_, sJ_ f2, sS_, sJ_ f3, sS_, sI_ p1, sI_ hf1, sI_ p2, sI_ s2b, sI_ s2t, sI_ hf2, sI_ x2, sI_ p3, sI_ s3b, sI_ s3t, sI_ hf3, sI_ x3, sI_ (0 : Int32), sI_ b2, sI_ b3, sJ_ (0 : Int64), sS_, sJ_ t2, sS_, sJ_ t3, sS_, .val fv1, sJ_ v2, sS_, .val fv2, sJ_ v3, sS_, .val fv3, .val cv1, .val cv2, sU_, sU_, sU_, sU_, sU_, sU_, sU_, sU_, sU_, sU_, sU_] [(.int p3)]))) (fun t kt => ?_) ?_
  · skip
    refine XS.iload X.here hx rfl (hb hby at_356) rfl ?_
    exact kt
  by_cases cc : p3 = 0
  · -- p3 = 0
    refine Goes.go (U' := (T.setTop (mkF m 382 #[sI_ fl, sJ_ e1, sS_, sJ_ e2, sS_, sJ_ e3, sS_, sJ_ f2, sS_, sJ_ f3, sS_, sI_ p1, sI_ hf1, sI_ p2, sI_ s2b, sI_ s2t, sI_ hf2, sI_ x2, sI_ p3, sI_ s3b, sI_ s3t, sI_ hf3, sI_ x3, sI_ (0 : Int32), sI_ b2, sI_ b3, sJ_ (0 : Int64), sS_, sJ_ t2, sS_, sJ_ t3, sS_, .val fv1, sJ_ v2, sS_, .val fv2, sJ_ v3, sS_, .val fv3, .val cv1, .val cv2, .val .null, sU_, sU_, sU_, sU_, sU_, sU_, sU_, sU_, sU_, sU_] []))) (fun t kt => ?_) ?_
    · skip
      refine XS.ifYes X.here hx rfl (pc0 := 358) (pc' := 379) rfl (hb hby at_358) rfl (XT.i0_eq_t cc) (by decide) (by decide) ?_
      refine XS.aconstNull X.here hx rfl (hb hby at_379) ?_
      refine XS.astore X.here hx rfl (hb hby at_380) rfl rfl (l' := #[sI_ fl, sJ_ e1, sS_, sJ_ e2, sS_, sJ_ e3, sS_, sJ_ f2, sS_, sJ_ f3, sS_, sI_ p1, sI_ hf1, sI_ p2, sI_ s2b, sI_ s2t, sI_ hf2, sI_ x2, sI_ p3, sI_ s3b, sI_ s3t, sI_ hf3, sI_ x3, sI_ (0 : Int32), sI_ b2, sI_ b3, sJ_ (0 : Int64), sS_, sJ_ t2, sS_, sJ_ t3, sS_, .val fv1, sJ_ v2, sS_, .val fv2, sJ_ v3, sS_, .val fv3, .val cv1, .val cv2, .val .null, sU_, sU_, sU_, sU_, sU_, sU_, sU_, sU_, sU_, sU_]) rfl ?_
      exact kt
    exact law_382 l Z a0 hw fl e1 e2 e3 f2 f3 p1 hf1 p2 s2b s2t hf2 x2 p3 s3b s3t hf3 x3 b2 b3 t2 t3 fv1 o1 v2 fv2 o2 v3 fv3 o3 cv1 d1 cv2 d2 Value.null none h0 n0 Z0 p e s m below meth c hx hby hml hown hnm hret hlk hZ _ _ _ (moreRoom (cells' := 6) (slots' := 15) X (by decide) (by decide)) eT N K0 O BC hb2 hb3 ht2 ht3 L1 L2 ho2 L3 ho3 C1 hD1 C2 hD2 rfl ⟨fun _ => rfl, fun q => absurd cc q⟩
  · -- not p3 = 0
    refine Goes.go (U' := (T.setTop (mkF m 361 #[sI_ fl, sJ_ e1, sS_, sJ_ e2, sS_, sJ_ e3, sS_, sJ_ f2, sS_, sJ_ f3, sS_, sI_ p1, sI_ hf1, sI_ p2, sI_ s2b, sI_ s2t, sI_ hf2, sI_ x2, sI_ p3, sI_ s3b, sI_ s3t, sI_ hf3, sI_ x3, sI_ (0 : Int32), sI_ b2, sI_ b3, sJ_ (0 : Int64), sS_, sJ_ t2, sS_, sJ_ t3, sS_, .val fv1, sJ_ v2, sS_, .val fv2, sJ_ v3, sS_, .val fv3, .val cv1, .val cv2, sU_, sU_, sU_, sU_, sU_, sU_, sU_, sU_, sU_, sU_, sU_] []))) (fun t kt => ?_) ?_
    · skip
      refine XS.ifNo X.here hx rfl (hb hby at_358) rfl (XT.i0_eq_f cc) ?_
      exact kt
    obtain ⟨T_1, h_1, X_1, e_1, E_1, A_1, D_1, -, st_1⟩ := newO X hx hZ hown (wdOf hw 53 rfl) (wdOf hw 54 rfl) (wdOf hw 55 rfl) eT (g := (mkF m 361 #[sI_ fl, sJ_ e1, sS_, sJ_ e2, sS_, sJ_ e3, sS_, sJ_ f2, sS_, sJ_ f3, sS_, sI_ p1, sI_ hf1, sI_ p2, sI_ s2b, sI_ s2t, sI_ hf2, sI_ x2, sI_ p3, sI_ s3b, sI_ s3t, sI_ hf3, sI_ x3, sI_ (0 : Int32), sI_ b2, sI_ b3, sJ_ (0 : Int64), sS_, sJ_ t2, sS_, sJ_ t3, sS_, .val fv1, sJ_ v2, sS_, .val fv2, sJ_ v3, sS_, .val fv3, .val cv1, .val cv2, sU_, sU_, sU_, sU_, sU_, sU_, sU_, sU_, sU_, sU_, sU_] [])) rfl (hb hby at_361) (by decide) (by decide)
    obtain ⟨b_1, g_1⟩ : ∃ z, z = h.size := ⟨_, rfl⟩
    rw [← g_1] at A_1 D_1 st_1
    have o_1 : n0 ≤ b_1 := Nat.le_trans sz0 (Nat.le_of_eq g_1.symm)
    have z_1 : h0.size ≤ b_1 := Nat.le_trans K0.1 (Nat.le_of_eq g_1.symm)
    have f_2 : Old Z n0 h_1 := O.ext E_1
    have f_3 : LongV Z h_1 fv1 o1 := L1.ext E_1
    have f_4 : LongV Z h_1 fv2 o2 := L2.ext E_1
    have f_5 : LongV Z h_1 fv3 o3 := L3.ext E_1
    have f_6 : CarV Z h_1 cv1 d1 := C1.ext E_1
    have f_7 : CarV Z h_1 cv2 d2 := C2.ext E_1
    have f_8 : Fld Z h_1 b_1 "com/example/dead_letter_replay/deadletterreplay/queue/Carries$Carried" "from" "Ljava/lang/Long;" .null := D_1 (Or.inr (wdOf hw 66 rfl)) (ty := (.object "java/lang/Long")) (by decide)
    have f_9 : Fld Z h_1 b_1 "com/example/dead_letter_replay/deadletterreplay/queue/Carries$Carried" "era" "J" (.long (0 : Int64)) := D_1 (Or.inr (wdOf hw 68 rfl)) (ty := .long) (by decide)
    have f_10 : Fld Z h_1 b_1 "com/example/dead_letter_replay/deadletterreplay/queue/Carries$Carried" "transaction" "J" (.long (0 : Int64)) := D_1 (Or.inr (wdOf hw 70 rfl)) (ty := .long) (by decide)
    have f_11 : Fld Z h_1 b_1 "com/example/dead_letter_replay/deadletterreplay/queue/Carries$Carried" "backend" "I" (.int (0 : Int32)) := D_1 (Or.inr (wdOf hw 72 rfl)) (ty := .int) (by decide)
    have K_12 : Keep h0 h_1 [] := K0.ext E_1
    have y_12 : n0 ≤ h_1.size := Nat.le_trans Z0 K_12.1
    refine Goes.go (U' := (T_1.setTop (mkF m 364 #[sI_ fl, sJ_ e1, sS_, sJ_ e2, sS_, sJ_ e3, sS_, sJ_ f2, sS_, sJ_ f3, sS_, sI_ p1, sI_ hf1, sI_ p2, sI_ s2b, sI_ s2t, sI_ hf2, sI_ x2, sI_ p3, sI_ s3b, sI_ s3t, sI_ hf3, sI_ x3, sI_ (0 : Int32), sI_ b2, sI_ b3, sJ_ (0 : Int64), sS_, sJ_ t2, sS_, sJ_ t3, sS_, .val fv1, sJ_ v2, sS_, .val fv2, sJ_ v3, sS_, .val fv3, .val cv1, .val cv2, sU_, sU_, sU_, sU_, sU_, sU_, sU_, sU_, sU_, sU_, sU_] [(.ref b_1)]))) st_1 ?_
    refine Goes.go (U' := (T_1.setTop (mkF m 373 #[sI_ fl, sJ_ e1, sS_, sJ_ e2, sS_, sJ_ e3, sS_, sJ_ f2, sS_, sJ_ f3, sS_, sI_ p1, sI_ hf1, sI_ p2, sI_ s2b, sI_ s2t, sI_ hf2, sI_ x2, sI_ p3, sI_ s3b, sI_ s3t, sI_ hf3, sI_ x3, sI_ (0 : Int32), sI_ b2, sI_ b3, sJ_ (0 : Int64), sS_, sJ_ t2, sS_, sJ_ t3, sS_, .val fv1, sJ_ v2, sS_, .val fv2, sJ_ v3, sS_, .val fv3, .val cv1, .val cv2, sU_, sU_, sU_, sU_, sU_, sU_, sU_, sU_, sU_, sU_, sU_] [(.int b3), (.long t3), (.long e3), fv3, (.ref b_1), (.ref b_1)]))) (fun t kt => ?_) ?_
    · skip
      refine XS.dup X_1.here hx rfl (hb hby at_364) rfl rfl ?_
      refine XS.aload X_1.here hx rfl (hb hby at_365) rfl L3.isRef ?_
      refine XS.lload X_1.here hx rfl (hb hby at_367) rfl ?_
      refine XS.lload X_1.here hx rfl (hb hby at_369) rfl ?_
      refine XS.iload X_1.here hx rfl (hb hby at_371) rfl ?_
      exact kt
    obtain ⟨v_13, T_13, L_13, X_13, q_13, st_13⟩ := callInit X_1 hx hZ (y := (⟨"com/example/dead_letter_replay/deadletterreplay/queue/Carries$Carried", "<init>", "(Ljava/lang/Long;JJI)V"⟩ : MethodName)) (W := 1) rfl hown (wdOf hw 56 rfl) (wdOf hw 57 rfl) (wdOf hw 55 rfl) (wdOf hw 58 rfl) (by decide) (rm_cd l Z a0 hw [] b_1 fv3 L3.isRef e3 t3 b3 h_1 n0 y_12 o_1 A_1 f_8 f_9 f_10 f_11) (by decide) (by decide) (by decide) (by decide) e_1 (b := b_1) (g := (mkF m 373 #[sI_ fl, sJ_ e1, sS_, sJ_ e2, sS_, sJ_ e3, sS_, sJ_ f2, sS_, sJ_ f3, sS_, sI_ p1, sI_ hf1, sI_ p2, sI_ s2b, sI_ s2t, sI_ hf2, sI_ x2, sI_ p3, sI_ s3b, sI_ s3t, sI_ hf3, sI_ x3, sI_ (0 : Int32), sI_ b2, sI_ b3, sJ_ (0 : Int64), sS_, sJ_ t2, sS_, sJ_ t3, sS_, .val fv1, sJ_ v2, sS_, .val fv2, sJ_ v3, sS_, .val fv3, .val cv1, .val cv2, sU_, sU_, sU_, sU_, sU_, sU_, sU_, sU_, sU_, sU_, sU_] [(.int b3), (.long t3), (.long e3), fv3, (.ref b_1), (.ref b_1)])) rfl (by rw [hml]; rfl) (argsL := [fv3, (.long e3), (.long t3), (.int b3)]) (rest := [(.ref b_1)]) (lenOf pd_11 rfl) rfl rfl (Nat.le_refl _) (hb hby at_373)
    obtain ⟨rfl, n_13, K_13, GE__13, Gfrom__13, Gera__13, Gtransaction__13, Gbackend__13⟩ := q_13
    have N_13 := Fr.app N n_13
    have f_14 : Old Z n0 T_13.heap := f_2.keep K_13 (allS o_1 all0)
    have f_15 : Exa Z T_13.heap b_1 "com/example/dead_letter_replay/deadletterreplay/queue/Carries$Carried" := A_1.keep K_13
    have K_20 : Keep h0 T_13.heap [] := K_12.trans K_13 (allS (P := fun x => x ∈ [] ∨ h0.size ≤ x) (Or.inr z_1) all0)
    have y_20 : n0 ≤ T_13.heap.size := Nat.le_trans Z0 K_20.1
    refine Goes.go (U' := (T_13.setTop (mkF m 376 #[sI_ fl, sJ_ e1, sS_, sJ_ e2, sS_, sJ_ e3, sS_, sJ_ f2, sS_, sJ_ f3, sS_, sI_ p1, sI_ hf1, sI_ p2, sI_ s2b, sI_ s2t, sI_ hf2, sI_ x2, sI_ p3, sI_ s3b, sI_ s3t, sI_ hf3, sI_ x3, sI_ (0 : Int32), sI_ b2, sI_ b3, sJ_ (0 : Int64), sS_, sJ_ t2, sS_, sJ_ t3, sS_, .val fv1, sJ_ v2, sS_, .val fv2, sJ_ v3, sS_, .val fv3, .val cv1, .val cv2, sU_, sU_, sU_, sU_, sU_, sU_, sU_, sU_, sU_, sU_, sU_] [(.ref b_1)]))) st_13 ?_
    have KK_13 : Ext h T_13.heap := Ext.of_keep (((Keep.refl h []).ext E_1).trans K_13 (allS (P := fun x => x ∈ [] ∨ h.size ≤ x) (Or.inr (Nat.le_of_eq g_1.symm)) all0))
    have f_21 : LongV Z T_13.heap fv1 o1 := L1.ext KK_13
    have f_22 : LongV Z T_13.heap fv2 o2 := L2.ext KK_13
    have f_23 : LongV Z T_13.heap fv3 o3 := L3.ext KK_13
    have f_24 : CarV Z T_13.heap cv1 d1 := C1.ext KK_13
    have f_25 : CarV Z T_13.heap cv2 d2 := C2.ext KK_13
    refine Goes.go (U' := (T_13.setTop (mkF m 382 #[sI_ fl, sJ_ e1, sS_, sJ_ e2, sS_, sJ_ e3, sS_, sJ_ f2, sS_, sJ_ f3, sS_, sI_ p1, sI_ hf1, sI_ p2, sI_ s2b, sI_ s2t, sI_ hf2, sI_ x2, sI_ p3, sI_ s3b, sI_ s3t, sI_ hf3, sI_ x3, sI_ (0 : Int32), sI_ b2, sI_ b3, sJ_ (0 : Int64), sS_, sJ_ t2, sS_, sJ_ t3, sS_, .val fv1, sJ_ v2, sS_, .val fv2, sJ_ v3, sS_, .val fv3, .val cv1, .val cv2, sR_ b_1, sU_, sU_, sU_, sU_, sU_, sU_, sU_, sU_, sU_, sU_] []))) (fun t kt => ?_) ?_
    · skip
      refine XS.goto X_13.here hx rfl (pc0 := 376) (pc' := 380) rfl (hb hby at_376) (by decide) (by decide) ?_
      refine XS.astore X_13.here hx rfl (hb hby at_380) rfl rfl (l' := #[sI_ fl, sJ_ e1, sS_, sJ_ e2, sS_, sJ_ e3, sS_, sJ_ f2, sS_, sJ_ f3, sS_, sI_ p1, sI_ hf1, sI_ p2, sI_ s2b, sI_ s2t, sI_ hf2, sI_ x2, sI_ p3, sI_ s3b, sI_ s3t, sI_ hf3, sI_ x3, sI_ (0 : Int32), sI_ b2, sI_ b3, sJ_ (0 : Int64), sS_, sJ_ t2, sS_, sJ_ t3, sS_, .val fv1, sJ_ v2, sS_, .val fv2, sJ_ v3, sS_, .val fv3, .val cv1, .val cv2, sR_ b_1, sU_, sU_, sU_, sU_, sU_, sU_, sU_, sU_, sU_, sU_]) rfl ?_
      exact kt
    exact law_382 l Z a0 hw fl e1 e2 e3 f2 f3 p1 hf1 p2 s2b s2t hf2 x2 p3 s3b s3t hf3 x3 b2 b3 t2 t3 fv1 o1 v2 fv2 o2 v3 fv3 o3 cv1 d1 cv2 d2 (.ref b_1) (some (o3, e3, t3, b3)) h0 n0 Z0 p e s m below meth c hx hby hml hown hnm hret hlk hZ _ _ _ X_13 (rfl : T_13.heap = T_13.heap) N_13 K_20 f_14 BC hb2 hb3 ht2 ht3 f_21 f_22 ho2 f_23 ho3 f_24 hD1 f_25 hD2 ⟨_, _, rfl, f_15, Gfrom__13, Gera__13, Gtransaction__13, Gbackend__13, f_23⟩ ⟨fun q => absurd q cc, fun _ => rfl⟩
set_option maxRecDepth 65536 in
set_option maxHeartbeats 40000000 in
theorem law_331 (l : Launch) (Z : State) (a0 : Array Value) (hw : ∀ d ∈ tables_1, d.before a0 Z = true) (fl : Int32) (e1 e2 e3 f2 f3 : Int64) (p1 : Int32) (hf1 : Int32) (p2 : Int32) (s2b : Int32) (s2t : Int32) (hf2 : Int32) (x2 : Int32) (p3 : Int32) (s3b : Int32) (s3t : Int32) (hf3 : Int32) (x3 : Int32) (b2 : Int32) (b3 : Int32) (t2 : Int64) (t3 : Int64) (fv1 : Value) (o1 : Option Int64) (v2 : Int64) (fv2 : Value) (o2 : Option Int64) (v3 : Int64) (fv3 : Value) (o3 : Option Int64) (cv1 : Value) (d1 : Option OwnC) (h0 : Heap) (n0 : Nat) (Z0 : n0 ≤ h0.size) (p : Program) (e : Env) (s : State) (m : MethodId) (below : List Frame) (meth : Method) (c : Code) (hx : p.tables.exec = Jvm.exec) (hby : c.code = code) (hml : c.maxLocals = maxLocals) (hown : s.vm.findClass "com/example/dead_letter_replay/deadletterreplay/queue/CarriesFloorPinLaw" = some m.cls) (hnm : meth.name = "law") (hret : meth.sig.returnType = ret) (hlk : meth.locks = false) (hZ : Z.Warmed39 s.vm) (h : Heap) (T : State) (locs : List Loc) (X : Stand p l e room_1 s m #[(.int fl), (.long e1), (.long e2), (.long e3), (.long f2), (.long f3)] below meth c T locs 4 7) (eT : T.heap = h) (N : Fr n0 locs) (K0 : Keep h0 h []) (O : Old Z n0 h) (BC : BoxC Z "java/lang/Long$LongCache" "[Ljava/lang/Long;" "java/lang/Long" "J" (fun i => .long (i.toInt32 - 128).toInt64)) (hb2 : b2 = (0 : Int32) ↔ ¬ s2b = 0) (hb3 : b3 = b2 ↔ ¬ s3b = 0) (ht2 : t2 = (0 : Int64) ↔ ¬ s2t = 0) (ht3 : t3 = t2 ↔ ¬ s3t = 0) (L1 : LongV Z h fv1 o1) (L2 : LongV Z h fv2 o2) (ho2 : (hf2 = 0 → o2 = none) ∧ (¬ hf2 = 0 → o2 = some v2)) (L3 : LongV Z h fv3 o3) (ho3 : (hf3 = 0 → o3 = none) ∧ (¬ hf3 = 0 → o3 = some v3)) (C1 : CarV Z h cv1 d1) (hD1 : (p1 = 0 → d1 = none) ∧ (¬ p1 = 0 → d1 = some (o1, e1, (0 : Int64), (0 : Int32)))) :
    Goes p e s below (fun v h L => v = some (.int 1) ∧ Fr n0 L) room_1.cells room_1.slots (T.setTop (mkF m 331 #[sI_ fl, sJ_ e1, sS_, sJ_ e2, sS_, sJ_ e3, sS_, sJ_ f2, sS_, sJ_ f3, sS_, sI_ p1, sI_ hf1, sI_ p2, sI_ s2b, sI_ s2t, sI_ hf2, sI_ x2, sI_ p3, sI_ s3b, sI_ s3t, sI_ hf3, sI_ x3, sI_ (0 : Int32), sI_ b2, sI_ b3, sJ_ (0 : Int64), sS_, sJ_ t2, sS_, sJ_ t3, sS_, .val fv1, sJ_ v2, sS_, .val fv2, sJ_ v3, sS_, .val fv3, .val cv1, sU_, sU_, sU_, sU_, sU_, sU_, sU_, sU_, sU_, sU_, sU_, sU_] [])) := by
  have sz0 : n0 ≤ h.size := Nat.le_trans Z0 K0.1
  refine Goes.go (U' := (T.setTop (mkF m 333 #[sI_ fl, sJ_ e1, sS_, sJ_ e2, sS_, sJ_ e3, sS_, sJ_ f2, sS_, sJ_ f3, sS_, sI_ p1, sI_ hf1, sI_ p2, sI_ s2b, sI_ s2t, sI_ hf2, sI_ x2, sI_ p3, sI_ s3b, sI_ s3t, sI_ hf3, sI_ x3, sI_ (0 : Int32), sI_ b2, sI_ b3, sJ_ (0 : Int64), sS_, sJ_ t2, sS_, sJ_ t3, sS_, .val fv1, sJ_ v2, sS_, .val fv2, sJ_ v3, sS_, .val fv3, .val cv1, sU_, sU_, sU_, sU_, sU_, sU_, sU_, sU_, sU_, sU_, sU_, sU_] [(.int p2)]))) (fun t kt => ?_) ?_
  · skip
    refine XS.iload X.here hx rfl (hb hby at_331) rfl ?_
    exact kt
  by_cases cc : p2 = 0
  · -- p2 = 0
    refine Goes.go (U' := (T.setTop (mkF m 356 #[sI_ fl, sJ_ e1, sS_, sJ_ e2, sS_, sJ_ e3, sS_, sJ_ f2, sS_, sJ_ f3, sS_, sI_ p1, sI_ hf1, sI_ p2, sI_ s2b, sI_ s2t, sI_ hf2, sI_ x2, sI_ p3, sI_ s3b, sI_ s3t, sI_ hf3, sI_ x3, sI_ (0 : Int32), sI_ b2, sI_ b3, sJ_ (0 : Int64), sS_, sJ_ t2, sS_, sJ_ t3, sS_, .val fv1, sJ_ v2, sS_, .val fv2, sJ_ v3, sS_, .val fv3, .val cv1, .val .null, sU_, sU_, sU_, sU_, sU_, sU_, sU_, sU_, sU_, sU_, sU_] []))) (fun t kt => ?_) ?_
    · skip
      refine XS.ifYes X.here hx rfl (pc0 := 333) (pc' := 353) rfl (hb hby at_333) rfl (XT.i0_eq_t cc) (by decide) (by decide) ?_
      refine XS.aconstNull X.here hx rfl (hb hby at_353) ?_
      refine XS.astore X.here hx rfl (hb hby at_354) rfl rfl (l' := #[sI_ fl, sJ_ e1, sS_, sJ_ e2, sS_, sJ_ e3, sS_, sJ_ f2, sS_, sJ_ f3, sS_, sI_ p1, sI_ hf1, sI_ p2, sI_ s2b, sI_ s2t, sI_ hf2, sI_ x2, sI_ p3, sI_ s3b, sI_ s3t, sI_ hf3, sI_ x3, sI_ (0 : Int32), sI_ b2, sI_ b3, sJ_ (0 : Int64), sS_, sJ_ t2, sS_, sJ_ t3, sS_, .val fv1, sJ_ v2, sS_, .val fv2, sJ_ v3, sS_, .val fv3, .val cv1, .val .null, sU_, sU_, sU_, sU_, sU_, sU_, sU_, sU_, sU_, sU_, sU_]) rfl ?_
      exact kt
    exact law_356 l Z a0 hw fl e1 e2 e3 f2 f3 p1 hf1 p2 s2b s2t hf2 x2 p3 s3b s3t hf3 x3 b2 b3 t2 t3 fv1 o1 v2 fv2 o2 v3 fv3 o3 cv1 d1 Value.null none h0 n0 Z0 p e s m below meth c hx hby hml hown hnm hret hlk hZ _ _ _ (moreRoom (cells' := 5) (slots' := 11) X (by decide) (by decide)) eT N K0 O BC hb2 hb3 ht2 ht3 L1 L2 ho2 L3 ho3 C1 hD1 rfl ⟨fun _ => rfl, fun q => absurd cc q⟩
  · -- not p2 = 0
    refine Goes.go (U' := (T.setTop (mkF m 336 #[sI_ fl, sJ_ e1, sS_, sJ_ e2, sS_, sJ_ e3, sS_, sJ_ f2, sS_, sJ_ f3, sS_, sI_ p1, sI_ hf1, sI_ p2, sI_ s2b, sI_ s2t, sI_ hf2, sI_ x2, sI_ p3, sI_ s3b, sI_ s3t, sI_ hf3, sI_ x3, sI_ (0 : Int32), sI_ b2, sI_ b3, sJ_ (0 : Int64), sS_, sJ_ t2, sS_, sJ_ t3, sS_, .val fv1, sJ_ v2, sS_, .val fv2, sJ_ v3, sS_, .val fv3, .val cv1, sU_, sU_, sU_, sU_, sU_, sU_, sU_, sU_, sU_, sU_, sU_, sU_] []))) (fun t kt => ?_) ?_
    · skip
      refine XS.ifNo X.here hx rfl (hb hby at_333) rfl (XT.i0_eq_f cc) ?_
      exact kt
    obtain ⟨T_1, h_1, X_1, e_1, E_1, A_1, D_1, -, st_1⟩ := newO X hx hZ hown (wdOf hw 53 rfl) (wdOf hw 54 rfl) (wdOf hw 55 rfl) eT (g := (mkF m 336 #[sI_ fl, sJ_ e1, sS_, sJ_ e2, sS_, sJ_ e3, sS_, sJ_ f2, sS_, sJ_ f3, sS_, sI_ p1, sI_ hf1, sI_ p2, sI_ s2b, sI_ s2t, sI_ hf2, sI_ x2, sI_ p3, sI_ s3b, sI_ s3t, sI_ hf3, sI_ x3, sI_ (0 : Int32), sI_ b2, sI_ b3, sJ_ (0 : Int64), sS_, sJ_ t2, sS_, sJ_ t3, sS_, .val fv1, sJ_ v2, sS_, .val fv2, sJ_ v3, sS_, .val fv3, .val cv1, sU_, sU_, sU_, sU_, sU_, sU_, sU_, sU_, sU_, sU_, sU_, sU_] [])) rfl (hb hby at_336) (by decide) (by decide)
    obtain ⟨b_1, g_1⟩ : ∃ z, z = h.size := ⟨_, rfl⟩
    rw [← g_1] at A_1 D_1 st_1
    have o_1 : n0 ≤ b_1 := Nat.le_trans sz0 (Nat.le_of_eq g_1.symm)
    have z_1 : h0.size ≤ b_1 := Nat.le_trans K0.1 (Nat.le_of_eq g_1.symm)
    have f_2 : Old Z n0 h_1 := O.ext E_1
    have f_3 : LongV Z h_1 fv1 o1 := L1.ext E_1
    have f_4 : LongV Z h_1 fv2 o2 := L2.ext E_1
    have f_5 : LongV Z h_1 fv3 o3 := L3.ext E_1
    have f_6 : CarV Z h_1 cv1 d1 := C1.ext E_1
    have f_7 : Fld Z h_1 b_1 "com/example/dead_letter_replay/deadletterreplay/queue/Carries$Carried" "from" "Ljava/lang/Long;" .null := D_1 (Or.inr (wdOf hw 66 rfl)) (ty := (.object "java/lang/Long")) (by decide)
    have f_8 : Fld Z h_1 b_1 "com/example/dead_letter_replay/deadletterreplay/queue/Carries$Carried" "era" "J" (.long (0 : Int64)) := D_1 (Or.inr (wdOf hw 68 rfl)) (ty := .long) (by decide)
    have f_9 : Fld Z h_1 b_1 "com/example/dead_letter_replay/deadletterreplay/queue/Carries$Carried" "transaction" "J" (.long (0 : Int64)) := D_1 (Or.inr (wdOf hw 70 rfl)) (ty := .long) (by decide)
    have f_10 : Fld Z h_1 b_1 "com/example/dead_letter_replay/deadletterreplay/queue/Carries$Carried" "backend" "I" (.int (0 : Int32)) := D_1 (Or.inr (wdOf hw 72 rfl)) (ty := .int) (by decide)
    have K_11 : Keep h0 h_1 [] := K0.ext E_1
    have y_11 : n0 ≤ h_1.size := Nat.le_trans Z0 K_11.1
    refine Goes.go (U' := (T_1.setTop (mkF m 339 #[sI_ fl, sJ_ e1, sS_, sJ_ e2, sS_, sJ_ e3, sS_, sJ_ f2, sS_, sJ_ f3, sS_, sI_ p1, sI_ hf1, sI_ p2, sI_ s2b, sI_ s2t, sI_ hf2, sI_ x2, sI_ p3, sI_ s3b, sI_ s3t, sI_ hf3, sI_ x3, sI_ (0 : Int32), sI_ b2, sI_ b3, sJ_ (0 : Int64), sS_, sJ_ t2, sS_, sJ_ t3, sS_, .val fv1, sJ_ v2, sS_, .val fv2, sJ_ v3, sS_, .val fv3, .val cv1, sU_, sU_, sU_, sU_, sU_, sU_, sU_, sU_, sU_, sU_, sU_, sU_] [(.ref b_1)]))) st_1 ?_
    refine Goes.go (U' := (T_1.setTop (mkF m 347 #[sI_ fl, sJ_ e1, sS_, sJ_ e2, sS_, sJ_ e3, sS_, sJ_ f2, sS_, sJ_ f3, sS_, sI_ p1, sI_ hf1, sI_ p2, sI_ s2b, sI_ s2t, sI_ hf2, sI_ x2, sI_ p3, sI_ s3b, sI_ s3t, sI_ hf3, sI_ x3, sI_ (0 : Int32), sI_ b2, sI_ b3, sJ_ (0 : Int64), sS_, sJ_ t2, sS_, sJ_ t3, sS_, .val fv1, sJ_ v2, sS_, .val fv2, sJ_ v3, sS_, .val fv3, .val cv1, sU_, sU_, sU_, sU_, sU_, sU_, sU_, sU_, sU_, sU_, sU_, sU_] [(.int b2), (.long t2), (.long e2), fv2, (.ref b_1), (.ref b_1)]))) (fun t kt => ?_) ?_
    · skip
      refine XS.dup X_1.here hx rfl (hb hby at_339) rfl rfl ?_
      refine XS.aload X_1.here hx rfl (hb hby at_340) rfl L2.isRef ?_
      refine XS.lloadN X_1.here hx rfl (hb hby at_342) rfl ?_
      refine XS.lload X_1.here hx rfl (hb hby at_343) rfl ?_
      refine XS.iload X_1.here hx rfl (hb hby at_345) rfl ?_
      exact kt
    obtain ⟨v_12, T_12, L_12, X_12, q_12, st_12⟩ := callInit X_1 hx hZ (y := (⟨"com/example/dead_letter_replay/deadletterreplay/queue/Carries$Carried", "<init>", "(Ljava/lang/Long;JJI)V"⟩ : MethodName)) (W := 1) rfl hown (wdOf hw 56 rfl) (wdOf hw 57 rfl) (wdOf hw 55 rfl) (wdOf hw 58 rfl) (by decide) (rm_cd l Z a0 hw [] b_1 fv2 L2.isRef e2 t2 b2 h_1 n0 y_11 o_1 A_1 f_7 f_8 f_9 f_10) (by decide) (by decide) (by decide) (by decide) e_1 (b := b_1) (g := (mkF m 347 #[sI_ fl, sJ_ e1, sS_, sJ_ e2, sS_, sJ_ e3, sS_, sJ_ f2, sS_, sJ_ f3, sS_, sI_ p1, sI_ hf1, sI_ p2, sI_ s2b, sI_ s2t, sI_ hf2, sI_ x2, sI_ p3, sI_ s3b, sI_ s3t, sI_ hf3, sI_ x3, sI_ (0 : Int32), sI_ b2, sI_ b3, sJ_ (0 : Int64), sS_, sJ_ t2, sS_, sJ_ t3, sS_, .val fv1, sJ_ v2, sS_, .val fv2, sJ_ v3, sS_, .val fv3, .val cv1, sU_, sU_, sU_, sU_, sU_, sU_, sU_, sU_, sU_, sU_, sU_, sU_] [(.int b2), (.long t2), (.long e2), fv2, (.ref b_1), (.ref b_1)])) rfl (by rw [hml]; rfl) (argsL := [fv2, (.long e2), (.long t2), (.int b2)]) (rest := [(.ref b_1)]) (lenOf pd_11 rfl) rfl rfl (Nat.le_refl _) (hb hby at_347)
    obtain ⟨rfl, n_12, K_12, GE__12, Gfrom__12, Gera__12, Gtransaction__12, Gbackend__12⟩ := q_12
    have N_12 := Fr.app N n_12
    have f_13 : Old Z n0 T_12.heap := f_2.keep K_12 (allS o_1 all0)
    have f_14 : Exa Z T_12.heap b_1 "com/example/dead_letter_replay/deadletterreplay/queue/Carries$Carried" := A_1.keep K_12
    have K_19 : Keep h0 T_12.heap [] := K_11.trans K_12 (allS (P := fun x => x ∈ [] ∨ h0.size ≤ x) (Or.inr z_1) all0)
    have y_19 : n0 ≤ T_12.heap.size := Nat.le_trans Z0 K_19.1
    refine Goes.go (U' := (T_12.setTop (mkF m 350 #[sI_ fl, sJ_ e1, sS_, sJ_ e2, sS_, sJ_ e3, sS_, sJ_ f2, sS_, sJ_ f3, sS_, sI_ p1, sI_ hf1, sI_ p2, sI_ s2b, sI_ s2t, sI_ hf2, sI_ x2, sI_ p3, sI_ s3b, sI_ s3t, sI_ hf3, sI_ x3, sI_ (0 : Int32), sI_ b2, sI_ b3, sJ_ (0 : Int64), sS_, sJ_ t2, sS_, sJ_ t3, sS_, .val fv1, sJ_ v2, sS_, .val fv2, sJ_ v3, sS_, .val fv3, .val cv1, sU_, sU_, sU_, sU_, sU_, sU_, sU_, sU_, sU_, sU_, sU_, sU_] [(.ref b_1)]))) st_12 ?_
    have KK_12 : Ext h T_12.heap := Ext.of_keep (((Keep.refl h []).ext E_1).trans K_12 (allS (P := fun x => x ∈ [] ∨ h.size ≤ x) (Or.inr (Nat.le_of_eq g_1.symm)) all0))
    have f_20 : LongV Z T_12.heap fv1 o1 := L1.ext KK_12
    have f_21 : LongV Z T_12.heap fv2 o2 := L2.ext KK_12
    have f_22 : LongV Z T_12.heap fv3 o3 := L3.ext KK_12
    have f_23 : CarV Z T_12.heap cv1 d1 := C1.ext KK_12
    refine Goes.go (U' := (T_12.setTop (mkF m 356 #[sI_ fl, sJ_ e1, sS_, sJ_ e2, sS_, sJ_ e3, sS_, sJ_ f2, sS_, sJ_ f3, sS_, sI_ p1, sI_ hf1, sI_ p2, sI_ s2b, sI_ s2t, sI_ hf2, sI_ x2, sI_ p3, sI_ s3b, sI_ s3t, sI_ hf3, sI_ x3, sI_ (0 : Int32), sI_ b2, sI_ b3, sJ_ (0 : Int64), sS_, sJ_ t2, sS_, sJ_ t3, sS_, .val fv1, sJ_ v2, sS_, .val fv2, sJ_ v3, sS_, .val fv3, .val cv1, sR_ b_1, sU_, sU_, sU_, sU_, sU_, sU_, sU_, sU_, sU_, sU_, sU_] []))) (fun t kt => ?_) ?_
    · skip
      refine XS.goto X_12.here hx rfl (pc0 := 350) (pc' := 354) rfl (hb hby at_350) (by decide) (by decide) ?_
      refine XS.astore X_12.here hx rfl (hb hby at_354) rfl rfl (l' := #[sI_ fl, sJ_ e1, sS_, sJ_ e2, sS_, sJ_ e3, sS_, sJ_ f2, sS_, sJ_ f3, sS_, sI_ p1, sI_ hf1, sI_ p2, sI_ s2b, sI_ s2t, sI_ hf2, sI_ x2, sI_ p3, sI_ s3b, sI_ s3t, sI_ hf3, sI_ x3, sI_ (0 : Int32), sI_ b2, sI_ b3, sJ_ (0 : Int64), sS_, sJ_ t2, sS_, sJ_ t3, sS_, .val fv1, sJ_ v2, sS_, .val fv2, sJ_ v3, sS_, .val fv3, .val cv1, sR_ b_1, sU_, sU_, sU_, sU_, sU_, sU_, sU_, sU_, sU_, sU_, sU_]) rfl ?_
      exact kt
    exact law_356 l Z a0 hw fl e1 e2 e3 f2 f3 p1 hf1 p2 s2b s2t hf2 x2 p3 s3b s3t hf3 x3 b2 b3 t2 t3 fv1 o1 v2 fv2 o2 v3 fv3 o3 cv1 d1 (.ref b_1) (some (o2, e2, t2, b2)) h0 n0 Z0 p e s m below meth c hx hby hml hown hnm hret hlk hZ _ _ _ X_12 (rfl : T_12.heap = T_12.heap) N_12 K_19 f_13 BC hb2 hb3 ht2 ht3 f_20 f_21 ho2 f_22 ho3 f_23 hD1 ⟨_, _, rfl, f_14, Gfrom__12, Gera__12, Gtransaction__12, Gbackend__12, f_21⟩ ⟨fun q => absurd q cc, fun _ => rfl⟩
set_option maxRecDepth 65536 in
set_option maxHeartbeats 40000000 in
theorem law_306 (l : Launch) (Z : State) (a0 : Array Value) (hw : ∀ d ∈ tables_1, d.before a0 Z = true) (fl : Int32) (e1 e2 e3 f2 f3 : Int64) (p1 : Int32) (hf1 : Int32) (p2 : Int32) (s2b : Int32) (s2t : Int32) (hf2 : Int32) (x2 : Int32) (p3 : Int32) (s3b : Int32) (s3t : Int32) (hf3 : Int32) (x3 : Int32) (b2 : Int32) (b3 : Int32) (t2 : Int64) (t3 : Int64) (fv1 : Value) (o1 : Option Int64) (v2 : Int64) (fv2 : Value) (o2 : Option Int64) (v3 : Int64) (fv3 : Value) (o3 : Option Int64) (h0 : Heap) (n0 : Nat) (Z0 : n0 ≤ h0.size) (p : Program) (e : Env) (s : State) (m : MethodId) (below : List Frame) (meth : Method) (c : Code) (hx : p.tables.exec = Jvm.exec) (hby : c.code = code) (hml : c.maxLocals = maxLocals) (hown : s.vm.findClass "com/example/dead_letter_replay/deadletterreplay/queue/CarriesFloorPinLaw" = some m.cls) (hnm : meth.name = "law") (hret : meth.sig.returnType = ret) (hlk : meth.locks = false) (hZ : Z.Warmed39 s.vm) (h : Heap) (T : State) (locs : List Loc) (X : Stand p l e room_1 s m #[(.int fl), (.long e1), (.long e2), (.long e3), (.long f2), (.long f3)] below meth c T locs 3 3) (eT : T.heap = h) (N : Fr n0 locs) (K0 : Keep h0 h []) (O : Old Z n0 h) (BC : BoxC Z "java/lang/Long$LongCache" "[Ljava/lang/Long;" "java/lang/Long" "J" (fun i => .long (i.toInt32 - 128).toInt64)) (hb2 : b2 = (0 : Int32) ↔ ¬ s2b = 0) (hb3 : b3 = b2 ↔ ¬ s3b = 0) (ht2 : t2 = (0 : Int64) ↔ ¬ s2t = 0) (ht3 : t3 = t2 ↔ ¬ s3t = 0) (L1 : LongV Z h fv1 o1) (L2 : LongV Z h fv2 o2) (ho2 : (hf2 = 0 → o2 = none) ∧ (¬ hf2 = 0 → o2 = some v2)) (L3 : LongV Z h fv3 o3) (ho3 : (hf3 = 0 → o3 = none) ∧ (¬ hf3 = 0 → o3 = some v3)) :
    Goes p e s below (fun v h L => v = some (.int 1) ∧ Fr n0 L) room_1.cells room_1.slots (T.setTop (mkF m 306 #[sI_ fl, sJ_ e1, sS_, sJ_ e2, sS_, sJ_ e3, sS_, sJ_ f2, sS_, sJ_ f3, sS_, sI_ p1, sI_ hf1, sI_ p2, sI_ s2b, sI_ s2t, sI_ hf2, sI_ x2, sI_ p3, sI_ s3b, sI_ s3t, sI_ hf3, sI_ x3, sI_ (0 : Int32), sI_ b2, sI_ b3, sJ_ (0 : Int64), sS_, sJ_ t2, sS_, sJ_ t3, sS_, .val fv1, sJ_ v2, sS_, .val fv2, sJ_ v3, sS_, .val fv3, sU_, sU_, sU_, sU_, sU_, sU_, sU_, sU_, sU_, sU_, sU_, sU_, sU_] [])) := by
  have sz0 : n0 ≤ h.size := Nat.le_trans Z0 K0.1
  refine Goes.go (U' := (T.setTop (mkF m 308 #[sI_ fl, sJ_ e1, sS_, sJ_ e2, sS_, sJ_ e3, sS_, sJ_ f2, sS_, sJ_ f3, sS_, sI_ p1, sI_ hf1, sI_ p2, sI_ s2b, sI_ s2t, sI_ hf2, sI_ x2, sI_ p3, sI_ s3b, sI_ s3t, sI_ hf3, sI_ x3, sI_ (0 : Int32), sI_ b2, sI_ b3, sJ_ (0 : Int64), sS_, sJ_ t2, sS_, sJ_ t3, sS_, .val fv1, sJ_ v2, sS_, .val fv2, sJ_ v3, sS_, .val fv3, sU_, sU_, sU_, sU_, sU_, sU_, sU_, sU_, sU_, sU_, sU_, sU_, sU_] [(.int p1)]))) (fun t kt => ?_) ?_
  · skip
    refine XS.iload X.here hx rfl (hb hby at_306) rfl ?_
    exact kt
  by_cases cc : p1 = 0
  · -- p1 = 0
    refine Goes.go (U' := (T.setTop (mkF m 331 #[sI_ fl, sJ_ e1, sS_, sJ_ e2, sS_, sJ_ e3, sS_, sJ_ f2, sS_, sJ_ f3, sS_, sI_ p1, sI_ hf1, sI_ p2, sI_ s2b, sI_ s2t, sI_ hf2, sI_ x2, sI_ p3, sI_ s3b, sI_ s3t, sI_ hf3, sI_ x3, sI_ (0 : Int32), sI_ b2, sI_ b3, sJ_ (0 : Int64), sS_, sJ_ t2, sS_, sJ_ t3, sS_, .val fv1, sJ_ v2, sS_, .val fv2, sJ_ v3, sS_, .val fv3, .val .null, sU_, sU_, sU_, sU_, sU_, sU_, sU_, sU_, sU_, sU_, sU_, sU_] []))) (fun t kt => ?_) ?_
    · skip
      refine XS.ifYes X.here hx rfl (pc0 := 308) (pc' := 328) rfl (hb hby at_308) rfl (XT.i0_eq_t cc) (by decide) (by decide) ?_
      refine XS.aconstNull X.here hx rfl (hb hby at_328) ?_
      refine XS.astore X.here hx rfl (hb hby at_329) rfl rfl (l' := #[sI_ fl, sJ_ e1, sS_, sJ_ e2, sS_, sJ_ e3, sS_, sJ_ f2, sS_, sJ_ f3, sS_, sI_ p1, sI_ hf1, sI_ p2, sI_ s2b, sI_ s2t, sI_ hf2, sI_ x2, sI_ p3, sI_ s3b, sI_ s3t, sI_ hf3, sI_ x3, sI_ (0 : Int32), sI_ b2, sI_ b3, sJ_ (0 : Int64), sS_, sJ_ t2, sS_, sJ_ t3, sS_, .val fv1, sJ_ v2, sS_, .val fv2, sJ_ v3, sS_, .val fv3, .val .null, sU_, sU_, sU_, sU_, sU_, sU_, sU_, sU_, sU_, sU_, sU_, sU_]) rfl ?_
      exact kt
    exact law_331 l Z a0 hw fl e1 e2 e3 f2 f3 p1 hf1 p2 s2b s2t hf2 x2 p3 s3b s3t hf3 x3 b2 b3 t2 t3 fv1 o1 v2 fv2 o2 v3 fv3 o3 Value.null none h0 n0 Z0 p e s m below meth c hx hby hml hown hnm hret hlk hZ _ _ _ (moreRoom (cells' := 4) (slots' := 7) X (by decide) (by decide)) eT N K0 O BC hb2 hb3 ht2 ht3 L1 L2 ho2 L3 ho3 rfl ⟨fun _ => rfl, fun q => absurd cc q⟩
  · -- not p1 = 0
    refine Goes.go (U' := (T.setTop (mkF m 311 #[sI_ fl, sJ_ e1, sS_, sJ_ e2, sS_, sJ_ e3, sS_, sJ_ f2, sS_, sJ_ f3, sS_, sI_ p1, sI_ hf1, sI_ p2, sI_ s2b, sI_ s2t, sI_ hf2, sI_ x2, sI_ p3, sI_ s3b, sI_ s3t, sI_ hf3, sI_ x3, sI_ (0 : Int32), sI_ b2, sI_ b3, sJ_ (0 : Int64), sS_, sJ_ t2, sS_, sJ_ t3, sS_, .val fv1, sJ_ v2, sS_, .val fv2, sJ_ v3, sS_, .val fv3, sU_, sU_, sU_, sU_, sU_, sU_, sU_, sU_, sU_, sU_, sU_, sU_, sU_] []))) (fun t kt => ?_) ?_
    · skip
      refine XS.ifNo X.here hx rfl (hb hby at_308) rfl (XT.i0_eq_f cc) ?_
      exact kt
    obtain ⟨T_1, h_1, X_1, e_1, E_1, A_1, D_1, -, st_1⟩ := newO X hx hZ hown (wdOf hw 53 rfl) (wdOf hw 54 rfl) (wdOf hw 55 rfl) eT (g := (mkF m 311 #[sI_ fl, sJ_ e1, sS_, sJ_ e2, sS_, sJ_ e3, sS_, sJ_ f2, sS_, sJ_ f3, sS_, sI_ p1, sI_ hf1, sI_ p2, sI_ s2b, sI_ s2t, sI_ hf2, sI_ x2, sI_ p3, sI_ s3b, sI_ s3t, sI_ hf3, sI_ x3, sI_ (0 : Int32), sI_ b2, sI_ b3, sJ_ (0 : Int64), sS_, sJ_ t2, sS_, sJ_ t3, sS_, .val fv1, sJ_ v2, sS_, .val fv2, sJ_ v3, sS_, .val fv3, sU_, sU_, sU_, sU_, sU_, sU_, sU_, sU_, sU_, sU_, sU_, sU_, sU_] [])) rfl (hb hby at_311) (by decide) (by decide)
    obtain ⟨b_1, g_1⟩ : ∃ z, z = h.size := ⟨_, rfl⟩
    rw [← g_1] at A_1 D_1 st_1
    have o_1 : n0 ≤ b_1 := Nat.le_trans sz0 (Nat.le_of_eq g_1.symm)
    have z_1 : h0.size ≤ b_1 := Nat.le_trans K0.1 (Nat.le_of_eq g_1.symm)
    have f_2 : Old Z n0 h_1 := O.ext E_1
    have f_3 : LongV Z h_1 fv1 o1 := L1.ext E_1
    have f_4 : LongV Z h_1 fv2 o2 := L2.ext E_1
    have f_5 : LongV Z h_1 fv3 o3 := L3.ext E_1
    have f_6 : Fld Z h_1 b_1 "com/example/dead_letter_replay/deadletterreplay/queue/Carries$Carried" "from" "Ljava/lang/Long;" .null := D_1 (Or.inr (wdOf hw 66 rfl)) (ty := (.object "java/lang/Long")) (by decide)
    have f_7 : Fld Z h_1 b_1 "com/example/dead_letter_replay/deadletterreplay/queue/Carries$Carried" "era" "J" (.long (0 : Int64)) := D_1 (Or.inr (wdOf hw 68 rfl)) (ty := .long) (by decide)
    have f_8 : Fld Z h_1 b_1 "com/example/dead_letter_replay/deadletterreplay/queue/Carries$Carried" "transaction" "J" (.long (0 : Int64)) := D_1 (Or.inr (wdOf hw 70 rfl)) (ty := .long) (by decide)
    have f_9 : Fld Z h_1 b_1 "com/example/dead_letter_replay/deadletterreplay/queue/Carries$Carried" "backend" "I" (.int (0 : Int32)) := D_1 (Or.inr (wdOf hw 72 rfl)) (ty := .int) (by decide)
    have K_10 : Keep h0 h_1 [] := K0.ext E_1
    have y_10 : n0 ≤ h_1.size := Nat.le_trans Z0 K_10.1
    refine Goes.go (U' := (T_1.setTop (mkF m 314 #[sI_ fl, sJ_ e1, sS_, sJ_ e2, sS_, sJ_ e3, sS_, sJ_ f2, sS_, sJ_ f3, sS_, sI_ p1, sI_ hf1, sI_ p2, sI_ s2b, sI_ s2t, sI_ hf2, sI_ x2, sI_ p3, sI_ s3b, sI_ s3t, sI_ hf3, sI_ x3, sI_ (0 : Int32), sI_ b2, sI_ b3, sJ_ (0 : Int64), sS_, sJ_ t2, sS_, sJ_ t3, sS_, .val fv1, sJ_ v2, sS_, .val fv2, sJ_ v3, sS_, .val fv3, sU_, sU_, sU_, sU_, sU_, sU_, sU_, sU_, sU_, sU_, sU_, sU_, sU_] [(.ref b_1)]))) st_1 ?_
    refine Goes.go (U' := (T_1.setTop (mkF m 322 #[sI_ fl, sJ_ e1, sS_, sJ_ e2, sS_, sJ_ e3, sS_, sJ_ f2, sS_, sJ_ f3, sS_, sI_ p1, sI_ hf1, sI_ p2, sI_ s2b, sI_ s2t, sI_ hf2, sI_ x2, sI_ p3, sI_ s3b, sI_ s3t, sI_ hf3, sI_ x3, sI_ (0 : Int32), sI_ b2, sI_ b3, sJ_ (0 : Int64), sS_, sJ_ t2, sS_, sJ_ t3, sS_, .val fv1, sJ_ v2, sS_, .val fv2, sJ_ v3, sS_, .val fv3, sU_, sU_, sU_, sU_, sU_, sU_, sU_, sU_, sU_, sU_, sU_, sU_, sU_] [(.int (0 : Int32)), (.long (0 : Int64)), (.long e1), fv1, (.ref b_1), (.ref b_1)]))) (fun t kt => ?_) ?_
    · skip
      refine XS.dup X_1.here hx rfl (hb hby at_314) rfl rfl ?_
      refine XS.aload X_1.here hx rfl (hb hby at_315) rfl L1.isRef ?_
      refine XS.lloadN X_1.here hx rfl (hb hby at_317) rfl ?_
      refine XS.lload X_1.here hx rfl (hb hby at_318) rfl ?_
      refine XS.iload X_1.here hx rfl (hb hby at_320) rfl ?_
      exact kt
    obtain ⟨v_11, T_11, L_11, X_11, q_11, st_11⟩ := callInit X_1 hx hZ (y := (⟨"com/example/dead_letter_replay/deadletterreplay/queue/Carries$Carried", "<init>", "(Ljava/lang/Long;JJI)V"⟩ : MethodName)) (W := 1) rfl hown (wdOf hw 56 rfl) (wdOf hw 57 rfl) (wdOf hw 55 rfl) (wdOf hw 58 rfl) (by decide) (rm_cd l Z a0 hw [] b_1 fv1 L1.isRef e1 (0 : Int64) (0 : Int32) h_1 n0 y_10 o_1 A_1 f_6 f_7 f_8 f_9) (by decide) (by decide) (by decide) (by decide) e_1 (b := b_1) (g := (mkF m 322 #[sI_ fl, sJ_ e1, sS_, sJ_ e2, sS_, sJ_ e3, sS_, sJ_ f2, sS_, sJ_ f3, sS_, sI_ p1, sI_ hf1, sI_ p2, sI_ s2b, sI_ s2t, sI_ hf2, sI_ x2, sI_ p3, sI_ s3b, sI_ s3t, sI_ hf3, sI_ x3, sI_ (0 : Int32), sI_ b2, sI_ b3, sJ_ (0 : Int64), sS_, sJ_ t2, sS_, sJ_ t3, sS_, .val fv1, sJ_ v2, sS_, .val fv2, sJ_ v3, sS_, .val fv3, sU_, sU_, sU_, sU_, sU_, sU_, sU_, sU_, sU_, sU_, sU_, sU_, sU_] [(.int (0 : Int32)), (.long (0 : Int64)), (.long e1), fv1, (.ref b_1), (.ref b_1)])) rfl (by rw [hml]; rfl) (argsL := [fv1, (.long e1), (.long (0 : Int64)), (.int (0 : Int32))]) (rest := [(.ref b_1)]) (lenOf pd_11 rfl) rfl rfl (Nat.le_refl _) (hb hby at_322)
    obtain ⟨rfl, n_11, K_11, GE__11, Gfrom__11, Gera__11, Gtransaction__11, Gbackend__11⟩ := q_11
    have N_11 := Fr.app N n_11
    have f_12 : Old Z n0 T_11.heap := f_2.keep K_11 (allS o_1 all0)
    have f_13 : Exa Z T_11.heap b_1 "com/example/dead_letter_replay/deadletterreplay/queue/Carries$Carried" := A_1.keep K_11
    have K_18 : Keep h0 T_11.heap [] := K_10.trans K_11 (allS (P := fun x => x ∈ [] ∨ h0.size ≤ x) (Or.inr z_1) all0)
    have y_18 : n0 ≤ T_11.heap.size := Nat.le_trans Z0 K_18.1
    refine Goes.go (U' := (T_11.setTop (mkF m 325 #[sI_ fl, sJ_ e1, sS_, sJ_ e2, sS_, sJ_ e3, sS_, sJ_ f2, sS_, sJ_ f3, sS_, sI_ p1, sI_ hf1, sI_ p2, sI_ s2b, sI_ s2t, sI_ hf2, sI_ x2, sI_ p3, sI_ s3b, sI_ s3t, sI_ hf3, sI_ x3, sI_ (0 : Int32), sI_ b2, sI_ b3, sJ_ (0 : Int64), sS_, sJ_ t2, sS_, sJ_ t3, sS_, .val fv1, sJ_ v2, sS_, .val fv2, sJ_ v3, sS_, .val fv3, sU_, sU_, sU_, sU_, sU_, sU_, sU_, sU_, sU_, sU_, sU_, sU_, sU_] [(.ref b_1)]))) st_11 ?_
    have KK_11 : Ext h T_11.heap := Ext.of_keep (((Keep.refl h []).ext E_1).trans K_11 (allS (P := fun x => x ∈ [] ∨ h.size ≤ x) (Or.inr (Nat.le_of_eq g_1.symm)) all0))
    have f_19 : LongV Z T_11.heap fv1 o1 := L1.ext KK_11
    have f_20 : LongV Z T_11.heap fv2 o2 := L2.ext KK_11
    have f_21 : LongV Z T_11.heap fv3 o3 := L3.ext KK_11
    refine Goes.go (U' := (T_11.setTop (mkF m 331 #[sI_ fl, sJ_ e1, sS_, sJ_ e2, sS_, sJ_ e3, sS_, sJ_ f2, sS_, sJ_ f3, sS_, sI_ p1, sI_ hf1, sI_ p2, sI_ s2b, sI_ s2t, sI_ hf2, sI_ x2, sI_ p3, sI_ s3b, sI_ s3t, sI_ hf3, sI_ x3, sI_ (0 : Int32), sI_ b2, sI_ b3, sJ_ (0 : Int64), sS_, sJ_ t2, sS_, sJ_ t3, sS_, .val fv1, sJ_ v2, sS_, .val fv2, sJ_ v3, sS_, .val fv3, sR_ b_1, sU_, sU_, sU_, sU_, sU_, sU_, sU_, sU_, sU_, sU_, sU_, sU_] []))) (fun t kt => ?_) ?_
    · skip
      refine XS.goto X_11.here hx rfl (pc0 := 325) (pc' := 329) rfl (hb hby at_325) (by decide) (by decide) ?_
      refine XS.astore X_11.here hx rfl (hb hby at_329) rfl rfl (l' := #[sI_ fl, sJ_ e1, sS_, sJ_ e2, sS_, sJ_ e3, sS_, sJ_ f2, sS_, sJ_ f3, sS_, sI_ p1, sI_ hf1, sI_ p2, sI_ s2b, sI_ s2t, sI_ hf2, sI_ x2, sI_ p3, sI_ s3b, sI_ s3t, sI_ hf3, sI_ x3, sI_ (0 : Int32), sI_ b2, sI_ b3, sJ_ (0 : Int64), sS_, sJ_ t2, sS_, sJ_ t3, sS_, .val fv1, sJ_ v2, sS_, .val fv2, sJ_ v3, sS_, .val fv3, sR_ b_1, sU_, sU_, sU_, sU_, sU_, sU_, sU_, sU_, sU_, sU_, sU_, sU_]) rfl ?_
      exact kt
    exact law_331 l Z a0 hw fl e1 e2 e3 f2 f3 p1 hf1 p2 s2b s2t hf2 x2 p3 s3b s3t hf3 x3 b2 b3 t2 t3 fv1 o1 v2 fv2 o2 v3 fv3 o3 (.ref b_1) (some (o1, e1, (0 : Int64), (0 : Int32))) h0 n0 Z0 p e s m below meth c hx hby hml hown hnm hret hlk hZ _ _ _ X_11 (rfl : T_11.heap = T_11.heap) N_11 K_18 f_12 BC hb2 hb3 ht2 ht3 f_19 f_20 ho2 f_21 ho3 ⟨_, _, rfl, f_13, Gfrom__11, Gera__11, Gtransaction__11, Gbackend__11, f_19⟩ ⟨fun q => absurd q cc, fun _ => rfl⟩
set_option maxRecDepth 65536 in
set_option maxHeartbeats 40000000 in
theorem law_290 (l : Launch) (Z : State) (a0 : Array Value) (hw : ∀ d ∈ tables_1, d.before a0 Z = true) (fl : Int32) (e1 e2 e3 f2 f3 : Int64) (p1 : Int32) (hf1 : Int32) (p2 : Int32) (s2b : Int32) (s2t : Int32) (hf2 : Int32) (x2 : Int32) (p3 : Int32) (s3b : Int32) (s3t : Int32) (hf3 : Int32) (x3 : Int32) (b2 : Int32) (b3 : Int32) (t2 : Int64) (t3 : Int64) (fv1 : Value) (o1 : Option Int64) (v2 : Int64) (fv2 : Value) (o2 : Option Int64) (v3 : Int64) (h0 : Heap) (n0 : Nat) (Z0 : n0 ≤ h0.size) (p : Program) (e : Env) (s : State) (m : MethodId) (below : List Frame) (meth : Method) (c : Code) (hx : p.tables.exec = Jvm.exec) (hby : c.code = code) (hml : c.maxLocals = maxLocals) (hown : s.vm.findClass "com/example/dead_letter_replay/deadletterreplay/queue/CarriesFloorPinLaw" = some m.cls) (hnm : meth.name = "law") (hret : meth.sig.returnType = ret) (hlk : meth.locks = false) (hZ : Z.Warmed39 s.vm) (h : Heap) (T : State) (locs : List Loc) (X : Stand p l e room_1 s m #[(.int fl), (.long e1), (.long e2), (.long e3), (.long f2), (.long f3)] below meth c T locs 2 2) (eT : T.heap = h) (N : Fr n0 locs) (K0 : Keep h0 h []) (O : Old Z n0 h) (BC : BoxC Z "java/lang/Long$LongCache" "[Ljava/lang/Long;" "java/lang/Long" "J" (fun i => .long (i.toInt32 - 128).toInt64)) (hb2 : b2 = (0 : Int32) ↔ ¬ s2b = 0) (hb3 : b3 = b2 ↔ ¬ s3b = 0) (ht2 : t2 = (0 : Int64) ↔ ¬ s2t = 0) (ht3 : t3 = t2 ↔ ¬ s3t = 0) (L1 : LongV Z h fv1 o1) (L2 : LongV Z h fv2 o2) (ho2 : (hf2 = 0 → o2 = none) ∧ (¬ hf2 = 0 → o2 = some v2)) :
    Goes p e s below (fun v h L => v = some (.int 1) ∧ Fr n0 L) room_1.cells room_1.slots (T.setTop (mkF m 290 #[sI_ fl, sJ_ e1, sS_, sJ_ e2, sS_, sJ_ e3, sS_, sJ_ f2, sS_, sJ_ f3, sS_, sI_ p1, sI_ hf1, sI_ p2, sI_ s2b, sI_ s2t, sI_ hf2, sI_ x2, sI_ p3, sI_ s3b, sI_ s3t, sI_ hf3, sI_ x3, sI_ (0 : Int32), sI_ b2, sI_ b3, sJ_ (0 : Int64), sS_, sJ_ t2, sS_, sJ_ t3, sS_, .val fv1, sJ_ v2, sS_, .val fv2, sJ_ v3, sS_, sU_, sU_, sU_, sU_, sU_, sU_, sU_, sU_, sU_, sU_, sU_, sU_, sU_, sU_] [])) := by
  have sz0 : n0 ≤ h.size := Nat.le_trans Z0 K0.1
  refine Goes.go (U' := (T.setTop (mkF m 292 #[sI_ fl, sJ_ e1, sS_, sJ_ e2, sS_, sJ_ e3, sS_, sJ_ f2, sS_, sJ_ f3, sS_, sI_ p1, sI_ hf1, sI_ p2, sI_ s2b, sI_ s2t, sI_ hf2, sI_ x2, sI_ p3, sI_ s3b, sI_ s3t, sI_ hf3, sI_ x3, sI_ (0 : Int32), sI_ b2, sI_ b3, sJ_ (0 : Int64), sS_, sJ_ t2, sS_, sJ_ t3, sS_, .val fv1, sJ_ v2, sS_, .val fv2, sJ_ v3, sS_, sU_, sU_, sU_, sU_, sU_, sU_, sU_, sU_, sU_, sU_, sU_, sU_, sU_, sU_] [(.int hf3)]))) (fun t kt => ?_) ?_
  · skip
    refine XS.iload X.here hx rfl (hb hby at_290) rfl ?_
    exact kt
  by_cases cc : hf3 = 0
  · -- hf3 = 0
    refine Goes.go (U' := (T.setTop (mkF m 306 #[sI_ fl, sJ_ e1, sS_, sJ_ e2, sS_, sJ_ e3, sS_, sJ_ f2, sS_, sJ_ f3, sS_, sI_ p1, sI_ hf1, sI_ p2, sI_ s2b, sI_ s2t, sI_ hf2, sI_ x2, sI_ p3, sI_ s3b, sI_ s3t, sI_ hf3, sI_ x3, sI_ (0 : Int32), sI_ b2, sI_ b3, sJ_ (0 : Int64), sS_, sJ_ t2, sS_, sJ_ t3, sS_, .val fv1, sJ_ v2, sS_, .val fv2, sJ_ v3, sS_, .val .null, sU_, sU_, sU_, sU_, sU_, sU_, sU_, sU_, sU_, sU_, sU_, sU_, sU_] []))) (fun t kt => ?_) ?_
    · skip
      refine XS.ifYes X.here hx rfl (pc0 := 292) (pc' := 303) rfl (hb hby at_292) rfl (XT.i0_eq_t cc) (by decide) (by decide) ?_
      refine XS.aconstNull X.here hx rfl (hb hby at_303) ?_
      refine XS.astore X.here hx rfl (hb hby at_304) rfl rfl (l' := #[sI_ fl, sJ_ e1, sS_, sJ_ e2, sS_, sJ_ e3, sS_, sJ_ f2, sS_, sJ_ f3, sS_, sI_ p1, sI_ hf1, sI_ p2, sI_ s2b, sI_ s2t, sI_ hf2, sI_ x2, sI_ p3, sI_ s3b, sI_ s3t, sI_ hf3, sI_ x3, sI_ (0 : Int32), sI_ b2, sI_ b3, sJ_ (0 : Int64), sS_, sJ_ t2, sS_, sJ_ t3, sS_, .val fv1, sJ_ v2, sS_, .val fv2, sJ_ v3, sS_, .val .null, sU_, sU_, sU_, sU_, sU_, sU_, sU_, sU_, sU_, sU_, sU_, sU_, sU_]) rfl ?_
      exact kt
    exact law_306 l Z a0 hw fl e1 e2 e3 f2 f3 p1 hf1 p2 s2b s2t hf2 x2 p3 s3b s3t hf3 x3 b2 b3 t2 t3 fv1 o1 v2 fv2 o2 v3 Value.null none h0 n0 Z0 p e s m below meth c hx hby hml hown hnm hret hlk hZ _ _ _ (moreRoom (cells' := 3) (slots' := 3) X (by decide) (by decide)) eT N K0 O BC hb2 hb3 ht2 ht3 L1 L2 ho2 rfl ⟨fun _ => rfl, fun q => absurd cc q⟩
  · -- not hf3 = 0
    refine Goes.go (U' := (T.setTop (mkF m 297 #[sI_ fl, sJ_ e1, sS_, sJ_ e2, sS_, sJ_ e3, sS_, sJ_ f2, sS_, sJ_ f3, sS_, sI_ p1, sI_ hf1, sI_ p2, sI_ s2b, sI_ s2t, sI_ hf2, sI_ x2, sI_ p3, sI_ s3b, sI_ s3t, sI_ hf3, sI_ x3, sI_ (0 : Int32), sI_ b2, sI_ b3, sJ_ (0 : Int64), sS_, sJ_ t2, sS_, sJ_ t3, sS_, .val fv1, sJ_ v2, sS_, .val fv2, sJ_ v3, sS_, sU_, sU_, sU_, sU_, sU_, sU_, sU_, sU_, sU_, sU_, sU_, sU_, sU_, sU_] [(.long v3)]))) (fun t kt => ?_) ?_
    · skip
      refine XS.ifNo X.here hx rfl (hb hby at_292) rfl (XT.i0_eq_f cc) ?_
      refine XS.lload X.here hx rfl (hb hby at_295) rfl ?_
      exact kt
    obtain ⟨v_1, T_1, L_1, X_1, q_1, st_1⟩ := callStatic X hx hZ (y := (⟨"java/lang/Long", "valueOf", "(J)Ljava/lang/Long;"⟩ : MethodName)) (W := 0) hown (wdOf hw 33 rfl) (wdOf hw 34 rfl) (wdOf hw 35 rfl) (wdOf hw 36 rfl) (by decide) (rm_vo l Z a0 hw [] v3 h n0 sz0 O BC) (by decide) (by decide) (by decide) (by decide) eT (g := (mkF m 297 #[sI_ fl, sJ_ e1, sS_, sJ_ e2, sS_, sJ_ e3, sS_, sJ_ f2, sS_, sJ_ f3, sS_, sI_ p1, sI_ hf1, sI_ p2, sI_ s2b, sI_ s2t, sI_ hf2, sI_ x2, sI_ p3, sI_ s3b, sI_ s3t, sI_ hf3, sI_ x3, sI_ (0 : Int32), sI_ b2, sI_ b3, sJ_ (0 : Int64), sS_, sJ_ t2, sS_, sJ_ t3, sS_, .val fv1, sJ_ v2, sS_, .val fv2, sJ_ v3, sS_, sU_, sU_, sU_, sU_, sU_, sU_, sU_, sU_, sU_, sU_, sU_, sU_, sU_, sU_] [(.long v3)])) rfl (by rw [hml]; rfl) (argsL := [(.long v3)]) (rest := []) (lenOf pd_4 rfl) rfl rfl (Nat.le_refl _) (hb hby at_297)
    obtain ⟨r_1, rfl, n_1, K_1, Ev_1, Fv_1⟩ := q_1
    have N_1 := Fr.app N n_1
    have f_2 : Old Z n0 T_1.heap := O.ext K_1
    have f_3 : LongV Z T_1.heap fv1 o1 := L1.ext K_1
    have f_4 : LongV Z T_1.heap fv2 o2 := L2.ext K_1
    have K_5 : Keep h0 T_1.heap [] := K0.ext K_1
    have y_5 : n0 ≤ T_1.heap.size := Nat.le_trans Z0 K_5.1
    refine Goes.go (U' := (T_1.setTop (mkF m 300 #[sI_ fl, sJ_ e1, sS_, sJ_ e2, sS_, sJ_ e3, sS_, sJ_ f2, sS_, sJ_ f3, sS_, sI_ p1, sI_ hf1, sI_ p2, sI_ s2b, sI_ s2t, sI_ hf2, sI_ x2, sI_ p3, sI_ s3b, sI_ s3t, sI_ hf3, sI_ x3, sI_ (0 : Int32), sI_ b2, sI_ b3, sJ_ (0 : Int64), sS_, sJ_ t2, sS_, sJ_ t3, sS_, .val fv1, sJ_ v2, sS_, .val fv2, sJ_ v3, sS_, sU_, sU_, sU_, sU_, sU_, sU_, sU_, sU_, sU_, sU_, sU_, sU_, sU_, sU_] [(.ref r_1)]))) st_1 ?_
    refine Goes.go (U' := (T_1.setTop (mkF m 306 #[sI_ fl, sJ_ e1, sS_, sJ_ e2, sS_, sJ_ e3, sS_, sJ_ f2, sS_, sJ_ f3, sS_, sI_ p1, sI_ hf1, sI_ p2, sI_ s2b, sI_ s2t, sI_ hf2, sI_ x2, sI_ p3, sI_ s3b, sI_ s3t, sI_ hf3, sI_ x3, sI_ (0 : Int32), sI_ b2, sI_ b3, sJ_ (0 : Int64), sS_, sJ_ t2, sS_, sJ_ t3, sS_, .val fv1, sJ_ v2, sS_, .val fv2, sJ_ v3, sS_, sR_ r_1, sU_, sU_, sU_, sU_, sU_, sU_, sU_, sU_, sU_, sU_, sU_, sU_, sU_] []))) (fun t kt => ?_) ?_
    · skip
      refine XS.goto X_1.here hx rfl (pc0 := 300) (pc' := 304) rfl (hb hby at_300) (by decide) (by decide) ?_
      refine XS.astore X_1.here hx rfl (hb hby at_304) rfl rfl (l' := #[sI_ fl, sJ_ e1, sS_, sJ_ e2, sS_, sJ_ e3, sS_, sJ_ f2, sS_, sJ_ f3, sS_, sI_ p1, sI_ hf1, sI_ p2, sI_ s2b, sI_ s2t, sI_ hf2, sI_ x2, sI_ p3, sI_ s3b, sI_ s3t, sI_ hf3, sI_ x3, sI_ (0 : Int32), sI_ b2, sI_ b3, sJ_ (0 : Int64), sS_, sJ_ t2, sS_, sJ_ t3, sS_, .val fv1, sJ_ v2, sS_, .val fv2, sJ_ v3, sS_, sR_ r_1, sU_, sU_, sU_, sU_, sU_, sU_, sU_, sU_, sU_, sU_, sU_, sU_, sU_]) rfl ?_
      exact kt
    exact law_306 l Z a0 hw fl e1 e2 e3 f2 f3 p1 hf1 p2 s2b s2t hf2 x2 p3 s3b s3t hf3 x3 b2 b3 t2 t3 fv1 o1 v2 fv2 o2 v3 (.ref r_1) (some v3) h0 n0 Z0 p e s m below meth c hx hby hml hown hnm hret hlk hZ _ _ _ X_1 (rfl : T_1.heap = T_1.heap) N_1 K_5 f_2 BC hb2 hb3 ht2 ht3 f_3 f_4 ho2 ⟨_, rfl, Ev_1, Fv_1⟩ ⟨fun q => absurd q cc, fun _ => rfl⟩
set_option maxRecDepth 65536 in
set_option maxHeartbeats 40000000 in
theorem law_277 (l : Launch) (Z : State) (a0 : Array Value) (hw : ∀ d ∈ tables_1, d.before a0 Z = true) (fl : Int32) (e1 e2 e3 f2 f3 : Int64) (p1 : Int32) (hf1 : Int32) (p2 : Int32) (s2b : Int32) (s2t : Int32) (hf2 : Int32) (x2 : Int32) (p3 : Int32) (s3b : Int32) (s3t : Int32) (hf3 : Int32) (x3 : Int32) (b2 : Int32) (b3 : Int32) (t2 : Int64) (t3 : Int64) (fv1 : Value) (o1 : Option Int64) (v2 : Int64) (fv2 : Value) (o2 : Option Int64) (h0 : Heap) (n0 : Nat) (Z0 : n0 ≤ h0.size) (p : Program) (e : Env) (s : State) (m : MethodId) (below : List Frame) (meth : Method) (c : Code) (hx : p.tables.exec = Jvm.exec) (hby : c.code = code) (hml : c.maxLocals = maxLocals) (hown : s.vm.findClass "com/example/dead_letter_replay/deadletterreplay/queue/CarriesFloorPinLaw" = some m.cls) (hnm : meth.name = "law") (hret : meth.sig.returnType = ret) (hlk : meth.locks = false) (hZ : Z.Warmed39 s.vm) (h : Heap) (T : State) (locs : List Loc) (X : Stand p l e room_1 s m #[(.int fl), (.long e1), (.long e2), (.long e3), (.long f2), (.long f3)] below meth c T locs 2 2) (eT : T.heap = h) (N : Fr n0 locs) (K0 : Keep h0 h []) (O : Old Z n0 h) (BC : BoxC Z "java/lang/Long$LongCache" "[Ljava/lang/Long;" "java/lang/Long" "J" (fun i => .long (i.toInt32 - 128).toInt64)) (hb2 : b2 = (0 : Int32) ↔ ¬ s2b = 0) (hb3 : b3 = b2 ↔ ¬ s3b = 0) (ht2 : t2 = (0 : Int64) ↔ ¬ s2t = 0) (ht3 : t3 = t2 ↔ ¬ s3t = 0) (L1 : LongV Z h fv1 o1) (L2 : LongV Z h fv2 o2) (ho2 : (hf2 = 0 → o2 = none) ∧ (¬ hf2 = 0 → o2 = some v2)) :
    Goes p e s below (fun v h L => v = some (.int 1) ∧ Fr n0 L) room_1.cells room_1.slots (T.setTop (mkF m 277 #[sI_ fl, sJ_ e1, sS_, sJ_ e2, sS_, sJ_ e3, sS_, sJ_ f2, sS_, sJ_ f3, sS_, sI_ p1, sI_ hf1, sI_ p2, sI_ s2b, sI_ s2t, sI_ hf2, sI_ x2, sI_ p3, sI_ s3b, sI_ s3t, sI_ hf3, sI_ x3, sI_ (0 : Int32), sI_ b2, sI_ b3, sJ_ (0 : Int64), sS_, sJ_ t2, sS_, sJ_ t3, sS_, .val fv1, sJ_ v2, sS_, .val fv2, sU_, sU_, sU_, sU_, sU_, sU_, sU_, sU_, sU_, sU_, sU_, sU_, sU_, sU_, sU_, sU_] [])) := by
  have sz0 : n0 ≤ h.size := Nat.le_trans Z0 K0.1
  refine Goes.go (U' := (T.setTop (mkF m 279 #[sI_ fl, sJ_ e1, sS_, sJ_ e2, sS_, sJ_ e3, sS_, sJ_ f2, sS_, sJ_ f3, sS_, sI_ p1, sI_ hf1, sI_ p2, sI_ s2b, sI_ s2t, sI_ hf2, sI_ x2, sI_ p3, sI_ s3b, sI_ s3t, sI_ hf3, sI_ x3, sI_ (0 : Int32), sI_ b2, sI_ b3, sJ_ (0 : Int64), sS_, sJ_ t2, sS_, sJ_ t3, sS_, .val fv1, sJ_ v2, sS_, .val fv2, sU_, sU_, sU_, sU_, sU_, sU_, sU_, sU_, sU_, sU_, sU_, sU_, sU_, sU_, sU_, sU_] [(.int x3)]))) (fun t kt => ?_) ?_
  · skip
    refine XS.iload X.here hx rfl (hb hby at_277) rfl ?_
    exact kt
  by_cases cc : x3 = 0
  · -- x3 = 0
    refine Goes.go (U' := (T.setTop (mkF m 290 #[sI_ fl, sJ_ e1, sS_, sJ_ e2, sS_, sJ_ e3, sS_, sJ_ f2, sS_, sJ_ f3, sS_, sI_ p1, sI_ hf1, sI_ p2, sI_ s2b, sI_ s2t, sI_ hf2, sI_ x2, sI_ p3, sI_ s3b, sI_ s3t, sI_ hf3, sI_ x3, sI_ (0 : Int32), sI_ b2, sI_ b3, sJ_ (0 : Int64), sS_, sJ_ t2, sS_, sJ_ t3, sS_, .val fv1, sJ_ v2, sS_, .val fv2, sJ_ f3, sS_, sU_, sU_, sU_, sU_, sU_, sU_, sU_, sU_, sU_, sU_, sU_, sU_, sU_, sU_] []))) (fun t kt => ?_) ?_
    · skip
      refine XS.ifYes X.here hx rfl (pc0 := 279) (pc' := 286) rfl (hb hby at_279) rfl (XT.i0_eq_t cc) (by decide) (by decide) ?_
      refine XS.lload X.here hx rfl (hb hby at_286) rfl ?_
      refine XS.lstore X.here hx rfl (hb hby at_288) rfl (l' := #[sI_ fl, sJ_ e1, sS_, sJ_ e2, sS_, sJ_ e3, sS_, sJ_ f2, sS_, sJ_ f3, sS_, sI_ p1, sI_ hf1, sI_ p2, sI_ s2b, sI_ s2t, sI_ hf2, sI_ x2, sI_ p3, sI_ s3b, sI_ s3t, sI_ hf3, sI_ x3, sI_ (0 : Int32), sI_ b2, sI_ b3, sJ_ (0 : Int64), sS_, sJ_ t2, sS_, sJ_ t3, sS_, .val fv1, sJ_ v2, sS_, .val fv2, sJ_ f3, sS_, sU_, sU_, sU_, sU_, sU_, sU_, sU_, sU_, sU_, sU_, sU_, sU_, sU_, sU_]) rfl ?_
      exact kt
    exact law_290 l Z a0 hw fl e1 e2 e3 f2 f3 p1 hf1 p2 s2b s2t hf2 x2 p3 s3b s3t hf3 x3 b2 b3 t2 t3 fv1 o1 v2 fv2 o2 f3 h0 n0 Z0 p e s m below meth c hx hby hml hown hnm hret hlk hZ _ _ _ X eT N K0 O BC hb2 hb3 ht2 ht3 L1 L2 ho2
  · -- not x3 = 0
    refine Goes.go (U' := (T.setTop (mkF m 290 #[sI_ fl, sJ_ e1, sS_, sJ_ e2, sS_, sJ_ e3, sS_, sJ_ f2, sS_, sJ_ f3, sS_, sI_ p1, sI_ hf1, sI_ p2, sI_ s2b, sI_ s2t, sI_ hf2, sI_ x2, sI_ p3, sI_ s3b, sI_ s3t, sI_ hf3, sI_ x3, sI_ (0 : Int32), sI_ b2, sI_ b3, sJ_ (0 : Int64), sS_, sJ_ t2, sS_, sJ_ t3, sS_, .val fv1, sJ_ v2, sS_, .val fv2, sJ_ e2, sS_, sU_, sU_, sU_, sU_, sU_, sU_, sU_, sU_, sU_, sU_, sU_, sU_, sU_, sU_] []))) (fun t kt => ?_) ?_
    · skip
      refine XS.ifNo X.here hx rfl (hb hby at_279) rfl (XT.i0_eq_f cc) ?_
      refine XS.lloadN X.here hx rfl (hb hby at_282) rfl ?_
      refine XS.goto X.here hx rfl (pc0 := 283) (pc' := 288) rfl (hb hby at_283) (by decide) (by decide) ?_
      refine XS.lstore X.here hx rfl (hb hby at_288) rfl (l' := #[sI_ fl, sJ_ e1, sS_, sJ_ e2, sS_, sJ_ e3, sS_, sJ_ f2, sS_, sJ_ f3, sS_, sI_ p1, sI_ hf1, sI_ p2, sI_ s2b, sI_ s2t, sI_ hf2, sI_ x2, sI_ p3, sI_ s3b, sI_ s3t, sI_ hf3, sI_ x3, sI_ (0 : Int32), sI_ b2, sI_ b3, sJ_ (0 : Int64), sS_, sJ_ t2, sS_, sJ_ t3, sS_, .val fv1, sJ_ v2, sS_, .val fv2, sJ_ e2, sS_, sU_, sU_, sU_, sU_, sU_, sU_, sU_, sU_, sU_, sU_, sU_, sU_, sU_, sU_]) rfl ?_
      exact kt
    exact law_290 l Z a0 hw fl e1 e2 e3 f2 f3 p1 hf1 p2 s2b s2t hf2 x2 p3 s3b s3t hf3 x3 b2 b3 t2 t3 fv1 o1 v2 fv2 o2 e2 h0 n0 Z0 p e s m below meth c hx hby hml hown hnm hret hlk hZ _ _ _ X eT N K0 O BC hb2 hb3 ht2 ht3 L1 L2 ho2
set_option maxRecDepth 65536 in
set_option maxHeartbeats 40000000 in
theorem law_261 (l : Launch) (Z : State) (a0 : Array Value) (hw : ∀ d ∈ tables_1, d.before a0 Z = true) (fl : Int32) (e1 e2 e3 f2 f3 : Int64) (p1 : Int32) (hf1 : Int32) (p2 : Int32) (s2b : Int32) (s2t : Int32) (hf2 : Int32) (x2 : Int32) (p3 : Int32) (s3b : Int32) (s3t : Int32) (hf3 : Int32) (x3 : Int32) (b2 : Int32) (b3 : Int32) (t2 : Int64) (t3 : Int64) (fv1 : Value) (o1 : Option Int64) (v2 : Int64) (h0 : Heap) (n0 : Nat) (Z0 : n0 ≤ h0.size) (p : Program) (e : Env) (s : State) (m : MethodId) (below : List Frame) (meth : Method) (c : Code) (hx : p.tables.exec = Jvm.exec) (hby : c.code = code) (hml : c.maxLocals = maxLocals) (hown : s.vm.findClass "com/example/dead_letter_replay/deadletterreplay/queue/CarriesFloorPinLaw" = some m.cls) (hnm : meth.name = "law") (hret : meth.sig.returnType = ret) (hlk : meth.locks = false) (hZ : Z.Warmed39 s.vm) (h : Heap) (T : State) (locs : List Loc) (X : Stand p l e room_1 s m #[(.int fl), (.long e1), (.long e2), (.long e3), (.long f2), (.long f3)] below meth c T locs 1 1) (eT : T.heap = h) (N : Fr n0 locs) (K0 : Keep h0 h []) (O : Old Z n0 h) (BC : BoxC Z "java/lang/Long$LongCache" "[Ljava/lang/Long;" "java/lang/Long" "J" (fun i => .long (i.toInt32 - 128).toInt64)) (hb2 : b2 = (0 : Int32) ↔ ¬ s2b = 0) (hb3 : b3 = b2 ↔ ¬ s3b = 0) (ht2 : t2 = (0 : Int64) ↔ ¬ s2t = 0) (ht3 : t3 = t2 ↔ ¬ s3t = 0) (L1 : LongV Z h fv1 o1) :
    Goes p e s below (fun v h L => v = some (.int 1) ∧ Fr n0 L) room_1.cells room_1.slots (T.setTop (mkF m 261 #[sI_ fl, sJ_ e1, sS_, sJ_ e2, sS_, sJ_ e3, sS_, sJ_ f2, sS_, sJ_ f3, sS_, sI_ p1, sI_ hf1, sI_ p2, sI_ s2b, sI_ s2t, sI_ hf2, sI_ x2, sI_ p3, sI_ s3b, sI_ s3t, sI_ hf3, sI_ x3, sI_ (0 : Int32), sI_ b2, sI_ b3, sJ_ (0 : Int64), sS_, sJ_ t2, sS_, sJ_ t3, sS_, .val fv1, sJ_ v2, sS_, sU_, sU_, sU_, sU_, sU_, sU_, sU_, sU_, sU_, sU_, sU_, sU_, sU_, sU_, sU_, sU_, sU_] [])) := by
  have sz0 : n0 ≤ h.size := Nat.le_trans Z0 K0.1
  refine Goes.go (U' := (T.setTop (mkF m 263 #[sI_ fl, sJ_ e1, sS_, sJ_ e2, sS_, sJ_ e3, sS_, sJ_ f2, sS_, sJ_ f3, sS_, sI_ p1, sI_ hf1, sI_ p2, sI_ s2b, sI_ s2t, sI_ hf2, sI_ x2, sI_ p3, sI_ s3b, sI_ s3t, sI_ hf3, sI_ x3, sI_ (0 : Int32), sI_ b2, sI_ b3, sJ_ (0 : Int64), sS_, sJ_ t2, sS_, sJ_ t3, sS_, .val fv1, sJ_ v2, sS_, sU_, sU_, sU_, sU_, sU_, sU_, sU_, sU_, sU_, sU_, sU_, sU_, sU_, sU_, sU_, sU_, sU_] [(.int hf2)]))) (fun t kt => ?_) ?_
  · skip
    refine XS.iload X.here hx rfl (hb hby at_261) rfl ?_
    exact kt
  by_cases cc : hf2 = 0
  · -- hf2 = 0
    refine Goes.go (U' := (T.setTop (mkF m 277 #[sI_ fl, sJ_ e1, sS_, sJ_ e2, sS_, sJ_ e3, sS_, sJ_ f2, sS_, sJ_ f3, sS_, sI_ p1, sI_ hf1, sI_ p2, sI_ s2b, sI_ s2t, sI_ hf2, sI_ x2, sI_ p3, sI_ s3b, sI_ s3t, sI_ hf3, sI_ x3, sI_ (0 : Int32), sI_ b2, sI_ b3, sJ_ (0 : Int64), sS_, sJ_ t2, sS_, sJ_ t3, sS_, .val fv1, sJ_ v2, sS_, .val .null, sU_, sU_, sU_, sU_, sU_, sU_, sU_, sU_, sU_, sU_, sU_, sU_, sU_, sU_, sU_, sU_] []))) (fun t kt => ?_) ?_
    · skip
      refine XS.ifYes X.here hx rfl (pc0 := 263) (pc' := 274) rfl (hb hby at_263) rfl (XT.i0_eq_t cc) (by decide) (by decide) ?_
      refine XS.aconstNull X.here hx rfl (hb hby at_274) ?_
      refine XS.astore X.here hx rfl (hb hby at_275) rfl rfl (l' := #[sI_ fl, sJ_ e1, sS_, sJ_ e2, sS_, sJ_ e3, sS_, sJ_ f2, sS_, sJ_ f3, sS_, sI_ p1, sI_ hf1, sI_ p2, sI_ s2b, sI_ s2t, sI_ hf2, sI_ x2, sI_ p3, sI_ s3b, sI_ s3t, sI_ hf3, sI_ x3, sI_ (0 : Int32), sI_ b2, sI_ b3, sJ_ (0 : Int64), sS_, sJ_ t2, sS_, sJ_ t3, sS_, .val fv1, sJ_ v2, sS_, .val .null, sU_, sU_, sU_, sU_, sU_, sU_, sU_, sU_, sU_, sU_, sU_, sU_, sU_, sU_, sU_, sU_]) rfl ?_
      exact kt
    exact law_277 l Z a0 hw fl e1 e2 e3 f2 f3 p1 hf1 p2 s2b s2t hf2 x2 p3 s3b s3t hf3 x3 b2 b3 t2 t3 fv1 o1 v2 Value.null none h0 n0 Z0 p e s m below meth c hx hby hml hown hnm hret hlk hZ _ _ _ (moreRoom (cells' := 2) (slots' := 2) X (by decide) (by decide)) eT N K0 O BC hb2 hb3 ht2 ht3 L1 rfl ⟨fun _ => rfl, fun q => absurd cc q⟩
  · -- not hf2 = 0
    refine Goes.go (U' := (T.setTop (mkF m 268 #[sI_ fl, sJ_ e1, sS_, sJ_ e2, sS_, sJ_ e3, sS_, sJ_ f2, sS_, sJ_ f3, sS_, sI_ p1, sI_ hf1, sI_ p2, sI_ s2b, sI_ s2t, sI_ hf2, sI_ x2, sI_ p3, sI_ s3b, sI_ s3t, sI_ hf3, sI_ x3, sI_ (0 : Int32), sI_ b2, sI_ b3, sJ_ (0 : Int64), sS_, sJ_ t2, sS_, sJ_ t3, sS_, .val fv1, sJ_ v2, sS_, sU_, sU_, sU_, sU_, sU_, sU_, sU_, sU_, sU_, sU_, sU_, sU_, sU_, sU_, sU_, sU_, sU_] [(.long v2)]))) (fun t kt => ?_) ?_
    · skip
      refine XS.ifNo X.here hx rfl (hb hby at_263) rfl (XT.i0_eq_f cc) ?_
      refine XS.lload X.here hx rfl (hb hby at_266) rfl ?_
      exact kt
    obtain ⟨v_1, T_1, L_1, X_1, q_1, st_1⟩ := callStatic X hx hZ (y := (⟨"java/lang/Long", "valueOf", "(J)Ljava/lang/Long;"⟩ : MethodName)) (W := 0) hown (wdOf hw 33 rfl) (wdOf hw 34 rfl) (wdOf hw 35 rfl) (wdOf hw 36 rfl) (by decide) (rm_vo l Z a0 hw [] v2 h n0 sz0 O BC) (by decide) (by decide) (by decide) (by decide) eT (g := (mkF m 268 #[sI_ fl, sJ_ e1, sS_, sJ_ e2, sS_, sJ_ e3, sS_, sJ_ f2, sS_, sJ_ f3, sS_, sI_ p1, sI_ hf1, sI_ p2, sI_ s2b, sI_ s2t, sI_ hf2, sI_ x2, sI_ p3, sI_ s3b, sI_ s3t, sI_ hf3, sI_ x3, sI_ (0 : Int32), sI_ b2, sI_ b3, sJ_ (0 : Int64), sS_, sJ_ t2, sS_, sJ_ t3, sS_, .val fv1, sJ_ v2, sS_, sU_, sU_, sU_, sU_, sU_, sU_, sU_, sU_, sU_, sU_, sU_, sU_, sU_, sU_, sU_, sU_, sU_] [(.long v2)])) rfl (by rw [hml]; rfl) (argsL := [(.long v2)]) (rest := []) (lenOf pd_4 rfl) rfl rfl (Nat.le_refl _) (hb hby at_268)
    obtain ⟨r_1, rfl, n_1, K_1, Ev_1, Fv_1⟩ := q_1
    have N_1 := Fr.app N n_1
    have f_2 : Old Z n0 T_1.heap := O.ext K_1
    have f_3 : LongV Z T_1.heap fv1 o1 := L1.ext K_1
    have K_4 : Keep h0 T_1.heap [] := K0.ext K_1
    have y_4 : n0 ≤ T_1.heap.size := Nat.le_trans Z0 K_4.1
    refine Goes.go (U' := (T_1.setTop (mkF m 271 #[sI_ fl, sJ_ e1, sS_, sJ_ e2, sS_, sJ_ e3, sS_, sJ_ f2, sS_, sJ_ f3, sS_, sI_ p1, sI_ hf1, sI_ p2, sI_ s2b, sI_ s2t, sI_ hf2, sI_ x2, sI_ p3, sI_ s3b, sI_ s3t, sI_ hf3, sI_ x3, sI_ (0 : Int32), sI_ b2, sI_ b3, sJ_ (0 : Int64), sS_, sJ_ t2, sS_, sJ_ t3, sS_, .val fv1, sJ_ v2, sS_, sU_, sU_, sU_, sU_, sU_, sU_, sU_, sU_, sU_, sU_, sU_, sU_, sU_, sU_, sU_, sU_, sU_] [(.ref r_1)]))) st_1 ?_
    refine Goes.go (U' := (T_1.setTop (mkF m 277 #[sI_ fl, sJ_ e1, sS_, sJ_ e2, sS_, sJ_ e3, sS_, sJ_ f2, sS_, sJ_ f3, sS_, sI_ p1, sI_ hf1, sI_ p2, sI_ s2b, sI_ s2t, sI_ hf2, sI_ x2, sI_ p3, sI_ s3b, sI_ s3t, sI_ hf3, sI_ x3, sI_ (0 : Int32), sI_ b2, sI_ b3, sJ_ (0 : Int64), sS_, sJ_ t2, sS_, sJ_ t3, sS_, .val fv1, sJ_ v2, sS_, sR_ r_1, sU_, sU_, sU_, sU_, sU_, sU_, sU_, sU_, sU_, sU_, sU_, sU_, sU_, sU_, sU_, sU_] []))) (fun t kt => ?_) ?_
    · skip
      refine XS.goto X_1.here hx rfl (pc0 := 271) (pc' := 275) rfl (hb hby at_271) (by decide) (by decide) ?_
      refine XS.astore X_1.here hx rfl (hb hby at_275) rfl rfl (l' := #[sI_ fl, sJ_ e1, sS_, sJ_ e2, sS_, sJ_ e3, sS_, sJ_ f2, sS_, sJ_ f3, sS_, sI_ p1, sI_ hf1, sI_ p2, sI_ s2b, sI_ s2t, sI_ hf2, sI_ x2, sI_ p3, sI_ s3b, sI_ s3t, sI_ hf3, sI_ x3, sI_ (0 : Int32), sI_ b2, sI_ b3, sJ_ (0 : Int64), sS_, sJ_ t2, sS_, sJ_ t3, sS_, .val fv1, sJ_ v2, sS_, sR_ r_1, sU_, sU_, sU_, sU_, sU_, sU_, sU_, sU_, sU_, sU_, sU_, sU_, sU_, sU_, sU_, sU_]) rfl ?_
      exact kt
    exact law_277 l Z a0 hw fl e1 e2 e3 f2 f3 p1 hf1 p2 s2b s2t hf2 x2 p3 s3b s3t hf3 x3 b2 b3 t2 t3 fv1 o1 v2 (.ref r_1) (some v2) h0 n0 Z0 p e s m below meth c hx hby hml hown hnm hret hlk hZ _ _ _ X_1 (rfl : T_1.heap = T_1.heap) N_1 K_4 f_2 BC hb2 hb3 ht2 ht3 f_3 ⟨_, rfl, Ev_1, Fv_1⟩ ⟨fun q => absurd q cc, fun _ => rfl⟩
set_option maxRecDepth 65536 in
set_option maxHeartbeats 40000000 in
theorem law_248 (l : Launch) (Z : State) (a0 : Array Value) (hw : ∀ d ∈ tables_1, d.before a0 Z = true) (fl : Int32) (e1 e2 e3 f2 f3 : Int64) (p1 : Int32) (hf1 : Int32) (p2 : Int32) (s2b : Int32) (s2t : Int32) (hf2 : Int32) (x2 : Int32) (p3 : Int32) (s3b : Int32) (s3t : Int32) (hf3 : Int32) (x3 : Int32) (b2 : Int32) (b3 : Int32) (t2 : Int64) (t3 : Int64) (fv1 : Value) (o1 : Option Int64) (h0 : Heap) (n0 : Nat) (Z0 : n0 ≤ h0.size) (p : Program) (e : Env) (s : State) (m : MethodId) (below : List Frame) (meth : Method) (c : Code) (hx : p.tables.exec = Jvm.exec) (hby : c.code = code) (hml : c.maxLocals = maxLocals) (hown : s.vm.findClass "com/example/dead_letter_replay/deadletterreplay/queue/CarriesFloorPinLaw" = some m.cls) (hnm : meth.name = "law") (hret : meth.sig.returnType = ret) (hlk : meth.locks = false) (hZ : Z.Warmed39 s.vm) (h : Heap) (T : State) (locs : List Loc) (X : Stand p l e room_1 s m #[(.int fl), (.long e1), (.long e2), (.long e3), (.long f2), (.long f3)] below meth c T locs 1 1) (eT : T.heap = h) (N : Fr n0 locs) (K0 : Keep h0 h []) (O : Old Z n0 h) (BC : BoxC Z "java/lang/Long$LongCache" "[Ljava/lang/Long;" "java/lang/Long" "J" (fun i => .long (i.toInt32 - 128).toInt64)) (hb2 : b2 = (0 : Int32) ↔ ¬ s2b = 0) (hb3 : b3 = b2 ↔ ¬ s3b = 0) (ht2 : t2 = (0 : Int64) ↔ ¬ s2t = 0) (ht3 : t3 = t2 ↔ ¬ s3t = 0) (L1 : LongV Z h fv1 o1) :
    Goes p e s below (fun v h L => v = some (.int 1) ∧ Fr n0 L) room_1.cells room_1.slots (T.setTop (mkF m 248 #[sI_ fl, sJ_ e1, sS_, sJ_ e2, sS_, sJ_ e3, sS_, sJ_ f2, sS_, sJ_ f3, sS_, sI_ p1, sI_ hf1, sI_ p2, sI_ s2b, sI_ s2t, sI_ hf2, sI_ x2, sI_ p3, sI_ s3b, sI_ s3t, sI_ hf3, sI_ x3, sI_ (0 : Int32), sI_ b2, sI_ b3, sJ_ (0 : Int64), sS_, sJ_ t2, sS_, sJ_ t3, sS_, .val fv1, sU_, sU_, sU_, sU_, sU_, sU_, sU_, sU_, sU_, sU_, sU_, sU_, sU_, sU_, sU_, sU_, sU_, sU_, sU_] [])) := by
  have sz0 : n0 ≤ h.size := Nat.le_trans Z0 K0.1
  refine Goes.go (U' := (T.setTop (mkF m 250 #[sI_ fl, sJ_ e1, sS_, sJ_ e2, sS_, sJ_ e3, sS_, sJ_ f2, sS_, sJ_ f3, sS_, sI_ p1, sI_ hf1, sI_ p2, sI_ s2b, sI_ s2t, sI_ hf2, sI_ x2, sI_ p3, sI_ s3b, sI_ s3t, sI_ hf3, sI_ x3, sI_ (0 : Int32), sI_ b2, sI_ b3, sJ_ (0 : Int64), sS_, sJ_ t2, sS_, sJ_ t3, sS_, .val fv1, sU_, sU_, sU_, sU_, sU_, sU_, sU_, sU_, sU_, sU_, sU_, sU_, sU_, sU_, sU_, sU_, sU_, sU_, sU_] [(.int x2)]))) (fun t kt => ?_) ?_
  · skip
    refine XS.iload X.here hx rfl (hb hby at_248) rfl ?_
    exact kt
  by_cases cc : x2 = 0
  · -- x2 = 0
    refine Goes.go (U' := (T.setTop (mkF m 261 #[sI_ fl, sJ_ e1, sS_, sJ_ e2, sS_, sJ_ e3, sS_, sJ_ f2, sS_, sJ_ f3, sS_, sI_ p1, sI_ hf1, sI_ p2, sI_ s2b, sI_ s2t, sI_ hf2, sI_ x2, sI_ p3, sI_ s3b, sI_ s3t, sI_ hf3, sI_ x3, sI_ (0 : Int32), sI_ b2, sI_ b3, sJ_ (0 : Int64), sS_, sJ_ t2, sS_, sJ_ t3, sS_, .val fv1, sJ_ f2, sS_, sU_, sU_, sU_, sU_, sU_, sU_, sU_, sU_, sU_, sU_, sU_, sU_, sU_, sU_, sU_, sU_, sU_] []))) (fun t kt => ?_) ?_
    · skip
      refine XS.ifYes X.here hx rfl (pc0 := 250) (pc' := 257) rfl (hb hby at_250) rfl (XT.i0_eq_t cc) (by decide) (by decide) ?_
      refine XS.lload X.here hx rfl (hb hby at_257) rfl ?_
      refine XS.lstore X.here hx rfl (hb hby at_259) rfl (l' := #[sI_ fl, sJ_ e1, sS_, sJ_ e2, sS_, sJ_ e3, sS_, sJ_ f2, sS_, sJ_ f3, sS_, sI_ p1, sI_ hf1, sI_ p2, sI_ s2b, sI_ s2t, sI_ hf2, sI_ x2, sI_ p3, sI_ s3b, sI_ s3t, sI_ hf3, sI_ x3, sI_ (0 : Int32), sI_ b2, sI_ b3, sJ_ (0 : Int64), sS_, sJ_ t2, sS_, sJ_ t3, sS_, .val fv1, sJ_ f2, sS_, sU_, sU_, sU_, sU_, sU_, sU_, sU_, sU_, sU_, sU_, sU_, sU_, sU_, sU_, sU_, sU_, sU_]) rfl ?_
      exact kt
    exact law_261 l Z a0 hw fl e1 e2 e3 f2 f3 p1 hf1 p2 s2b s2t hf2 x2 p3 s3b s3t hf3 x3 b2 b3 t2 t3 fv1 o1 f2 h0 n0 Z0 p e s m below meth c hx hby hml hown hnm hret hlk hZ _ _ _ X eT N K0 O BC hb2 hb3 ht2 ht3 L1
  · -- not x2 = 0
    refine Goes.go (U' := (T.setTop (mkF m 261 #[sI_ fl, sJ_ e1, sS_, sJ_ e2, sS_, sJ_ e3, sS_, sJ_ f2, sS_, sJ_ f3, sS_, sI_ p1, sI_ hf1, sI_ p2, sI_ s2b, sI_ s2t, sI_ hf2, sI_ x2, sI_ p3, sI_ s3b, sI_ s3t, sI_ hf3, sI_ x3, sI_ (0 : Int32), sI_ b2, sI_ b3, sJ_ (0 : Int64), sS_, sJ_ t2, sS_, sJ_ t3, sS_, .val fv1, sJ_ e1, sS_, sU_, sU_, sU_, sU_, sU_, sU_, sU_, sU_, sU_, sU_, sU_, sU_, sU_, sU_, sU_, sU_, sU_] []))) (fun t kt => ?_) ?_
    · skip
      refine XS.ifNo X.here hx rfl (hb hby at_250) rfl (XT.i0_eq_f cc) ?_
      refine XS.lloadN X.here hx rfl (hb hby at_253) rfl ?_
      refine XS.goto X.here hx rfl (pc0 := 254) (pc' := 259) rfl (hb hby at_254) (by decide) (by decide) ?_
      refine XS.lstore X.here hx rfl (hb hby at_259) rfl (l' := #[sI_ fl, sJ_ e1, sS_, sJ_ e2, sS_, sJ_ e3, sS_, sJ_ f2, sS_, sJ_ f3, sS_, sI_ p1, sI_ hf1, sI_ p2, sI_ s2b, sI_ s2t, sI_ hf2, sI_ x2, sI_ p3, sI_ s3b, sI_ s3t, sI_ hf3, sI_ x3, sI_ (0 : Int32), sI_ b2, sI_ b3, sJ_ (0 : Int64), sS_, sJ_ t2, sS_, sJ_ t3, sS_, .val fv1, sJ_ e1, sS_, sU_, sU_, sU_, sU_, sU_, sU_, sU_, sU_, sU_, sU_, sU_, sU_, sU_, sU_, sU_, sU_, sU_]) rfl ?_
      exact kt
    exact law_261 l Z a0 hw fl e1 e2 e3 f2 f3 p1 hf1 p2 s2b s2t hf2 x2 p3 s3b s3t hf3 x3 b2 b3 t2 t3 fv1 o1 e1 h0 n0 Z0 p e s m below meth c hx hby hml hown hnm hret hlk hZ _ _ _ X eT N K0 O BC hb2 hb3 ht2 ht3 L1
set_option maxRecDepth 65536 in
set_option maxHeartbeats 40000000 in
theorem law_232 (l : Launch) (Z : State) (a0 : Array Value) (hw : ∀ d ∈ tables_1, d.before a0 Z = true) (fl : Int32) (e1 e2 e3 f2 f3 : Int64) (p1 : Int32) (hf1 : Int32) (p2 : Int32) (s2b : Int32) (s2t : Int32) (hf2 : Int32) (x2 : Int32) (p3 : Int32) (s3b : Int32) (s3t : Int32) (hf3 : Int32) (x3 : Int32) (b2 : Int32) (b3 : Int32) (t2 : Int64) (t3 : Int64) (h0 : Heap) (n0 : Nat) (Z0 : n0 ≤ h0.size) (p : Program) (e : Env) (s : State) (m : MethodId) (below : List Frame) (meth : Method) (c : Code) (hx : p.tables.exec = Jvm.exec) (hby : c.code = code) (hml : c.maxLocals = maxLocals) (hown : s.vm.findClass "com/example/dead_letter_replay/deadletterreplay/queue/CarriesFloorPinLaw" = some m.cls) (hnm : meth.name = "law") (hret : meth.sig.returnType = ret) (hlk : meth.locks = false) (hZ : Z.Warmed39 s.vm) (h : Heap) (T : State) (locs : List Loc) (X : Stand p l e room_1 s m #[(.int fl), (.long e1), (.long e2), (.long e3), (.long f2), (.long f3)] below meth c T locs 0 0) (eT : T.heap = h) (N : Fr n0 locs) (K0 : Keep h0 h []) (O : Old Z n0 h) (BC : BoxC Z "java/lang/Long$LongCache" "[Ljava/lang/Long;" "java/lang/Long" "J" (fun i => .long (i.toInt32 - 128).toInt64)) (hb2 : b2 = (0 : Int32) ↔ ¬ s2b = 0) (hb3 : b3 = b2 ↔ ¬ s3b = 0) (ht2 : t2 = (0 : Int64) ↔ ¬ s2t = 0) (ht3 : t3 = t2 ↔ ¬ s3t = 0) :
    Goes p e s below (fun v h L => v = some (.int 1) ∧ Fr n0 L) room_1.cells room_1.slots (T.setTop (mkF m 232 #[sI_ fl, sJ_ e1, sS_, sJ_ e2, sS_, sJ_ e3, sS_, sJ_ f2, sS_, sJ_ f3, sS_, sI_ p1, sI_ hf1, sI_ p2, sI_ s2b, sI_ s2t, sI_ hf2, sI_ x2, sI_ p3, sI_ s3b, sI_ s3t, sI_ hf3, sI_ x3, sI_ (0 : Int32), sI_ b2, sI_ b3, sJ_ (0 : Int64), sS_, sJ_ t2, sS_, sJ_ t3, sS_, sU_, sU_, sU_, sU_, sU_, sU_, sU_, sU_, sU_, sU_, sU_, sU_, sU_, sU_, sU_, sU_, sU_, sU_, sU_, sU_] [])) := by
  have sz0 : n0 ≤ h.size := Nat.le_trans Z0 K0.1
  refine Goes.go (U' := (T.setTop (mkF m 234 #[sI_ fl, sJ_ e1, sS_, sJ_ e2, sS_, sJ_ e3, sS_, sJ_ f2, sS_, sJ_ f3, sS_, sI_ p1, sI_ hf1, sI_ p2, sI_ s2b, sI_ s2t, sI_ hf2, sI_ x2, sI_ p3, sI_ s3b, sI_ s3t, sI_ hf3, sI_ x3, sI_ (0 : Int32), sI_ b2, sI_ b3, sJ_ (0 : Int64), sS_, sJ_ t2, sS_, sJ_ t3, sS_, sU_, sU_, sU_, sU_, sU_, sU_, sU_, sU_, sU_, sU_, sU_, sU_, sU_, sU_, sU_, sU_, sU_, sU_, sU_, sU_] [(.int hf1)]))) (fun t kt => ?_) ?_
  · skip
    refine XS.iload X.here hx rfl (hb hby at_232) rfl ?_
    exact kt
  by_cases cc : hf1 = 0
  · -- hf1 = 0
    refine Goes.go (U' := (T.setTop (mkF m 248 #[sI_ fl, sJ_ e1, sS_, sJ_ e2, sS_, sJ_ e3, sS_, sJ_ f2, sS_, sJ_ f3, sS_, sI_ p1, sI_ hf1, sI_ p2, sI_ s2b, sI_ s2t, sI_ hf2, sI_ x2, sI_ p3, sI_ s3b, sI_ s3t, sI_ hf3, sI_ x3, sI_ (0 : Int32), sI_ b2, sI_ b3, sJ_ (0 : Int64), sS_, sJ_ t2, sS_, sJ_ t3, sS_, .val .null, sU_, sU_, sU_, sU_, sU_, sU_, sU_, sU_, sU_, sU_, sU_, sU_, sU_, sU_, sU_, sU_, sU_, sU_, sU_] []))) (fun t kt => ?_) ?_
    · skip
      refine XS.ifYes X.here hx rfl (pc0 := 234) (pc' := 245) rfl (hb hby at_234) rfl (XT.i0_eq_t cc) (by decide) (by decide) ?_
      refine XS.aconstNull X.here hx rfl (hb hby at_245) ?_
      refine XS.astore X.here hx rfl (hb hby at_246) rfl rfl (l' := #[sI_ fl, sJ_ e1, sS_, sJ_ e2, sS_, sJ_ e3, sS_, sJ_ f2, sS_, sJ_ f3, sS_, sI_ p1, sI_ hf1, sI_ p2, sI_ s2b, sI_ s2t, sI_ hf2, sI_ x2, sI_ p3, sI_ s3b, sI_ s3t, sI_ hf3, sI_ x3, sI_ (0 : Int32), sI_ b2, sI_ b3, sJ_ (0 : Int64), sS_, sJ_ t2, sS_, sJ_ t3, sS_, .val .null, sU_, sU_, sU_, sU_, sU_, sU_, sU_, sU_, sU_, sU_, sU_, sU_, sU_, sU_, sU_, sU_, sU_, sU_, sU_]) rfl ?_
      exact kt
    exact law_248 l Z a0 hw fl e1 e2 e3 f2 f3 p1 hf1 p2 s2b s2t hf2 x2 p3 s3b s3t hf3 x3 b2 b3 t2 t3 Value.null none h0 n0 Z0 p e s m below meth c hx hby hml hown hnm hret hlk hZ _ _ _ (moreRoom (cells' := 1) (slots' := 1) X (by decide) (by decide)) eT N K0 O BC hb2 hb3 ht2 ht3 rfl
  · -- not hf1 = 0
    refine Goes.go (U' := (T.setTop (mkF m 239 #[sI_ fl, sJ_ e1, sS_, sJ_ e2, sS_, sJ_ e3, sS_, sJ_ f2, sS_, sJ_ f3, sS_, sI_ p1, sI_ hf1, sI_ p2, sI_ s2b, sI_ s2t, sI_ hf2, sI_ x2, sI_ p3, sI_ s3b, sI_ s3t, sI_ hf3, sI_ x3, sI_ (0 : Int32), sI_ b2, sI_ b3, sJ_ (0 : Int64), sS_, sJ_ t2, sS_, sJ_ t3, sS_, sU_, sU_, sU_, sU_, sU_, sU_, sU_, sU_, sU_, sU_, sU_, sU_, sU_, sU_, sU_, sU_, sU_, sU_, sU_, sU_] [(.long f2)]))) (fun t kt => ?_) ?_
    · skip
      refine XS.ifNo X.here hx rfl (hb hby at_234) rfl (XT.i0_eq_f cc) ?_
      refine XS.lload X.here hx rfl (hb hby at_237) rfl ?_
      exact kt
    obtain ⟨v_1, T_1, L_1, X_1, q_1, st_1⟩ := callStatic X hx hZ (y := (⟨"java/lang/Long", "valueOf", "(J)Ljava/lang/Long;"⟩ : MethodName)) (W := 0) hown (wdOf hw 33 rfl) (wdOf hw 34 rfl) (wdOf hw 35 rfl) (wdOf hw 36 rfl) (by decide) (rm_vo l Z a0 hw [] f2 h n0 sz0 O BC) (by decide) (by decide) (by decide) (by decide) eT (g := (mkF m 239 #[sI_ fl, sJ_ e1, sS_, sJ_ e2, sS_, sJ_ e3, sS_, sJ_ f2, sS_, sJ_ f3, sS_, sI_ p1, sI_ hf1, sI_ p2, sI_ s2b, sI_ s2t, sI_ hf2, sI_ x2, sI_ p3, sI_ s3b, sI_ s3t, sI_ hf3, sI_ x3, sI_ (0 : Int32), sI_ b2, sI_ b3, sJ_ (0 : Int64), sS_, sJ_ t2, sS_, sJ_ t3, sS_, sU_, sU_, sU_, sU_, sU_, sU_, sU_, sU_, sU_, sU_, sU_, sU_, sU_, sU_, sU_, sU_, sU_, sU_, sU_, sU_] [(.long f2)])) rfl (by rw [hml]; rfl) (argsL := [(.long f2)]) (rest := []) (lenOf pd_4 rfl) rfl rfl (Nat.le_refl _) (hb hby at_239)
    obtain ⟨r_1, rfl, n_1, K_1, Ev_1, Fv_1⟩ := q_1
    have N_1 := Fr.app N n_1
    have f_2 : Old Z n0 T_1.heap := O.ext K_1
    have K_3 : Keep h0 T_1.heap [] := K0.ext K_1
    have y_3 : n0 ≤ T_1.heap.size := Nat.le_trans Z0 K_3.1
    refine Goes.go (U' := (T_1.setTop (mkF m 242 #[sI_ fl, sJ_ e1, sS_, sJ_ e2, sS_, sJ_ e3, sS_, sJ_ f2, sS_, sJ_ f3, sS_, sI_ p1, sI_ hf1, sI_ p2, sI_ s2b, sI_ s2t, sI_ hf2, sI_ x2, sI_ p3, sI_ s3b, sI_ s3t, sI_ hf3, sI_ x3, sI_ (0 : Int32), sI_ b2, sI_ b3, sJ_ (0 : Int64), sS_, sJ_ t2, sS_, sJ_ t3, sS_, sU_, sU_, sU_, sU_, sU_, sU_, sU_, sU_, sU_, sU_, sU_, sU_, sU_, sU_, sU_, sU_, sU_, sU_, sU_, sU_] [(.ref r_1)]))) st_1 ?_
    refine Goes.go (U' := (T_1.setTop (mkF m 248 #[sI_ fl, sJ_ e1, sS_, sJ_ e2, sS_, sJ_ e3, sS_, sJ_ f2, sS_, sJ_ f3, sS_, sI_ p1, sI_ hf1, sI_ p2, sI_ s2b, sI_ s2t, sI_ hf2, sI_ x2, sI_ p3, sI_ s3b, sI_ s3t, sI_ hf3, sI_ x3, sI_ (0 : Int32), sI_ b2, sI_ b3, sJ_ (0 : Int64), sS_, sJ_ t2, sS_, sJ_ t3, sS_, sR_ r_1, sU_, sU_, sU_, sU_, sU_, sU_, sU_, sU_, sU_, sU_, sU_, sU_, sU_, sU_, sU_, sU_, sU_, sU_, sU_] []))) (fun t kt => ?_) ?_
    · skip
      refine XS.goto X_1.here hx rfl (pc0 := 242) (pc' := 246) rfl (hb hby at_242) (by decide) (by decide) ?_
      refine XS.astore X_1.here hx rfl (hb hby at_246) rfl rfl (l' := #[sI_ fl, sJ_ e1, sS_, sJ_ e2, sS_, sJ_ e3, sS_, sJ_ f2, sS_, sJ_ f3, sS_, sI_ p1, sI_ hf1, sI_ p2, sI_ s2b, sI_ s2t, sI_ hf2, sI_ x2, sI_ p3, sI_ s3b, sI_ s3t, sI_ hf3, sI_ x3, sI_ (0 : Int32), sI_ b2, sI_ b3, sJ_ (0 : Int64), sS_, sJ_ t2, sS_, sJ_ t3, sS_, sR_ r_1, sU_, sU_, sU_, sU_, sU_, sU_, sU_, sU_, sU_, sU_, sU_, sU_, sU_, sU_, sU_, sU_, sU_, sU_, sU_]) rfl ?_
      exact kt
    exact law_248 l Z a0 hw fl e1 e2 e3 f2 f3 p1 hf1 p2 s2b s2t hf2 x2 p3 s3b s3t hf3 x3 b2 b3 t2 t3 (.ref r_1) (some f2) h0 n0 Z0 p e s m below meth c hx hby hml hown hnm hret hlk hZ _ _ _ X_1 (rfl : T_1.heap = T_1.heap) N_1 K_3 f_2 BC hb2 hb3 ht2 ht3 ⟨_, rfl, Ev_1, Fv_1⟩
set_option maxRecDepth 65536 in
set_option maxHeartbeats 40000000 in
theorem law_216 (l : Launch) (Z : State) (a0 : Array Value) (hw : ∀ d ∈ tables_1, d.before a0 Z = true) (fl : Int32) (e1 e2 e3 f2 f3 : Int64) (p1 : Int32) (hf1 : Int32) (p2 : Int32) (s2b : Int32) (s2t : Int32) (hf2 : Int32) (x2 : Int32) (p3 : Int32) (s3b : Int32) (s3t : Int32) (hf3 : Int32) (x3 : Int32) (b2 : Int32) (b3 : Int32) (t2 : Int64) (h0 : Heap) (n0 : Nat) (Z0 : n0 ≤ h0.size) (p : Program) (e : Env) (s : State) (m : MethodId) (below : List Frame) (meth : Method) (c : Code) (hx : p.tables.exec = Jvm.exec) (hby : c.code = code) (hml : c.maxLocals = maxLocals) (hown : s.vm.findClass "com/example/dead_letter_replay/deadletterreplay/queue/CarriesFloorPinLaw" = some m.cls) (hnm : meth.name = "law") (hret : meth.sig.returnType = ret) (hlk : meth.locks = false) (hZ : Z.Warmed39 s.vm) (h : Heap) (T : State) (locs : List Loc) (X : Stand p l e room_1 s m #[(.int fl), (.long e1), (.long e2), (.long e3), (.long f2), (.long f3)] below meth c T locs 0 0) (eT : T.heap = h) (N : Fr n0 locs) (K0 : Keep h0 h []) (O : Old Z n0 h) (BC : BoxC Z "java/lang/Long$LongCache" "[Ljava/lang/Long;" "java/lang/Long" "J" (fun i => .long (i.toInt32 - 128).toInt64)) (hb2 : b2 = (0 : Int32) ↔ ¬ s2b = 0) (hb3 : b3 = b2 ↔ ¬ s3b = 0) (ht2 : t2 = (0 : Int64) ↔ ¬ s2t = 0) :
    Goes p e s below (fun v h L => v = some (.int 1) ∧ Fr n0 L) room_1.cells room_1.slots (T.setTop (mkF m 216 #[sI_ fl, sJ_ e1, sS_, sJ_ e2, sS_, sJ_ e3, sS_, sJ_ f2, sS_, sJ_ f3, sS_, sI_ p1, sI_ hf1, sI_ p2, sI_ s2b, sI_ s2t, sI_ hf2, sI_ x2, sI_ p3, sI_ s3b, sI_ s3t, sI_ hf3, sI_ x3, sI_ (0 : Int32), sI_ b2, sI_ b3, sJ_ (0 : Int64), sS_, sJ_ t2, sS_, sU_, sU_, sU_, sU_, sU_, sU_, sU_, sU_, sU_, sU_, sU_, sU_, sU_, sU_, sU_, sU_, sU_, sU_, sU_, sU_, sU_, sU_] [])) := by
  have sz0 : n0 ≤ h.size := Nat.le_trans Z0 K0.1
  refine Goes.go (U' := (T.setTop (mkF m 218 #[sI_ fl, sJ_ e1, sS_, sJ_ e2, sS_, sJ_ e3, sS_, sJ_ f2, sS_, sJ_ f3, sS_, sI_ p1, sI_ hf1, sI_ p2, sI_ s2b, sI_ s2t, sI_ hf2, sI_ x2, sI_ p3, sI_ s3b, sI_ s3t, sI_ hf3, sI_ x3, sI_ (0 : Int32), sI_ b2, sI_ b3, sJ_ (0 : Int64), sS_, sJ_ t2, sS_, sU_, sU_, sU_, sU_, sU_, sU_, sU_, sU_, sU_, sU_, sU_, sU_, sU_, sU_, sU_, sU_, sU_, sU_, sU_, sU_, sU_, sU_] [(.int s3t)]))) (fun t kt => ?_) ?_
  · skip
    refine XS.iload X.here hx rfl (hb hby at_216) rfl ?_
    exact kt
  by_cases cc : s3t = 0
  · -- s3t = 0
    refine Goes.go (U' := (T.setTop (mkF m 232 #[sI_ fl, sJ_ e1, sS_, sJ_ e2, sS_, sJ_ e3, sS_, sJ_ f2, sS_, sJ_ f3, sS_, sI_ p1, sI_ hf1, sI_ p2, sI_ s2b, sI_ s2t, sI_ hf2, sI_ x2, sI_ p3, sI_ s3b, sI_ s3t, sI_ hf3, sI_ x3, sI_ (0 : Int32), sI_ b2, sI_ b3, sJ_ (0 : Int64), sS_, sJ_ t2, sS_, sJ_ (t2 + (1 : Int64)), sS_, sU_, sU_, sU_, sU_, sU_, sU_, sU_, sU_, sU_, sU_, sU_, sU_, sU_, sU_, sU_, sU_, sU_, sU_, sU_, sU_] []))) (fun t kt => ?_) ?_
    · skip
      refine XS.ifYes X.here hx rfl (pc0 := 218) (pc' := 226) rfl (hb hby at_218) rfl (XT.i0_eq_t cc) (by decide) (by decide) ?_
      refine XS.lload X.here hx rfl (hb hby at_226) rfl ?_
      refine XS.lconst X.here hx rfl (hb hby at_228) ?_
      refine XS.ladd X.here hx rfl (hb hby at_229) rfl ?_
      refine XS.lstore X.here hx rfl (hb hby at_230) rfl (l' := #[sI_ fl, sJ_ e1, sS_, sJ_ e2, sS_, sJ_ e3, sS_, sJ_ f2, sS_, sJ_ f3, sS_, sI_ p1, sI_ hf1, sI_ p2, sI_ s2b, sI_ s2t, sI_ hf2, sI_ x2, sI_ p3, sI_ s3b, sI_ s3t, sI_ hf3, sI_ x3, sI_ (0 : Int32), sI_ b2, sI_ b3, sJ_ (0 : Int64), sS_, sJ_ t2, sS_, sJ_ (t2 + (1 : Int64)), sS_, sU_, sU_, sU_, sU_, sU_, sU_, sU_, sU_, sU_, sU_, sU_, sU_, sU_, sU_, sU_, sU_, sU_, sU_, sU_, sU_]) rfl ?_
      exact kt
    exact law_232 l Z a0 hw fl e1 e2 e3 f2 f3 p1 hf1 p2 s2b s2t hf2 x2 p3 s3b s3t hf3 x3 b2 b3 t2 (t2 + (1 : Int64)) h0 n0 Z0 p e s m below meth c hx hby hml hown hnm hret hlk hZ _ _ _ X eT N K0 O BC hb2 hb3 ht2 (by first | (simp [cc]; done) | (simp [cc]; exact own_succL t2))
  · -- not s3t = 0
    refine Goes.go (U' := (T.setTop (mkF m 232 #[sI_ fl, sJ_ e1, sS_, sJ_ e2, sS_, sJ_ e3, sS_, sJ_ f2, sS_, sJ_ f3, sS_, sI_ p1, sI_ hf1, sI_ p2, sI_ s2b, sI_ s2t, sI_ hf2, sI_ x2, sI_ p3, sI_ s3b, sI_ s3t, sI_ hf3, sI_ x3, sI_ (0 : Int32), sI_ b2, sI_ b3, sJ_ (0 : Int64), sS_, sJ_ t2, sS_, sJ_ t2, sS_, sU_, sU_, sU_, sU_, sU_, sU_, sU_, sU_, sU_, sU_, sU_, sU_, sU_, sU_, sU_, sU_, sU_, sU_, sU_, sU_] []))) (fun t kt => ?_) ?_
    · skip
      refine XS.ifNo X.here hx rfl (hb hby at_218) rfl (XT.i0_eq_f cc) ?_
      refine XS.lload X.here hx rfl (hb hby at_221) rfl ?_
      refine XS.goto X.here hx rfl (pc0 := 223) (pc' := 230) rfl (hb hby at_223) (by decide) (by decide) ?_
      refine XS.lstore X.here hx rfl (hb hby at_230) rfl (l' := #[sI_ fl, sJ_ e1, sS_, sJ_ e2, sS_, sJ_ e3, sS_, sJ_ f2, sS_, sJ_ f3, sS_, sI_ p1, sI_ hf1, sI_ p2, sI_ s2b, sI_ s2t, sI_ hf2, sI_ x2, sI_ p3, sI_ s3b, sI_ s3t, sI_ hf3, sI_ x3, sI_ (0 : Int32), sI_ b2, sI_ b3, sJ_ (0 : Int64), sS_, sJ_ t2, sS_, sJ_ t2, sS_, sU_, sU_, sU_, sU_, sU_, sU_, sU_, sU_, sU_, sU_, sU_, sU_, sU_, sU_, sU_, sU_, sU_, sU_, sU_, sU_]) rfl ?_
      exact kt
    exact law_232 l Z a0 hw fl e1 e2 e3 f2 f3 p1 hf1 p2 s2b s2t hf2 x2 p3 s3b s3t hf3 x3 b2 b3 t2 t2 h0 n0 Z0 p e s m below meth c hx hby hml hown hnm hret hlk hZ _ _ _ X eT N K0 O BC hb2 hb3 ht2 (by simp [cc])
set_option maxRecDepth 65536 in
set_option maxHeartbeats 40000000 in
theorem law_201 (l : Launch) (Z : State) (a0 : Array Value) (hw : ∀ d ∈ tables_1, d.before a0 Z = true) (fl : Int32) (e1 e2 e3 f2 f3 : Int64) (p1 : Int32) (hf1 : Int32) (p2 : Int32) (s2b : Int32) (s2t : Int32) (hf2 : Int32) (x2 : Int32) (p3 : Int32) (s3b : Int32) (s3t : Int32) (hf3 : Int32) (x3 : Int32) (b2 : Int32) (b3 : Int32) (h0 : Heap) (n0 : Nat) (Z0 : n0 ≤ h0.size) (p : Program) (e : Env) (s : State) (m : MethodId) (below : List Frame) (meth : Method) (c : Code) (hx : p.tables.exec = Jvm.exec) (hby : c.code = code) (hml : c.maxLocals = maxLocals) (hown : s.vm.findClass "com/example/dead_letter_replay/deadletterreplay/queue/CarriesFloorPinLaw" = some m.cls) (hnm : meth.name = "law") (hret : meth.sig.returnType = ret) (hlk : meth.locks = false) (hZ : Z.Warmed39 s.vm) (h : Heap) (T : State) (locs : List Loc) (X : Stand p l e room_1 s m #[(.int fl), (.long e1), (.long e2), (.long e3), (.long f2), (.long f3)] below meth c T locs 0 0) (eT : T.heap = h) (N : Fr n0 locs) (K0 : Keep h0 h []) (O : Old Z n0 h) (BC : BoxC Z "java/lang/Long$LongCache" "[Ljava/lang/Long;" "java/lang/Long" "J" (fun i => .long (i.toInt32 - 128).toInt64)) (hb2 : b2 = (0 : Int32) ↔ ¬ s2b = 0) (hb3 : b3 = b2 ↔ ¬ s3b = 0) :
    Goes p e s below (fun v h L => v = some (.int 1) ∧ Fr n0 L) room_1.cells room_1.slots (T.setTop (mkF m 201 #[sI_ fl, sJ_ e1, sS_, sJ_ e2, sS_, sJ_ e3, sS_, sJ_ f2, sS_, sJ_ f3, sS_, sI_ p1, sI_ hf1, sI_ p2, sI_ s2b, sI_ s2t, sI_ hf2, sI_ x2, sI_ p3, sI_ s3b, sI_ s3t, sI_ hf3, sI_ x3, sI_ (0 : Int32), sI_ b2, sI_ b3, sU_, sU_, sU_, sU_, sU_, sU_, sU_, sU_, sU_, sU_, sU_, sU_, sU_, sU_, sU_, sU_, sU_, sU_, sU_, sU_, sU_, sU_, sU_, sU_, sU_, sU_] [])) := by
  have sz0 : n0 ≤ h.size := Nat.le_trans Z0 K0.1
  refine Goes.go (U' := (T.setTop (mkF m 206 #[sI_ fl, sJ_ e1, sS_, sJ_ e2, sS_, sJ_ e3, sS_, sJ_ f2, sS_, sJ_ f3, sS_, sI_ p1, sI_ hf1, sI_ p2, sI_ s2b, sI_ s2t, sI_ hf2, sI_ x2, sI_ p3, sI_ s3b, sI_ s3t, sI_ hf3, sI_ x3, sI_ (0 : Int32), sI_ b2, sI_ b3, sJ_ (0 : Int64), sS_, sU_, sU_, sU_, sU_, sU_, sU_, sU_, sU_, sU_, sU_, sU_, sU_, sU_, sU_, sU_, sU_, sU_, sU_, sU_, sU_, sU_, sU_, sU_, sU_] [(.int s2t)]))) (fun t kt => ?_) ?_
  · skip
    refine XS.lconst X.here hx rfl (hb hby at_201) ?_
    refine XS.lstore X.here hx rfl (hb hby at_202) rfl (l' := #[sI_ fl, sJ_ e1, sS_, sJ_ e2, sS_, sJ_ e3, sS_, sJ_ f2, sS_, sJ_ f3, sS_, sI_ p1, sI_ hf1, sI_ p2, sI_ s2b, sI_ s2t, sI_ hf2, sI_ x2, sI_ p3, sI_ s3b, sI_ s3t, sI_ hf3, sI_ x3, sI_ (0 : Int32), sI_ b2, sI_ b3, sJ_ (0 : Int64), sS_, sU_, sU_, sU_, sU_, sU_, sU_, sU_, sU_, sU_, sU_, sU_, sU_, sU_, sU_, sU_, sU_, sU_, sU_, sU_, sU_, sU_, sU_, sU_, sU_]) rfl ?_
    refine XS.iload X.here hx rfl (hb hby at_204) rfl ?_
    exact kt
  by_cases cc : s2t = 0
  · -- s2t = 0
    refine Goes.go (U' := (T.setTop (mkF m 216 #[sI_ fl, sJ_ e1, sS_, sJ_ e2, sS_, sJ_ e3, sS_, sJ_ f2, sS_, sJ_ f3, sS_, sI_ p1, sI_ hf1, sI_ p2, sI_ s2b, sI_ s2t, sI_ hf2, sI_ x2, sI_ p3, sI_ s3b, sI_ s3t, sI_ hf3, sI_ x3, sI_ (0 : Int32), sI_ b2, sI_ b3, sJ_ (0 : Int64), sS_, sJ_ (1 : Int64), sS_, sU_, sU_, sU_, sU_, sU_, sU_, sU_, sU_, sU_, sU_, sU_, sU_, sU_, sU_, sU_, sU_, sU_, sU_, sU_, sU_, sU_, sU_] []))) (fun t kt => ?_) ?_
    · skip
      refine XS.ifYes X.here hx rfl (pc0 := 206) (pc' := 213) rfl (hb hby at_206) rfl (XT.i0_eq_t cc) (by decide) (by decide) ?_
      refine XS.lconst X.here hx rfl (hb hby at_213) ?_
      refine XS.lstore X.here hx rfl (hb hby at_214) rfl (l' := #[sI_ fl, sJ_ e1, sS_, sJ_ e2, sS_, sJ_ e3, sS_, sJ_ f2, sS_, sJ_ f3, sS_, sI_ p1, sI_ hf1, sI_ p2, sI_ s2b, sI_ s2t, sI_ hf2, sI_ x2, sI_ p3, sI_ s3b, sI_ s3t, sI_ hf3, sI_ x3, sI_ (0 : Int32), sI_ b2, sI_ b3, sJ_ (0 : Int64), sS_, sJ_ (1 : Int64), sS_, sU_, sU_, sU_, sU_, sU_, sU_, sU_, sU_, sU_, sU_, sU_, sU_, sU_, sU_, sU_, sU_, sU_, sU_, sU_, sU_, sU_, sU_]) rfl ?_
      exact kt
    exact law_216 l Z a0 hw fl e1 e2 e3 f2 f3 p1 hf1 p2 s2b s2t hf2 x2 p3 s3b s3t hf3 x3 b2 b3 (1 : Int64) h0 n0 Z0 p e s m below meth c hx hby hml hown hnm hret hlk hZ _ _ _ X eT N K0 O BC hb2 hb3 (by simp [cc])
  · -- not s2t = 0
    refine Goes.go (U' := (T.setTop (mkF m 216 #[sI_ fl, sJ_ e1, sS_, sJ_ e2, sS_, sJ_ e3, sS_, sJ_ f2, sS_, sJ_ f3, sS_, sI_ p1, sI_ hf1, sI_ p2, sI_ s2b, sI_ s2t, sI_ hf2, sI_ x2, sI_ p3, sI_ s3b, sI_ s3t, sI_ hf3, sI_ x3, sI_ (0 : Int32), sI_ b2, sI_ b3, sJ_ (0 : Int64), sS_, sJ_ (0 : Int64), sS_, sU_, sU_, sU_, sU_, sU_, sU_, sU_, sU_, sU_, sU_, sU_, sU_, sU_, sU_, sU_, sU_, sU_, sU_, sU_, sU_, sU_, sU_] []))) (fun t kt => ?_) ?_
    · skip
      refine XS.ifNo X.here hx rfl (hb hby at_206) rfl (XT.i0_eq_f cc) ?_
      refine XS.lconst X.here hx rfl (hb hby at_209) ?_
      refine XS.goto X.here hx rfl (pc0 := 210) (pc' := 214) rfl (hb hby at_210) (by decide) (by decide) ?_
      refine XS.lstore X.here hx rfl (hb hby at_214) rfl (l' := #[sI_ fl, sJ_ e1, sS_, sJ_ e2, sS_, sJ_ e3, sS_, sJ_ f2, sS_, sJ_ f3, sS_, sI_ p1, sI_ hf1, sI_ p2, sI_ s2b, sI_ s2t, sI_ hf2, sI_ x2, sI_ p3, sI_ s3b, sI_ s3t, sI_ hf3, sI_ x3, sI_ (0 : Int32), sI_ b2, sI_ b3, sJ_ (0 : Int64), sS_, sJ_ (0 : Int64), sS_, sU_, sU_, sU_, sU_, sU_, sU_, sU_, sU_, sU_, sU_, sU_, sU_, sU_, sU_, sU_, sU_, sU_, sU_, sU_, sU_, sU_, sU_]) rfl ?_
      exact kt
    exact law_216 l Z a0 hw fl e1 e2 e3 f2 f3 p1 hf1 p2 s2b s2t hf2 x2 p3 s3b s3t hf3 x3 b2 b3 (0 : Int64) h0 n0 Z0 p e s m below meth c hx hby hml hown hnm hret hlk hZ _ _ _ X eT N K0 O BC hb2 hb3 (by simp [cc])
set_option maxRecDepth 65536 in
set_option maxHeartbeats 40000000 in
theorem law_185 (l : Launch) (Z : State) (a0 : Array Value) (hw : ∀ d ∈ tables_1, d.before a0 Z = true) (fl : Int32) (e1 e2 e3 f2 f3 : Int64) (p1 : Int32) (hf1 : Int32) (p2 : Int32) (s2b : Int32) (s2t : Int32) (hf2 : Int32) (x2 : Int32) (p3 : Int32) (s3b : Int32) (s3t : Int32) (hf3 : Int32) (x3 : Int32) (b2 : Int32) (h0 : Heap) (n0 : Nat) (Z0 : n0 ≤ h0.size) (p : Program) (e : Env) (s : State) (m : MethodId) (below : List Frame) (meth : Method) (c : Code) (hx : p.tables.exec = Jvm.exec) (hby : c.code = code) (hml : c.maxLocals = maxLocals) (hown : s.vm.findClass "com/example/dead_letter_replay/deadletterreplay/queue/CarriesFloorPinLaw" = some m.cls) (hnm : meth.name = "law") (hret : meth.sig.returnType = ret) (hlk : meth.locks = false) (hZ : Z.Warmed39 s.vm) (h : Heap) (T : State) (locs : List Loc) (X : Stand p l e room_1 s m #[(.int fl), (.long e1), (.long e2), (.long e3), (.long f2), (.long f3)] below meth c T locs 0 0) (eT : T.heap = h) (N : Fr n0 locs) (K0 : Keep h0 h []) (O : Old Z n0 h) (BC : BoxC Z "java/lang/Long$LongCache" "[Ljava/lang/Long;" "java/lang/Long" "J" (fun i => .long (i.toInt32 - 128).toInt64)) (hb2 : b2 = (0 : Int32) ↔ ¬ s2b = 0) :
    Goes p e s below (fun v h L => v = some (.int 1) ∧ Fr n0 L) room_1.cells room_1.slots (T.setTop (mkF m 185 #[sI_ fl, sJ_ e1, sS_, sJ_ e2, sS_, sJ_ e3, sS_, sJ_ f2, sS_, sJ_ f3, sS_, sI_ p1, sI_ hf1, sI_ p2, sI_ s2b, sI_ s2t, sI_ hf2, sI_ x2, sI_ p3, sI_ s3b, sI_ s3t, sI_ hf3, sI_ x3, sI_ (0 : Int32), sI_ b2, sU_, sU_, sU_, sU_, sU_, sU_, sU_, sU_, sU_, sU_, sU_, sU_, sU_, sU_, sU_, sU_, sU_, sU_, sU_, sU_, sU_, sU_, sU_, sU_, sU_, sU_, sU_] [])) := by
  have sz0 : n0 ≤ h.size := Nat.le_trans Z0 K0.1
  refine Goes.go (U' := (T.setTop (mkF m 187 #[sI_ fl, sJ_ e1, sS_, sJ_ e2, sS_, sJ_ e3, sS_, sJ_ f2, sS_, sJ_ f3, sS_, sI_ p1, sI_ hf1, sI_ p2, sI_ s2b, sI_ s2t, sI_ hf2, sI_ x2, sI_ p3, sI_ s3b, sI_ s3t, sI_ hf3, sI_ x3, sI_ (0 : Int32), sI_ b2, sU_, sU_, sU_, sU_, sU_, sU_, sU_, sU_, sU_, sU_, sU_, sU_, sU_, sU_, sU_, sU_, sU_, sU_, sU_, sU_, sU_, sU_, sU_, sU_, sU_, sU_, sU_] [(.int s3b)]))) (fun t kt => ?_) ?_
  · skip
    refine XS.iload X.here hx rfl (hb hby at_185) rfl ?_
    exact kt
  by_cases cc : s3b = 0
  · -- s3b = 0
    refine Goes.go (U' := (T.setTop (mkF m 201 #[sI_ fl, sJ_ e1, sS_, sJ_ e2, sS_, sJ_ e3, sS_, sJ_ f2, sS_, sJ_ f3, sS_, sI_ p1, sI_ hf1, sI_ p2, sI_ s2b, sI_ s2t, sI_ hf2, sI_ x2, sI_ p3, sI_ s3b, sI_ s3t, sI_ hf3, sI_ x3, sI_ (0 : Int32), sI_ b2, sI_ (b2 + (1 : Int32)), sU_, sU_, sU_, sU_, sU_, sU_, sU_, sU_, sU_, sU_, sU_, sU_, sU_, sU_, sU_, sU_, sU_, sU_, sU_, sU_, sU_, sU_, sU_, sU_, sU_, sU_] []))) (fun t kt => ?_) ?_
    · skip
      refine XS.ifYes X.here hx rfl (pc0 := 187) (pc' := 195) rfl (hb hby at_187) rfl (XT.i0_eq_t cc) (by decide) (by decide) ?_
      refine XS.iload X.here hx rfl (hb hby at_195) rfl ?_
      refine XS.iconst X.here hx rfl (hb hby at_197) ?_
      refine XS.iadd X.here hx rfl (hb hby at_198) rfl ?_
      refine XS.istore X.here hx rfl (hb hby at_199) rfl (l' := #[sI_ fl, sJ_ e1, sS_, sJ_ e2, sS_, sJ_ e3, sS_, sJ_ f2, sS_, sJ_ f3, sS_, sI_ p1, sI_ hf1, sI_ p2, sI_ s2b, sI_ s2t, sI_ hf2, sI_ x2, sI_ p3, sI_ s3b, sI_ s3t, sI_ hf3, sI_ x3, sI_ (0 : Int32), sI_ b2, sI_ (b2 + (1 : Int32)), sU_, sU_, sU_, sU_, sU_, sU_, sU_, sU_, sU_, sU_, sU_, sU_, sU_, sU_, sU_, sU_, sU_, sU_, sU_, sU_, sU_, sU_, sU_, sU_, sU_, sU_]) rfl ?_
      exact kt
    exact law_201 l Z a0 hw fl e1 e2 e3 f2 f3 p1 hf1 p2 s2b s2t hf2 x2 p3 s3b s3t hf3 x3 b2 (b2 + (1 : Int32)) h0 n0 Z0 p e s m below meth c hx hby hml hown hnm hret hlk hZ _ _ _ X eT N K0 O BC hb2 (by first | (simp [cc]; done) | (simp [cc]; exact own_succ b2))
  · -- not s3b = 0
    refine Goes.go (U' := (T.setTop (mkF m 201 #[sI_ fl, sJ_ e1, sS_, sJ_ e2, sS_, sJ_ e3, sS_, sJ_ f2, sS_, sJ_ f3, sS_, sI_ p1, sI_ hf1, sI_ p2, sI_ s2b, sI_ s2t, sI_ hf2, sI_ x2, sI_ p3, sI_ s3b, sI_ s3t, sI_ hf3, sI_ x3, sI_ (0 : Int32), sI_ b2, sI_ b2, sU_, sU_, sU_, sU_, sU_, sU_, sU_, sU_, sU_, sU_, sU_, sU_, sU_, sU_, sU_, sU_, sU_, sU_, sU_, sU_, sU_, sU_, sU_, sU_, sU_, sU_] []))) (fun t kt => ?_) ?_
    · skip
      refine XS.ifNo X.here hx rfl (hb hby at_187) rfl (XT.i0_eq_f cc) ?_
      refine XS.iload X.here hx rfl (hb hby at_190) rfl ?_
      refine XS.goto X.here hx rfl (pc0 := 192) (pc' := 199) rfl (hb hby at_192) (by decide) (by decide) ?_
      refine XS.istore X.here hx rfl (hb hby at_199) rfl (l' := #[sI_ fl, sJ_ e1, sS_, sJ_ e2, sS_, sJ_ e3, sS_, sJ_ f2, sS_, sJ_ f3, sS_, sI_ p1, sI_ hf1, sI_ p2, sI_ s2b, sI_ s2t, sI_ hf2, sI_ x2, sI_ p3, sI_ s3b, sI_ s3t, sI_ hf3, sI_ x3, sI_ (0 : Int32), sI_ b2, sI_ b2, sU_, sU_, sU_, sU_, sU_, sU_, sU_, sU_, sU_, sU_, sU_, sU_, sU_, sU_, sU_, sU_, sU_, sU_, sU_, sU_, sU_, sU_, sU_, sU_, sU_, sU_]) rfl ?_
      exact kt
    exact law_201 l Z a0 hw fl e1 e2 e3 f2 f3 p1 hf1 p2 s2b s2t hf2 x2 p3 s3b s3t hf3 x3 b2 b2 h0 n0 Z0 p e s m below meth c hx hby hml hown hnm hret hlk hZ _ _ _ X eT N K0 O BC hb2 (by simp [cc])
set_option maxRecDepth 65536 in
set_option maxHeartbeats 40000000 in
theorem law_170 (l : Launch) (Z : State) (a0 : Array Value) (hw : ∀ d ∈ tables_1, d.before a0 Z = true) (fl : Int32) (e1 e2 e3 f2 f3 : Int64) (p1 : Int32) (hf1 : Int32) (p2 : Int32) (s2b : Int32) (s2t : Int32) (hf2 : Int32) (x2 : Int32) (p3 : Int32) (s3b : Int32) (s3t : Int32) (hf3 : Int32) (x3 : Int32) (h0 : Heap) (n0 : Nat) (Z0 : n0 ≤ h0.size) (p : Program) (e : Env) (s : State) (m : MethodId) (below : List Frame) (meth : Method) (c : Code) (hx : p.tables.exec = Jvm.exec) (hby : c.code = code) (hml : c.maxLocals = maxLocals) (hown : s.vm.findClass "com/example/dead_letter_replay/deadletterreplay/queue/CarriesFloorPinLaw" = some m.cls) (hnm : meth.name = "law") (hret : meth.sig.returnType = ret) (hlk : meth.locks = false) (hZ : Z.Warmed39 s.vm) (h : Heap) (T : State) (locs : List Loc) (X : Stand p l e room_1 s m #[(.int fl), (.long e1), (.long e2), (.long e3), (.long f2), (.long f3)] below meth c T locs 0 0) (eT : T.heap = h) (N : Fr n0 locs) (K0 : Keep h0 h []) (O : Old Z n0 h) (BC : BoxC Z "java/lang/Long$LongCache" "[Ljava/lang/Long;" "java/lang/Long" "J" (fun i => .long (i.toInt32 - 128).toInt64))  :
    Goes p e s below (fun v h L => v = some (.int 1) ∧ Fr n0 L) room_1.cells room_1.slots (T.setTop (mkF m 170 #[sI_ fl, sJ_ e1, sS_, sJ_ e2, sS_, sJ_ e3, sS_, sJ_ f2, sS_, sJ_ f3, sS_, sI_ p1, sI_ hf1, sI_ p2, sI_ s2b, sI_ s2t, sI_ hf2, sI_ x2, sI_ p3, sI_ s3b, sI_ s3t, sI_ hf3, sI_ x3, sU_, sU_, sU_, sU_, sU_, sU_, sU_, sU_, sU_, sU_, sU_, sU_, sU_, sU_, sU_, sU_, sU_, sU_, sU_, sU_, sU_, sU_, sU_, sU_, sU_, sU_, sU_, sU_, sU_] [])) := by
  have sz0 : n0 ≤ h.size := Nat.le_trans Z0 K0.1
  refine Goes.go (U' := (T.setTop (mkF m 175 #[sI_ fl, sJ_ e1, sS_, sJ_ e2, sS_, sJ_ e3, sS_, sJ_ f2, sS_, sJ_ f3, sS_, sI_ p1, sI_ hf1, sI_ p2, sI_ s2b, sI_ s2t, sI_ hf2, sI_ x2, sI_ p3, sI_ s3b, sI_ s3t, sI_ hf3, sI_ x3, sI_ (0 : Int32), sU_, sU_, sU_, sU_, sU_, sU_, sU_, sU_, sU_, sU_, sU_, sU_, sU_, sU_, sU_, sU_, sU_, sU_, sU_, sU_, sU_, sU_, sU_, sU_, sU_, sU_, sU_, sU_] [(.int s2b)]))) (fun t kt => ?_) ?_
  · skip
    refine XS.iconst X.here hx rfl (hb hby at_170) ?_
    refine XS.istore X.here hx rfl (hb hby at_171) rfl (l' := #[sI_ fl, sJ_ e1, sS_, sJ_ e2, sS_, sJ_ e3, sS_, sJ_ f2, sS_, sJ_ f3, sS_, sI_ p1, sI_ hf1, sI_ p2, sI_ s2b, sI_ s2t, sI_ hf2, sI_ x2, sI_ p3, sI_ s3b, sI_ s3t, sI_ hf3, sI_ x3, sI_ (0 : Int32), sU_, sU_, sU_, sU_, sU_, sU_, sU_, sU_, sU_, sU_, sU_, sU_, sU_, sU_, sU_, sU_, sU_, sU_, sU_, sU_, sU_, sU_, sU_, sU_, sU_, sU_, sU_, sU_]) rfl ?_
    refine XS.iload X.here hx rfl (hb hby at_173) rfl ?_
    exact kt
  by_cases cc : s2b = 0
  · -- s2b = 0
    refine Goes.go (U' := (T.setTop (mkF m 185 #[sI_ fl, sJ_ e1, sS_, sJ_ e2, sS_, sJ_ e3, sS_, sJ_ f2, sS_, sJ_ f3, sS_, sI_ p1, sI_ hf1, sI_ p2, sI_ s2b, sI_ s2t, sI_ hf2, sI_ x2, sI_ p3, sI_ s3b, sI_ s3t, sI_ hf3, sI_ x3, sI_ (0 : Int32), sI_ (1 : Int32), sU_, sU_, sU_, sU_, sU_, sU_, sU_, sU_, sU_, sU_, sU_, sU_, sU_, sU_, sU_, sU_, sU_, sU_, sU_, sU_, sU_, sU_, sU_, sU_, sU_, sU_, sU_] []))) (fun t kt => ?_) ?_
    · skip
      refine XS.ifYes X.here hx rfl (pc0 := 175) (pc' := 182) rfl (hb hby at_175) rfl (XT.i0_eq_t cc) (by decide) (by decide) ?_
      refine XS.iconst X.here hx rfl (hb hby at_182) ?_
      refine XS.istore X.here hx rfl (hb hby at_183) rfl (l' := #[sI_ fl, sJ_ e1, sS_, sJ_ e2, sS_, sJ_ e3, sS_, sJ_ f2, sS_, sJ_ f3, sS_, sI_ p1, sI_ hf1, sI_ p2, sI_ s2b, sI_ s2t, sI_ hf2, sI_ x2, sI_ p3, sI_ s3b, sI_ s3t, sI_ hf3, sI_ x3, sI_ (0 : Int32), sI_ (1 : Int32), sU_, sU_, sU_, sU_, sU_, sU_, sU_, sU_, sU_, sU_, sU_, sU_, sU_, sU_, sU_, sU_, sU_, sU_, sU_, sU_, sU_, sU_, sU_, sU_, sU_, sU_, sU_]) rfl ?_
      exact kt
    exact law_185 l Z a0 hw fl e1 e2 e3 f2 f3 p1 hf1 p2 s2b s2t hf2 x2 p3 s3b s3t hf3 x3 (1 : Int32) h0 n0 Z0 p e s m below meth c hx hby hml hown hnm hret hlk hZ _ _ _ X eT N K0 O BC (by simp [cc])
  · -- not s2b = 0
    refine Goes.go (U' := (T.setTop (mkF m 185 #[sI_ fl, sJ_ e1, sS_, sJ_ e2, sS_, sJ_ e3, sS_, sJ_ f2, sS_, sJ_ f3, sS_, sI_ p1, sI_ hf1, sI_ p2, sI_ s2b, sI_ s2t, sI_ hf2, sI_ x2, sI_ p3, sI_ s3b, sI_ s3t, sI_ hf3, sI_ x3, sI_ (0 : Int32), sI_ (0 : Int32), sU_, sU_, sU_, sU_, sU_, sU_, sU_, sU_, sU_, sU_, sU_, sU_, sU_, sU_, sU_, sU_, sU_, sU_, sU_, sU_, sU_, sU_, sU_, sU_, sU_, sU_, sU_] []))) (fun t kt => ?_) ?_
    · skip
      refine XS.ifNo X.here hx rfl (hb hby at_175) rfl (XT.i0_eq_f cc) ?_
      refine XS.iconst X.here hx rfl (hb hby at_178) ?_
      refine XS.goto X.here hx rfl (pc0 := 179) (pc' := 183) rfl (hb hby at_179) (by decide) (by decide) ?_
      refine XS.istore X.here hx rfl (hb hby at_183) rfl (l' := #[sI_ fl, sJ_ e1, sS_, sJ_ e2, sS_, sJ_ e3, sS_, sJ_ f2, sS_, sJ_ f3, sS_, sI_ p1, sI_ hf1, sI_ p2, sI_ s2b, sI_ s2t, sI_ hf2, sI_ x2, sI_ p3, sI_ s3b, sI_ s3t, sI_ hf3, sI_ x3, sI_ (0 : Int32), sI_ (0 : Int32), sU_, sU_, sU_, sU_, sU_, sU_, sU_, sU_, sU_, sU_, sU_, sU_, sU_, sU_, sU_, sU_, sU_, sU_, sU_, sU_, sU_, sU_, sU_, sU_, sU_, sU_, sU_]) rfl ?_
      exact kt
    exact law_185 l Z a0 hw fl e1 e2 e3 f2 f3 p1 hf1 p2 s2b s2t hf2 x2 p3 s3b s3t hf3 x3 (0 : Int32) h0 n0 Z0 p e s m below meth c hx hby hml hown hnm hret hlk hZ _ _ _ X eT N K0 O BC (by simp [cc])
set_option maxRecDepth 65536 in
set_option maxHeartbeats 40000000 in
theorem law_155 (l : Launch) (Z : State) (a0 : Array Value) (hw : ∀ d ∈ tables_1, d.before a0 Z = true) (fl : Int32) (e1 e2 e3 f2 f3 : Int64) (p1 : Int32) (hf1 : Int32) (p2 : Int32) (s2b : Int32) (s2t : Int32) (hf2 : Int32) (x2 : Int32) (p3 : Int32) (s3b : Int32) (s3t : Int32) (hf3 : Int32) (h0 : Heap) (n0 : Nat) (Z0 : n0 ≤ h0.size) (p : Program) (e : Env) (s : State) (m : MethodId) (below : List Frame) (meth : Method) (c : Code) (hx : p.tables.exec = Jvm.exec) (hby : c.code = code) (hml : c.maxLocals = maxLocals) (hown : s.vm.findClass "com/example/dead_letter_replay/deadletterreplay/queue/CarriesFloorPinLaw" = some m.cls) (hnm : meth.name = "law") (hret : meth.sig.returnType = ret) (hlk : meth.locks = false) (hZ : Z.Warmed39 s.vm) (h : Heap) (T : State) (locs : List Loc) (X : Stand p l e room_1 s m #[(.int fl), (.long e1), (.long e2), (.long e3), (.long f2), (.long f3)] below meth c T locs 0 0) (eT : T.heap = h) (N : Fr n0 locs) (K0 : Keep h0 h []) (O : Old Z n0 h) (BC : BoxC Z "java/lang/Long$LongCache" "[Ljava/lang/Long;" "java/lang/Long" "J" (fun i => .long (i.toInt32 - 128).toInt64))  :
    Goes p e s below (fun v h L => v = some (.int 1) ∧ Fr n0 L) room_1.cells room_1.slots (T.setTop (mkF m 155 #[sI_ fl, sJ_ e1, sS_, sJ_ e2, sS_, sJ_ e3, sS_, sJ_ f2, sS_, sJ_ f3, sS_, sI_ p1, sI_ hf1, sI_ p2, sI_ s2b, sI_ s2t, sI_ hf2, sI_ x2, sI_ p3, sI_ s3b, sI_ s3t, sI_ hf3, sU_, sU_, sU_, sU_, sU_, sU_, sU_, sU_, sU_, sU_, sU_, sU_, sU_, sU_, sU_, sU_, sU_, sU_, sU_, sU_, sU_, sU_, sU_, sU_, sU_, sU_, sU_, sU_, sU_, sU_] [])) := by
  have sz0 : n0 ≤ h.size := Nat.le_trans Z0 K0.1
  refine Goes.go (U' := (T.setTop (mkF m 160 #[sI_ fl, sJ_ e1, sS_, sJ_ e2, sS_, sJ_ e3, sS_, sJ_ f2, sS_, sJ_ f3, sS_, sI_ p1, sI_ hf1, sI_ p2, sI_ s2b, sI_ s2t, sI_ hf2, sI_ x2, sI_ p3, sI_ s3b, sI_ s3t, sI_ hf3, sU_, sU_, sU_, sU_, sU_, sU_, sU_, sU_, sU_, sU_, sU_, sU_, sU_, sU_, sU_, sU_, sU_, sU_, sU_, sU_, sU_, sU_, sU_, sU_, sU_, sU_, sU_, sU_, sU_, sU_] [(.int (fl &&& (2048 : Int32)))]))) (fun t kt => ?_) ?_
  · skip
    refine XS.iloadN X.here hx rfl (hb hby at_155) rfl ?_
    refine XS.sipush X.here hx rfl (hb hby at_156) ?_
    refine XS.iand X.here hx rfl (hb hby at_159) rfl ?_
    exact kt
  by_cases cc : (fl &&& (2048 : Int32)) = 0
  · -- (fl &&& (2048 : Int32)) = 0
    refine Goes.go (U' := (T.setTop (mkF m 170 #[sI_ fl, sJ_ e1, sS_, sJ_ e2, sS_, sJ_ e3, sS_, sJ_ f2, sS_, sJ_ f3, sS_, sI_ p1, sI_ hf1, sI_ p2, sI_ s2b, sI_ s2t, sI_ hf2, sI_ x2, sI_ p3, sI_ s3b, sI_ s3t, sI_ hf3, sI_ (0 : Int32), sU_, sU_, sU_, sU_, sU_, sU_, sU_, sU_, sU_, sU_, sU_, sU_, sU_, sU_, sU_, sU_, sU_, sU_, sU_, sU_, sU_, sU_, sU_, sU_, sU_, sU_, sU_, sU_, sU_] []))) (fun t kt => ?_) ?_
    · skip
      refine XS.ifYes X.here hx rfl (pc0 := 160) (pc' := 167) rfl (hb hby at_160) rfl (XT.i0_eq_t cc) (by decide) (by decide) ?_
      refine XS.iconst X.here hx rfl (hb hby at_167) ?_
      refine XS.istore X.here hx rfl (hb hby at_168) rfl (l' := #[sI_ fl, sJ_ e1, sS_, sJ_ e2, sS_, sJ_ e3, sS_, sJ_ f2, sS_, sJ_ f3, sS_, sI_ p1, sI_ hf1, sI_ p2, sI_ s2b, sI_ s2t, sI_ hf2, sI_ x2, sI_ p3, sI_ s3b, sI_ s3t, sI_ hf3, sI_ (0 : Int32), sU_, sU_, sU_, sU_, sU_, sU_, sU_, sU_, sU_, sU_, sU_, sU_, sU_, sU_, sU_, sU_, sU_, sU_, sU_, sU_, sU_, sU_, sU_, sU_, sU_, sU_, sU_, sU_, sU_]) rfl ?_
      exact kt
    exact law_170 l Z a0 hw fl e1 e2 e3 f2 f3 p1 hf1 p2 s2b s2t hf2 x2 p3 s3b s3t hf3 (0 : Int32) h0 n0 Z0 p e s m below meth c hx hby hml hown hnm hret hlk hZ _ _ _ X eT N K0 O BC 
  · -- not (fl &&& (2048 : Int32)) = 0
    refine Goes.go (U' := (T.setTop (mkF m 170 #[sI_ fl, sJ_ e1, sS_, sJ_ e2, sS_, sJ_ e3, sS_, sJ_ f2, sS_, sJ_ f3, sS_, sI_ p1, sI_ hf1, sI_ p2, sI_ s2b, sI_ s2t, sI_ hf2, sI_ x2, sI_ p3, sI_ s3b, sI_ s3t, sI_ hf3, sI_ (1 : Int32), sU_, sU_, sU_, sU_, sU_, sU_, sU_, sU_, sU_, sU_, sU_, sU_, sU_, sU_, sU_, sU_, sU_, sU_, sU_, sU_, sU_, sU_, sU_, sU_, sU_, sU_, sU_, sU_, sU_] []))) (fun t kt => ?_) ?_
    · skip
      refine XS.ifNo X.here hx rfl (hb hby at_160) rfl (XT.i0_eq_f cc) ?_
      refine XS.iconst X.here hx rfl (hb hby at_163) ?_
      refine XS.goto X.here hx rfl (pc0 := 164) (pc' := 168) rfl (hb hby at_164) (by decide) (by decide) ?_
      refine XS.istore X.here hx rfl (hb hby at_168) rfl (l' := #[sI_ fl, sJ_ e1, sS_, sJ_ e2, sS_, sJ_ e3, sS_, sJ_ f2, sS_, sJ_ f3, sS_, sI_ p1, sI_ hf1, sI_ p2, sI_ s2b, sI_ s2t, sI_ hf2, sI_ x2, sI_ p3, sI_ s3b, sI_ s3t, sI_ hf3, sI_ (1 : Int32), sU_, sU_, sU_, sU_, sU_, sU_, sU_, sU_, sU_, sU_, sU_, sU_, sU_, sU_, sU_, sU_, sU_, sU_, sU_, sU_, sU_, sU_, sU_, sU_, sU_, sU_, sU_, sU_, sU_]) rfl ?_
      exact kt
    exact law_170 l Z a0 hw fl e1 e2 e3 f2 f3 p1 hf1 p2 s2b s2t hf2 x2 p3 s3b s3t hf3 (1 : Int32) h0 n0 Z0 p e s m below meth c hx hby hml hown hnm hret hlk hZ _ _ _ X eT N K0 O BC 
set_option maxRecDepth 65536 in
set_option maxHeartbeats 40000000 in
theorem law_140 (l : Launch) (Z : State) (a0 : Array Value) (hw : ∀ d ∈ tables_1, d.before a0 Z = true) (fl : Int32) (e1 e2 e3 f2 f3 : Int64) (p1 : Int32) (hf1 : Int32) (p2 : Int32) (s2b : Int32) (s2t : Int32) (hf2 : Int32) (x2 : Int32) (p3 : Int32) (s3b : Int32) (s3t : Int32) (h0 : Heap) (n0 : Nat) (Z0 : n0 ≤ h0.size) (p : Program) (e : Env) (s : State) (m : MethodId) (below : List Frame) (meth : Method) (c : Code) (hx : p.tables.exec = Jvm.exec) (hby : c.code = code) (hml : c.maxLocals = maxLocals) (hown : s.vm.findClass "com/example/dead_letter_replay/deadletterreplay/queue/CarriesFloorPinLaw" = some m.cls) (hnm : meth.name = "law") (hret : meth.sig.returnType = ret) (hlk : meth.locks = false) (hZ : Z.Warmed39 s.vm) (h : Heap) (T : State) (locs : List Loc) (X : Stand p l e room_1 s m #[(.int fl), (.long e1), (.long e2), (.long e3), (.long f2), (.long f3)] below meth c T locs 0 0) (eT : T.heap = h) (N : Fr n0 locs) (K0 : Keep h0 h []) (O : Old Z n0 h) (BC : BoxC Z "java/lang/Long$LongCache" "[Ljava/lang/Long;" "java/lang/Long" "J" (fun i => .long (i.toInt32 - 128).toInt64))  :
    Goes p e s below (fun v h L => v = some (.int 1) ∧ Fr n0 L) room_1.cells room_1.slots (T.setTop (mkF m 140 #[sI_ fl, sJ_ e1, sS_, sJ_ e2, sS_, sJ_ e3, sS_, sJ_ f2, sS_, sJ_ f3, sS_, sI_ p1, sI_ hf1, sI_ p2, sI_ s2b, sI_ s2t, sI_ hf2, sI_ x2, sI_ p3, sI_ s3b, sI_ s3t, sU_, sU_, sU_, sU_, sU_, sU_, sU_, sU_, sU_, sU_, sU_, sU_, sU_, sU_, sU_, sU_, sU_, sU_, sU_, sU_, sU_, sU_, sU_, sU_, sU_, sU_, sU_, sU_, sU_, sU_, sU_] [])) := by
  have sz0 : n0 ≤ h.size := Nat.le_trans Z0 K0.1
  refine Goes.go (U' := (T.setTop (mkF m 145 #[sI_ fl, sJ_ e1, sS_, sJ_ e2, sS_, sJ_ e3, sS_, sJ_ f2, sS_, sJ_ f3, sS_, sI_ p1, sI_ hf1, sI_ p2, sI_ s2b, sI_ s2t, sI_ hf2, sI_ x2, sI_ p3, sI_ s3b, sI_ s3t, sU_, sU_, sU_, sU_, sU_, sU_, sU_, sU_, sU_, sU_, sU_, sU_, sU_, sU_, sU_, sU_, sU_, sU_, sU_, sU_, sU_, sU_, sU_, sU_, sU_, sU_, sU_, sU_, sU_, sU_, sU_] [(.int (fl &&& (1024 : Int32)))]))) (fun t kt => ?_) ?_
  · skip
    refine XS.iloadN X.here hx rfl (hb hby at_140) rfl ?_
    refine XS.sipush X.here hx rfl (hb hby at_141) ?_
    refine XS.iand X.here hx rfl (hb hby at_144) rfl ?_
    exact kt
  by_cases cc : (fl &&& (1024 : Int32)) = 0
  · -- (fl &&& (1024 : Int32)) = 0
    refine Goes.go (U' := (T.setTop (mkF m 155 #[sI_ fl, sJ_ e1, sS_, sJ_ e2, sS_, sJ_ e3, sS_, sJ_ f2, sS_, sJ_ f3, sS_, sI_ p1, sI_ hf1, sI_ p2, sI_ s2b, sI_ s2t, sI_ hf2, sI_ x2, sI_ p3, sI_ s3b, sI_ s3t, sI_ (0 : Int32), sU_, sU_, sU_, sU_, sU_, sU_, sU_, sU_, sU_, sU_, sU_, sU_, sU_, sU_, sU_, sU_, sU_, sU_, sU_, sU_, sU_, sU_, sU_, sU_, sU_, sU_, sU_, sU_, sU_, sU_] []))) (fun t kt => ?_) ?_
    · skip
      refine XS.ifYes X.here hx rfl (pc0 := 145) (pc' := 152) rfl (hb hby at_145) rfl (XT.i0_eq_t cc) (by decide) (by decide) ?_
      refine XS.iconst X.here hx rfl (hb hby at_152) ?_
      refine XS.istore X.here hx rfl (hb hby at_153) rfl (l' := #[sI_ fl, sJ_ e1, sS_, sJ_ e2, sS_, sJ_ e3, sS_, sJ_ f2, sS_, sJ_ f3, sS_, sI_ p1, sI_ hf1, sI_ p2, sI_ s2b, sI_ s2t, sI_ hf2, sI_ x2, sI_ p3, sI_ s3b, sI_ s3t, sI_ (0 : Int32), sU_, sU_, sU_, sU_, sU_, sU_, sU_, sU_, sU_, sU_, sU_, sU_, sU_, sU_, sU_, sU_, sU_, sU_, sU_, sU_, sU_, sU_, sU_, sU_, sU_, sU_, sU_, sU_, sU_, sU_]) rfl ?_
      exact kt
    exact law_155 l Z a0 hw fl e1 e2 e3 f2 f3 p1 hf1 p2 s2b s2t hf2 x2 p3 s3b s3t (0 : Int32) h0 n0 Z0 p e s m below meth c hx hby hml hown hnm hret hlk hZ _ _ _ X eT N K0 O BC 
  · -- not (fl &&& (1024 : Int32)) = 0
    refine Goes.go (U' := (T.setTop (mkF m 155 #[sI_ fl, sJ_ e1, sS_, sJ_ e2, sS_, sJ_ e3, sS_, sJ_ f2, sS_, sJ_ f3, sS_, sI_ p1, sI_ hf1, sI_ p2, sI_ s2b, sI_ s2t, sI_ hf2, sI_ x2, sI_ p3, sI_ s3b, sI_ s3t, sI_ (1 : Int32), sU_, sU_, sU_, sU_, sU_, sU_, sU_, sU_, sU_, sU_, sU_, sU_, sU_, sU_, sU_, sU_, sU_, sU_, sU_, sU_, sU_, sU_, sU_, sU_, sU_, sU_, sU_, sU_, sU_, sU_] []))) (fun t kt => ?_) ?_
    · skip
      refine XS.ifNo X.here hx rfl (hb hby at_145) rfl (XT.i0_eq_f cc) ?_
      refine XS.iconst X.here hx rfl (hb hby at_148) ?_
      refine XS.goto X.here hx rfl (pc0 := 149) (pc' := 153) rfl (hb hby at_149) (by decide) (by decide) ?_
      refine XS.istore X.here hx rfl (hb hby at_153) rfl (l' := #[sI_ fl, sJ_ e1, sS_, sJ_ e2, sS_, sJ_ e3, sS_, sJ_ f2, sS_, sJ_ f3, sS_, sI_ p1, sI_ hf1, sI_ p2, sI_ s2b, sI_ s2t, sI_ hf2, sI_ x2, sI_ p3, sI_ s3b, sI_ s3t, sI_ (1 : Int32), sU_, sU_, sU_, sU_, sU_, sU_, sU_, sU_, sU_, sU_, sU_, sU_, sU_, sU_, sU_, sU_, sU_, sU_, sU_, sU_, sU_, sU_, sU_, sU_, sU_, sU_, sU_, sU_, sU_, sU_]) rfl ?_
      exact kt
    exact law_155 l Z a0 hw fl e1 e2 e3 f2 f3 p1 hf1 p2 s2b s2t hf2 x2 p3 s3b s3t (1 : Int32) h0 n0 Z0 p e s m below meth c hx hby hml hown hnm hret hlk hZ _ _ _ X eT N K0 O BC 
set_option maxRecDepth 65536 in
set_option maxHeartbeats 40000000 in
theorem law_125 (l : Launch) (Z : State) (a0 : Array Value) (hw : ∀ d ∈ tables_1, d.before a0 Z = true) (fl : Int32) (e1 e2 e3 f2 f3 : Int64) (p1 : Int32) (hf1 : Int32) (p2 : Int32) (s2b : Int32) (s2t : Int32) (hf2 : Int32) (x2 : Int32) (p3 : Int32) (s3b : Int32) (h0 : Heap) (n0 : Nat) (Z0 : n0 ≤ h0.size) (p : Program) (e : Env) (s : State) (m : MethodId) (below : List Frame) (meth : Method) (c : Code) (hx : p.tables.exec = Jvm.exec) (hby : c.code = code) (hml : c.maxLocals = maxLocals) (hown : s.vm.findClass "com/example/dead_letter_replay/deadletterreplay/queue/CarriesFloorPinLaw" = some m.cls) (hnm : meth.name = "law") (hret : meth.sig.returnType = ret) (hlk : meth.locks = false) (hZ : Z.Warmed39 s.vm) (h : Heap) (T : State) (locs : List Loc) (X : Stand p l e room_1 s m #[(.int fl), (.long e1), (.long e2), (.long e3), (.long f2), (.long f3)] below meth c T locs 0 0) (eT : T.heap = h) (N : Fr n0 locs) (K0 : Keep h0 h []) (O : Old Z n0 h) (BC : BoxC Z "java/lang/Long$LongCache" "[Ljava/lang/Long;" "java/lang/Long" "J" (fun i => .long (i.toInt32 - 128).toInt64))  :
    Goes p e s below (fun v h L => v = some (.int 1) ∧ Fr n0 L) room_1.cells room_1.slots (T.setTop (mkF m 125 #[sI_ fl, sJ_ e1, sS_, sJ_ e2, sS_, sJ_ e3, sS_, sJ_ f2, sS_, sJ_ f3, sS_, sI_ p1, sI_ hf1, sI_ p2, sI_ s2b, sI_ s2t, sI_ hf2, sI_ x2, sI_ p3, sI_ s3b, sU_, sU_, sU_, sU_, sU_, sU_, sU_, sU_, sU_, sU_, sU_, sU_, sU_, sU_, sU_, sU_, sU_, sU_, sU_, sU_, sU_, sU_, sU_, sU_, sU_, sU_, sU_, sU_, sU_, sU_, sU_, sU_] [])) := by
  have sz0 : n0 ≤ h.size := Nat.le_trans Z0 K0.1
  refine Goes.go (U' := (T.setTop (mkF m 130 #[sI_ fl, sJ_ e1, sS_, sJ_ e2, sS_, sJ_ e3, sS_, sJ_ f2, sS_, sJ_ f3, sS_, sI_ p1, sI_ hf1, sI_ p2, sI_ s2b, sI_ s2t, sI_ hf2, sI_ x2, sI_ p3, sI_ s3b, sU_, sU_, sU_, sU_, sU_, sU_, sU_, sU_, sU_, sU_, sU_, sU_, sU_, sU_, sU_, sU_, sU_, sU_, sU_, sU_, sU_, sU_, sU_, sU_, sU_, sU_, sU_, sU_, sU_, sU_, sU_, sU_] [(.int (fl &&& (512 : Int32)))]))) (fun t kt => ?_) ?_
  · skip
    refine XS.iloadN X.here hx rfl (hb hby at_125) rfl ?_
    refine XS.sipush X.here hx rfl (hb hby at_126) ?_
    refine XS.iand X.here hx rfl (hb hby at_129) rfl ?_
    exact kt
  by_cases cc : (fl &&& (512 : Int32)) = 0
  · -- (fl &&& (512 : Int32)) = 0
    refine Goes.go (U' := (T.setTop (mkF m 140 #[sI_ fl, sJ_ e1, sS_, sJ_ e2, sS_, sJ_ e3, sS_, sJ_ f2, sS_, sJ_ f3, sS_, sI_ p1, sI_ hf1, sI_ p2, sI_ s2b, sI_ s2t, sI_ hf2, sI_ x2, sI_ p3, sI_ s3b, sI_ (0 : Int32), sU_, sU_, sU_, sU_, sU_, sU_, sU_, sU_, sU_, sU_, sU_, sU_, sU_, sU_, sU_, sU_, sU_, sU_, sU_, sU_, sU_, sU_, sU_, sU_, sU_, sU_, sU_, sU_, sU_, sU_, sU_] []))) (fun t kt => ?_) ?_
    · skip
      refine XS.ifYes X.here hx rfl (pc0 := 130) (pc' := 137) rfl (hb hby at_130) rfl (XT.i0_eq_t cc) (by decide) (by decide) ?_
      refine XS.iconst X.here hx rfl (hb hby at_137) ?_
      refine XS.istore X.here hx rfl (hb hby at_138) rfl (l' := #[sI_ fl, sJ_ e1, sS_, sJ_ e2, sS_, sJ_ e3, sS_, sJ_ f2, sS_, sJ_ f3, sS_, sI_ p1, sI_ hf1, sI_ p2, sI_ s2b, sI_ s2t, sI_ hf2, sI_ x2, sI_ p3, sI_ s3b, sI_ (0 : Int32), sU_, sU_, sU_, sU_, sU_, sU_, sU_, sU_, sU_, sU_, sU_, sU_, sU_, sU_, sU_, sU_, sU_, sU_, sU_, sU_, sU_, sU_, sU_, sU_, sU_, sU_, sU_, sU_, sU_, sU_, sU_]) rfl ?_
      exact kt
    exact law_140 l Z a0 hw fl e1 e2 e3 f2 f3 p1 hf1 p2 s2b s2t hf2 x2 p3 s3b (0 : Int32) h0 n0 Z0 p e s m below meth c hx hby hml hown hnm hret hlk hZ _ _ _ X eT N K0 O BC 
  · -- not (fl &&& (512 : Int32)) = 0
    refine Goes.go (U' := (T.setTop (mkF m 140 #[sI_ fl, sJ_ e1, sS_, sJ_ e2, sS_, sJ_ e3, sS_, sJ_ f2, sS_, sJ_ f3, sS_, sI_ p1, sI_ hf1, sI_ p2, sI_ s2b, sI_ s2t, sI_ hf2, sI_ x2, sI_ p3, sI_ s3b, sI_ (1 : Int32), sU_, sU_, sU_, sU_, sU_, sU_, sU_, sU_, sU_, sU_, sU_, sU_, sU_, sU_, sU_, sU_, sU_, sU_, sU_, sU_, sU_, sU_, sU_, sU_, sU_, sU_, sU_, sU_, sU_, sU_, sU_] []))) (fun t kt => ?_) ?_
    · skip
      refine XS.ifNo X.here hx rfl (hb hby at_130) rfl (XT.i0_eq_f cc) ?_
      refine XS.iconst X.here hx rfl (hb hby at_133) ?_
      refine XS.goto X.here hx rfl (pc0 := 134) (pc' := 138) rfl (hb hby at_134) (by decide) (by decide) ?_
      refine XS.istore X.here hx rfl (hb hby at_138) rfl (l' := #[sI_ fl, sJ_ e1, sS_, sJ_ e2, sS_, sJ_ e3, sS_, sJ_ f2, sS_, sJ_ f3, sS_, sI_ p1, sI_ hf1, sI_ p2, sI_ s2b, sI_ s2t, sI_ hf2, sI_ x2, sI_ p3, sI_ s3b, sI_ (1 : Int32), sU_, sU_, sU_, sU_, sU_, sU_, sU_, sU_, sU_, sU_, sU_, sU_, sU_, sU_, sU_, sU_, sU_, sU_, sU_, sU_, sU_, sU_, sU_, sU_, sU_, sU_, sU_, sU_, sU_, sU_, sU_]) rfl ?_
      exact kt
    exact law_140 l Z a0 hw fl e1 e2 e3 f2 f3 p1 hf1 p2 s2b s2t hf2 x2 p3 s3b (1 : Int32) h0 n0 Z0 p e s m below meth c hx hby hml hown hnm hret hlk hZ _ _ _ X eT N K0 O BC 
set_option maxRecDepth 65536 in
set_option maxHeartbeats 40000000 in
theorem law_110 (l : Launch) (Z : State) (a0 : Array Value) (hw : ∀ d ∈ tables_1, d.before a0 Z = true) (fl : Int32) (e1 e2 e3 f2 f3 : Int64) (p1 : Int32) (hf1 : Int32) (p2 : Int32) (s2b : Int32) (s2t : Int32) (hf2 : Int32) (x2 : Int32) (p3 : Int32) (h0 : Heap) (n0 : Nat) (Z0 : n0 ≤ h0.size) (p : Program) (e : Env) (s : State) (m : MethodId) (below : List Frame) (meth : Method) (c : Code) (hx : p.tables.exec = Jvm.exec) (hby : c.code = code) (hml : c.maxLocals = maxLocals) (hown : s.vm.findClass "com/example/dead_letter_replay/deadletterreplay/queue/CarriesFloorPinLaw" = some m.cls) (hnm : meth.name = "law") (hret : meth.sig.returnType = ret) (hlk : meth.locks = false) (hZ : Z.Warmed39 s.vm) (h : Heap) (T : State) (locs : List Loc) (X : Stand p l e room_1 s m #[(.int fl), (.long e1), (.long e2), (.long e3), (.long f2), (.long f3)] below meth c T locs 0 0) (eT : T.heap = h) (N : Fr n0 locs) (K0 : Keep h0 h []) (O : Old Z n0 h) (BC : BoxC Z "java/lang/Long$LongCache" "[Ljava/lang/Long;" "java/lang/Long" "J" (fun i => .long (i.toInt32 - 128).toInt64))  :
    Goes p e s below (fun v h L => v = some (.int 1) ∧ Fr n0 L) room_1.cells room_1.slots (T.setTop (mkF m 110 #[sI_ fl, sJ_ e1, sS_, sJ_ e2, sS_, sJ_ e3, sS_, sJ_ f2, sS_, sJ_ f3, sS_, sI_ p1, sI_ hf1, sI_ p2, sI_ s2b, sI_ s2t, sI_ hf2, sI_ x2, sI_ p3, sU_, sU_, sU_, sU_, sU_, sU_, sU_, sU_, sU_, sU_, sU_, sU_, sU_, sU_, sU_, sU_, sU_, sU_, sU_, sU_, sU_, sU_, sU_, sU_, sU_, sU_, sU_, sU_, sU_, sU_, sU_, sU_, sU_] [])) := by
  have sz0 : n0 ≤ h.size := Nat.le_trans Z0 K0.1
  refine Goes.go (U' := (T.setTop (mkF m 115 #[sI_ fl, sJ_ e1, sS_, sJ_ e2, sS_, sJ_ e3, sS_, sJ_ f2, sS_, sJ_ f3, sS_, sI_ p1, sI_ hf1, sI_ p2, sI_ s2b, sI_ s2t, sI_ hf2, sI_ x2, sI_ p3, sU_, sU_, sU_, sU_, sU_, sU_, sU_, sU_, sU_, sU_, sU_, sU_, sU_, sU_, sU_, sU_, sU_, sU_, sU_, sU_, sU_, sU_, sU_, sU_, sU_, sU_, sU_, sU_, sU_, sU_, sU_, sU_, sU_] [(.int (fl &&& (256 : Int32)))]))) (fun t kt => ?_) ?_
  · skip
    refine XS.iloadN X.here hx rfl (hb hby at_110) rfl ?_
    refine XS.sipush X.here hx rfl (hb hby at_111) ?_
    refine XS.iand X.here hx rfl (hb hby at_114) rfl ?_
    exact kt
  by_cases cc : (fl &&& (256 : Int32)) = 0
  · -- (fl &&& (256 : Int32)) = 0
    refine Goes.go (U' := (T.setTop (mkF m 125 #[sI_ fl, sJ_ e1, sS_, sJ_ e2, sS_, sJ_ e3, sS_, sJ_ f2, sS_, sJ_ f3, sS_, sI_ p1, sI_ hf1, sI_ p2, sI_ s2b, sI_ s2t, sI_ hf2, sI_ x2, sI_ p3, sI_ (0 : Int32), sU_, sU_, sU_, sU_, sU_, sU_, sU_, sU_, sU_, sU_, sU_, sU_, sU_, sU_, sU_, sU_, sU_, sU_, sU_, sU_, sU_, sU_, sU_, sU_, sU_, sU_, sU_, sU_, sU_, sU_, sU_, sU_] []))) (fun t kt => ?_) ?_
    · skip
      refine XS.ifYes X.here hx rfl (pc0 := 115) (pc' := 122) rfl (hb hby at_115) rfl (XT.i0_eq_t cc) (by decide) (by decide) ?_
      refine XS.iconst X.here hx rfl (hb hby at_122) ?_
      refine XS.istore X.here hx rfl (hb hby at_123) rfl (l' := #[sI_ fl, sJ_ e1, sS_, sJ_ e2, sS_, sJ_ e3, sS_, sJ_ f2, sS_, sJ_ f3, sS_, sI_ p1, sI_ hf1, sI_ p2, sI_ s2b, sI_ s2t, sI_ hf2, sI_ x2, sI_ p3, sI_ (0 : Int32), sU_, sU_, sU_, sU_, sU_, sU_, sU_, sU_, sU_, sU_, sU_, sU_, sU_, sU_, sU_, sU_, sU_, sU_, sU_, sU_, sU_, sU_, sU_, sU_, sU_, sU_, sU_, sU_, sU_, sU_, sU_, sU_]) rfl ?_
      exact kt
    exact law_125 l Z a0 hw fl e1 e2 e3 f2 f3 p1 hf1 p2 s2b s2t hf2 x2 p3 (0 : Int32) h0 n0 Z0 p e s m below meth c hx hby hml hown hnm hret hlk hZ _ _ _ X eT N K0 O BC 
  · -- not (fl &&& (256 : Int32)) = 0
    refine Goes.go (U' := (T.setTop (mkF m 125 #[sI_ fl, sJ_ e1, sS_, sJ_ e2, sS_, sJ_ e3, sS_, sJ_ f2, sS_, sJ_ f3, sS_, sI_ p1, sI_ hf1, sI_ p2, sI_ s2b, sI_ s2t, sI_ hf2, sI_ x2, sI_ p3, sI_ (1 : Int32), sU_, sU_, sU_, sU_, sU_, sU_, sU_, sU_, sU_, sU_, sU_, sU_, sU_, sU_, sU_, sU_, sU_, sU_, sU_, sU_, sU_, sU_, sU_, sU_, sU_, sU_, sU_, sU_, sU_, sU_, sU_, sU_] []))) (fun t kt => ?_) ?_
    · skip
      refine XS.ifNo X.here hx rfl (hb hby at_115) rfl (XT.i0_eq_f cc) ?_
      refine XS.iconst X.here hx rfl (hb hby at_118) ?_
      refine XS.goto X.here hx rfl (pc0 := 119) (pc' := 123) rfl (hb hby at_119) (by decide) (by decide) ?_
      refine XS.istore X.here hx rfl (hb hby at_123) rfl (l' := #[sI_ fl, sJ_ e1, sS_, sJ_ e2, sS_, sJ_ e3, sS_, sJ_ f2, sS_, sJ_ f3, sS_, sI_ p1, sI_ hf1, sI_ p2, sI_ s2b, sI_ s2t, sI_ hf2, sI_ x2, sI_ p3, sI_ (1 : Int32), sU_, sU_, sU_, sU_, sU_, sU_, sU_, sU_, sU_, sU_, sU_, sU_, sU_, sU_, sU_, sU_, sU_, sU_, sU_, sU_, sU_, sU_, sU_, sU_, sU_, sU_, sU_, sU_, sU_, sU_, sU_, sU_]) rfl ?_
      exact kt
    exact law_125 l Z a0 hw fl e1 e2 e3 f2 f3 p1 hf1 p2 s2b s2t hf2 x2 p3 (1 : Int32) h0 n0 Z0 p e s m below meth c hx hby hml hown hnm hret hlk hZ _ _ _ X eT N K0 O BC 
set_option maxRecDepth 65536 in
set_option maxHeartbeats 40000000 in
theorem law_95 (l : Launch) (Z : State) (a0 : Array Value) (hw : ∀ d ∈ tables_1, d.before a0 Z = true) (fl : Int32) (e1 e2 e3 f2 f3 : Int64) (p1 : Int32) (hf1 : Int32) (p2 : Int32) (s2b : Int32) (s2t : Int32) (hf2 : Int32) (x2 : Int32) (h0 : Heap) (n0 : Nat) (Z0 : n0 ≤ h0.size) (p : Program) (e : Env) (s : State) (m : MethodId) (below : List Frame) (meth : Method) (c : Code) (hx : p.tables.exec = Jvm.exec) (hby : c.code = code) (hml : c.maxLocals = maxLocals) (hown : s.vm.findClass "com/example/dead_letter_replay/deadletterreplay/queue/CarriesFloorPinLaw" = some m.cls) (hnm : meth.name = "law") (hret : meth.sig.returnType = ret) (hlk : meth.locks = false) (hZ : Z.Warmed39 s.vm) (h : Heap) (T : State) (locs : List Loc) (X : Stand p l e room_1 s m #[(.int fl), (.long e1), (.long e2), (.long e3), (.long f2), (.long f3)] below meth c T locs 0 0) (eT : T.heap = h) (N : Fr n0 locs) (K0 : Keep h0 h []) (O : Old Z n0 h) (BC : BoxC Z "java/lang/Long$LongCache" "[Ljava/lang/Long;" "java/lang/Long" "J" (fun i => .long (i.toInt32 - 128).toInt64))  :
    Goes p e s below (fun v h L => v = some (.int 1) ∧ Fr n0 L) room_1.cells room_1.slots (T.setTop (mkF m 95 #[sI_ fl, sJ_ e1, sS_, sJ_ e2, sS_, sJ_ e3, sS_, sJ_ f2, sS_, sJ_ f3, sS_, sI_ p1, sI_ hf1, sI_ p2, sI_ s2b, sI_ s2t, sI_ hf2, sI_ x2, sU_, sU_, sU_, sU_, sU_, sU_, sU_, sU_, sU_, sU_, sU_, sU_, sU_, sU_, sU_, sU_, sU_, sU_, sU_, sU_, sU_, sU_, sU_, sU_, sU_, sU_, sU_, sU_, sU_, sU_, sU_, sU_, sU_, sU_] [])) := by
  have sz0 : n0 ≤ h.size := Nat.le_trans Z0 K0.1
  refine Goes.go (U' := (T.setTop (mkF m 100 #[sI_ fl, sJ_ e1, sS_, sJ_ e2, sS_, sJ_ e3, sS_, sJ_ f2, sS_, sJ_ f3, sS_, sI_ p1, sI_ hf1, sI_ p2, sI_ s2b, sI_ s2t, sI_ hf2, sI_ x2, sU_, sU_, sU_, sU_, sU_, sU_, sU_, sU_, sU_, sU_, sU_, sU_, sU_, sU_, sU_, sU_, sU_, sU_, sU_, sU_, sU_, sU_, sU_, sU_, sU_, sU_, sU_, sU_, sU_, sU_, sU_, sU_, sU_, sU_] [(.int (fl &&& (128 : Int32)))]))) (fun t kt => ?_) ?_
  · skip
    refine XS.iloadN X.here hx rfl (hb hby at_95) rfl ?_
    refine XS.sipush X.here hx rfl (hb hby at_96) ?_
    refine XS.iand X.here hx rfl (hb hby at_99) rfl ?_
    exact kt
  by_cases cc : (fl &&& (128 : Int32)) = 0
  · -- (fl &&& (128 : Int32)) = 0
    refine Goes.go (U' := (T.setTop (mkF m 110 #[sI_ fl, sJ_ e1, sS_, sJ_ e2, sS_, sJ_ e3, sS_, sJ_ f2, sS_, sJ_ f3, sS_, sI_ p1, sI_ hf1, sI_ p2, sI_ s2b, sI_ s2t, sI_ hf2, sI_ x2, sI_ (0 : Int32), sU_, sU_, sU_, sU_, sU_, sU_, sU_, sU_, sU_, sU_, sU_, sU_, sU_, sU_, sU_, sU_, sU_, sU_, sU_, sU_, sU_, sU_, sU_, sU_, sU_, sU_, sU_, sU_, sU_, sU_, sU_, sU_, sU_] []))) (fun t kt => ?_) ?_
    · skip
      refine XS.ifYes X.here hx rfl (pc0 := 100) (pc' := 107) rfl (hb hby at_100) rfl (XT.i0_eq_t cc) (by decide) (by decide) ?_
      refine XS.iconst X.here hx rfl (hb hby at_107) ?_
      refine XS.istore X.here hx rfl (hb hby at_108) rfl (l' := #[sI_ fl, sJ_ e1, sS_, sJ_ e2, sS_, sJ_ e3, sS_, sJ_ f2, sS_, sJ_ f3, sS_, sI_ p1, sI_ hf1, sI_ p2, sI_ s2b, sI_ s2t, sI_ hf2, sI_ x2, sI_ (0 : Int32), sU_, sU_, sU_, sU_, sU_, sU_, sU_, sU_, sU_, sU_, sU_, sU_, sU_, sU_, sU_, sU_, sU_, sU_, sU_, sU_, sU_, sU_, sU_, sU_, sU_, sU_, sU_, sU_, sU_, sU_, sU_, sU_, sU_]) rfl ?_
      exact kt
    exact law_110 l Z a0 hw fl e1 e2 e3 f2 f3 p1 hf1 p2 s2b s2t hf2 x2 (0 : Int32) h0 n0 Z0 p e s m below meth c hx hby hml hown hnm hret hlk hZ _ _ _ X eT N K0 O BC 
  · -- not (fl &&& (128 : Int32)) = 0
    refine Goes.go (U' := (T.setTop (mkF m 110 #[sI_ fl, sJ_ e1, sS_, sJ_ e2, sS_, sJ_ e3, sS_, sJ_ f2, sS_, sJ_ f3, sS_, sI_ p1, sI_ hf1, sI_ p2, sI_ s2b, sI_ s2t, sI_ hf2, sI_ x2, sI_ (1 : Int32), sU_, sU_, sU_, sU_, sU_, sU_, sU_, sU_, sU_, sU_, sU_, sU_, sU_, sU_, sU_, sU_, sU_, sU_, sU_, sU_, sU_, sU_, sU_, sU_, sU_, sU_, sU_, sU_, sU_, sU_, sU_, sU_, sU_] []))) (fun t kt => ?_) ?_
    · skip
      refine XS.ifNo X.here hx rfl (hb hby at_100) rfl (XT.i0_eq_f cc) ?_
      refine XS.iconst X.here hx rfl (hb hby at_103) ?_
      refine XS.goto X.here hx rfl (pc0 := 104) (pc' := 108) rfl (hb hby at_104) (by decide) (by decide) ?_
      refine XS.istore X.here hx rfl (hb hby at_108) rfl (l' := #[sI_ fl, sJ_ e1, sS_, sJ_ e2, sS_, sJ_ e3, sS_, sJ_ f2, sS_, sJ_ f3, sS_, sI_ p1, sI_ hf1, sI_ p2, sI_ s2b, sI_ s2t, sI_ hf2, sI_ x2, sI_ (1 : Int32), sU_, sU_, sU_, sU_, sU_, sU_, sU_, sU_, sU_, sU_, sU_, sU_, sU_, sU_, sU_, sU_, sU_, sU_, sU_, sU_, sU_, sU_, sU_, sU_, sU_, sU_, sU_, sU_, sU_, sU_, sU_, sU_, sU_]) rfl ?_
      exact kt
    exact law_110 l Z a0 hw fl e1 e2 e3 f2 f3 p1 hf1 p2 s2b s2t hf2 x2 (1 : Int32) h0 n0 Z0 p e s m below meth c hx hby hml hown hnm hret hlk hZ _ _ _ X eT N K0 O BC 
set_option maxRecDepth 65536 in
set_option maxHeartbeats 40000000 in
theorem law_81 (l : Launch) (Z : State) (a0 : Array Value) (hw : ∀ d ∈ tables_1, d.before a0 Z = true) (fl : Int32) (e1 e2 e3 f2 f3 : Int64) (p1 : Int32) (hf1 : Int32) (p2 : Int32) (s2b : Int32) (s2t : Int32) (hf2 : Int32) (h0 : Heap) (n0 : Nat) (Z0 : n0 ≤ h0.size) (p : Program) (e : Env) (s : State) (m : MethodId) (below : List Frame) (meth : Method) (c : Code) (hx : p.tables.exec = Jvm.exec) (hby : c.code = code) (hml : c.maxLocals = maxLocals) (hown : s.vm.findClass "com/example/dead_letter_replay/deadletterreplay/queue/CarriesFloorPinLaw" = some m.cls) (hnm : meth.name = "law") (hret : meth.sig.returnType = ret) (hlk : meth.locks = false) (hZ : Z.Warmed39 s.vm) (h : Heap) (T : State) (locs : List Loc) (X : Stand p l e room_1 s m #[(.int fl), (.long e1), (.long e2), (.long e3), (.long f2), (.long f3)] below meth c T locs 0 0) (eT : T.heap = h) (N : Fr n0 locs) (K0 : Keep h0 h []) (O : Old Z n0 h) (BC : BoxC Z "java/lang/Long$LongCache" "[Ljava/lang/Long;" "java/lang/Long" "J" (fun i => .long (i.toInt32 - 128).toInt64))  :
    Goes p e s below (fun v h L => v = some (.int 1) ∧ Fr n0 L) room_1.cells room_1.slots (T.setTop (mkF m 81 #[sI_ fl, sJ_ e1, sS_, sJ_ e2, sS_, sJ_ e3, sS_, sJ_ f2, sS_, sJ_ f3, sS_, sI_ p1, sI_ hf1, sI_ p2, sI_ s2b, sI_ s2t, sI_ hf2, sU_, sU_, sU_, sU_, sU_, sU_, sU_, sU_, sU_, sU_, sU_, sU_, sU_, sU_, sU_, sU_, sU_, sU_, sU_, sU_, sU_, sU_, sU_, sU_, sU_, sU_, sU_, sU_, sU_, sU_, sU_, sU_, sU_, sU_, sU_] [])) := by
  have sz0 : n0 ≤ h.size := Nat.le_trans Z0 K0.1
  refine Goes.go (U' := (T.setTop (mkF m 85 #[sI_ fl, sJ_ e1, sS_, sJ_ e2, sS_, sJ_ e3, sS_, sJ_ f2, sS_, sJ_ f3, sS_, sI_ p1, sI_ hf1, sI_ p2, sI_ s2b, sI_ s2t, sI_ hf2, sU_, sU_, sU_, sU_, sU_, sU_, sU_, sU_, sU_, sU_, sU_, sU_, sU_, sU_, sU_, sU_, sU_, sU_, sU_, sU_, sU_, sU_, sU_, sU_, sU_, sU_, sU_, sU_, sU_, sU_, sU_, sU_, sU_, sU_, sU_] [(.int (fl &&& (64 : Int32)))]))) (fun t kt => ?_) ?_
  · skip
    refine XS.iloadN X.here hx rfl (hb hby at_81) rfl ?_
    refine XS.bipush X.here hx rfl (hb hby at_82) ?_
    refine XS.iand X.here hx rfl (hb hby at_84) rfl ?_
    exact kt
  by_cases cc : (fl &&& (64 : Int32)) = 0
  · -- (fl &&& (64 : Int32)) = 0
    refine Goes.go (U' := (T.setTop (mkF m 95 #[sI_ fl, sJ_ e1, sS_, sJ_ e2, sS_, sJ_ e3, sS_, sJ_ f2, sS_, sJ_ f3, sS_, sI_ p1, sI_ hf1, sI_ p2, sI_ s2b, sI_ s2t, sI_ hf2, sI_ (0 : Int32), sU_, sU_, sU_, sU_, sU_, sU_, sU_, sU_, sU_, sU_, sU_, sU_, sU_, sU_, sU_, sU_, sU_, sU_, sU_, sU_, sU_, sU_, sU_, sU_, sU_, sU_, sU_, sU_, sU_, sU_, sU_, sU_, sU_, sU_] []))) (fun t kt => ?_) ?_
    · skip
      refine XS.ifYes X.here hx rfl (pc0 := 85) (pc' := 92) rfl (hb hby at_85) rfl (XT.i0_eq_t cc) (by decide) (by decide) ?_
      refine XS.iconst X.here hx rfl (hb hby at_92) ?_
      refine XS.istore X.here hx rfl (hb hby at_93) rfl (l' := #[sI_ fl, sJ_ e1, sS_, sJ_ e2, sS_, sJ_ e3, sS_, sJ_ f2, sS_, sJ_ f3, sS_, sI_ p1, sI_ hf1, sI_ p2, sI_ s2b, sI_ s2t, sI_ hf2, sI_ (0 : Int32), sU_, sU_, sU_, sU_, sU_, sU_, sU_, sU_, sU_, sU_, sU_, sU_, sU_, sU_, sU_, sU_, sU_, sU_, sU_, sU_, sU_, sU_, sU_, sU_, sU_, sU_, sU_, sU_, sU_, sU_, sU_, sU_, sU_, sU_]) rfl ?_
      exact kt
    exact law_95 l Z a0 hw fl e1 e2 e3 f2 f3 p1 hf1 p2 s2b s2t hf2 (0 : Int32) h0 n0 Z0 p e s m below meth c hx hby hml hown hnm hret hlk hZ _ _ _ X eT N K0 O BC 
  · -- not (fl &&& (64 : Int32)) = 0
    refine Goes.go (U' := (T.setTop (mkF m 95 #[sI_ fl, sJ_ e1, sS_, sJ_ e2, sS_, sJ_ e3, sS_, sJ_ f2, sS_, sJ_ f3, sS_, sI_ p1, sI_ hf1, sI_ p2, sI_ s2b, sI_ s2t, sI_ hf2, sI_ (1 : Int32), sU_, sU_, sU_, sU_, sU_, sU_, sU_, sU_, sU_, sU_, sU_, sU_, sU_, sU_, sU_, sU_, sU_, sU_, sU_, sU_, sU_, sU_, sU_, sU_, sU_, sU_, sU_, sU_, sU_, sU_, sU_, sU_, sU_, sU_] []))) (fun t kt => ?_) ?_
    · skip
      refine XS.ifNo X.here hx rfl (hb hby at_85) rfl (XT.i0_eq_f cc) ?_
      refine XS.iconst X.here hx rfl (hb hby at_88) ?_
      refine XS.goto X.here hx rfl (pc0 := 89) (pc' := 93) rfl (hb hby at_89) (by decide) (by decide) ?_
      refine XS.istore X.here hx rfl (hb hby at_93) rfl (l' := #[sI_ fl, sJ_ e1, sS_, sJ_ e2, sS_, sJ_ e3, sS_, sJ_ f2, sS_, sJ_ f3, sS_, sI_ p1, sI_ hf1, sI_ p2, sI_ s2b, sI_ s2t, sI_ hf2, sI_ (1 : Int32), sU_, sU_, sU_, sU_, sU_, sU_, sU_, sU_, sU_, sU_, sU_, sU_, sU_, sU_, sU_, sU_, sU_, sU_, sU_, sU_, sU_, sU_, sU_, sU_, sU_, sU_, sU_, sU_, sU_, sU_, sU_, sU_, sU_, sU_]) rfl ?_
      exact kt
    exact law_95 l Z a0 hw fl e1 e2 e3 f2 f3 p1 hf1 p2 s2b s2t hf2 (1 : Int32) h0 n0 Z0 p e s m below meth c hx hby hml hown hnm hret hlk hZ _ _ _ X eT N K0 O BC 
set_option maxRecDepth 65536 in
set_option maxHeartbeats 40000000 in
theorem law_67 (l : Launch) (Z : State) (a0 : Array Value) (hw : ∀ d ∈ tables_1, d.before a0 Z = true) (fl : Int32) (e1 e2 e3 f2 f3 : Int64) (p1 : Int32) (hf1 : Int32) (p2 : Int32) (s2b : Int32) (s2t : Int32) (h0 : Heap) (n0 : Nat) (Z0 : n0 ≤ h0.size) (p : Program) (e : Env) (s : State) (m : MethodId) (below : List Frame) (meth : Method) (c : Code) (hx : p.tables.exec = Jvm.exec) (hby : c.code = code) (hml : c.maxLocals = maxLocals) (hown : s.vm.findClass "com/example/dead_letter_replay/deadletterreplay/queue/CarriesFloorPinLaw" = some m.cls) (hnm : meth.name = "law") (hret : meth.sig.returnType = ret) (hlk : meth.locks = false) (hZ : Z.Warmed39 s.vm) (h : Heap) (T : State) (locs : List Loc) (X : Stand p l e room_1 s m #[(.int fl), (.long e1), (.long e2), (.long e3), (.long f2), (.long f3)] below meth c T locs 0 0) (eT : T.heap = h) (N : Fr n0 locs) (K0 : Keep h0 h []) (O : Old Z n0 h) (BC : BoxC Z "java/lang/Long$LongCache" "[Ljava/lang/Long;" "java/lang/Long" "J" (fun i => .long (i.toInt32 - 128).toInt64))  :
    Goes p e s below (fun v h L => v = some (.int 1) ∧ Fr n0 L) room_1.cells room_1.slots (T.setTop (mkF m 67 #[sI_ fl, sJ_ e1, sS_, sJ_ e2, sS_, sJ_ e3, sS_, sJ_ f2, sS_, sJ_ f3, sS_, sI_ p1, sI_ hf1, sI_ p2, sI_ s2b, sI_ s2t, sU_, sU_, sU_, sU_, sU_, sU_, sU_, sU_, sU_, sU_, sU_, sU_, sU_, sU_, sU_, sU_, sU_, sU_, sU_, sU_, sU_, sU_, sU_, sU_, sU_, sU_, sU_, sU_, sU_, sU_, sU_, sU_, sU_, sU_, sU_, sU_] [])) := by
  have sz0 : n0 ≤ h.size := Nat.le_trans Z0 K0.1
  refine Goes.go (U' := (T.setTop (mkF m 71 #[sI_ fl, sJ_ e1, sS_, sJ_ e2, sS_, sJ_ e3, sS_, sJ_ f2, sS_, sJ_ f3, sS_, sI_ p1, sI_ hf1, sI_ p2, sI_ s2b, sI_ s2t, sU_, sU_, sU_, sU_, sU_, sU_, sU_, sU_, sU_, sU_, sU_, sU_, sU_, sU_, sU_, sU_, sU_, sU_, sU_, sU_, sU_, sU_, sU_, sU_, sU_, sU_, sU_, sU_, sU_, sU_, sU_, sU_, sU_, sU_, sU_, sU_] [(.int (fl &&& (32 : Int32)))]))) (fun t kt => ?_) ?_
  · skip
    refine XS.iloadN X.here hx rfl (hb hby at_67) rfl ?_
    refine XS.bipush X.here hx rfl (hb hby at_68) ?_
    refine XS.iand X.here hx rfl (hb hby at_70) rfl ?_
    exact kt
  by_cases cc : (fl &&& (32 : Int32)) = 0
  · -- (fl &&& (32 : Int32)) = 0
    refine Goes.go (U' := (T.setTop (mkF m 81 #[sI_ fl, sJ_ e1, sS_, sJ_ e2, sS_, sJ_ e3, sS_, sJ_ f2, sS_, sJ_ f3, sS_, sI_ p1, sI_ hf1, sI_ p2, sI_ s2b, sI_ s2t, sI_ (0 : Int32), sU_, sU_, sU_, sU_, sU_, sU_, sU_, sU_, sU_, sU_, sU_, sU_, sU_, sU_, sU_, sU_, sU_, sU_, sU_, sU_, sU_, sU_, sU_, sU_, sU_, sU_, sU_, sU_, sU_, sU_, sU_, sU_, sU_, sU_, sU_] []))) (fun t kt => ?_) ?_
    · skip
      refine XS.ifYes X.here hx rfl (pc0 := 71) (pc' := 78) rfl (hb hby at_71) rfl (XT.i0_eq_t cc) (by decide) (by decide) ?_
      refine XS.iconst X.here hx rfl (hb hby at_78) ?_
      refine XS.istore X.here hx rfl (hb hby at_79) rfl (l' := #[sI_ fl, sJ_ e1, sS_, sJ_ e2, sS_, sJ_ e3, sS_, sJ_ f2, sS_, sJ_ f3, sS_, sI_ p1, sI_ hf1, sI_ p2, sI_ s2b, sI_ s2t, sI_ (0 : Int32), sU_, sU_, sU_, sU_, sU_, sU_, sU_, sU_, sU_, sU_, sU_, sU_, sU_, sU_, sU_, sU_, sU_, sU_, sU_, sU_, sU_, sU_, sU_, sU_, sU_, sU_, sU_, sU_, sU_, sU_, sU_, sU_, sU_, sU_, sU_]) rfl ?_
      exact kt
    exact law_81 l Z a0 hw fl e1 e2 e3 f2 f3 p1 hf1 p2 s2b s2t (0 : Int32) h0 n0 Z0 p e s m below meth c hx hby hml hown hnm hret hlk hZ _ _ _ X eT N K0 O BC 
  · -- not (fl &&& (32 : Int32)) = 0
    refine Goes.go (U' := (T.setTop (mkF m 81 #[sI_ fl, sJ_ e1, sS_, sJ_ e2, sS_, sJ_ e3, sS_, sJ_ f2, sS_, sJ_ f3, sS_, sI_ p1, sI_ hf1, sI_ p2, sI_ s2b, sI_ s2t, sI_ (1 : Int32), sU_, sU_, sU_, sU_, sU_, sU_, sU_, sU_, sU_, sU_, sU_, sU_, sU_, sU_, sU_, sU_, sU_, sU_, sU_, sU_, sU_, sU_, sU_, sU_, sU_, sU_, sU_, sU_, sU_, sU_, sU_, sU_, sU_, sU_, sU_] []))) (fun t kt => ?_) ?_
    · skip
      refine XS.ifNo X.here hx rfl (hb hby at_71) rfl (XT.i0_eq_f cc) ?_
      refine XS.iconst X.here hx rfl (hb hby at_74) ?_
      refine XS.goto X.here hx rfl (pc0 := 75) (pc' := 79) rfl (hb hby at_75) (by decide) (by decide) ?_
      refine XS.istore X.here hx rfl (hb hby at_79) rfl (l' := #[sI_ fl, sJ_ e1, sS_, sJ_ e2, sS_, sJ_ e3, sS_, sJ_ f2, sS_, sJ_ f3, sS_, sI_ p1, sI_ hf1, sI_ p2, sI_ s2b, sI_ s2t, sI_ (1 : Int32), sU_, sU_, sU_, sU_, sU_, sU_, sU_, sU_, sU_, sU_, sU_, sU_, sU_, sU_, sU_, sU_, sU_, sU_, sU_, sU_, sU_, sU_, sU_, sU_, sU_, sU_, sU_, sU_, sU_, sU_, sU_, sU_, sU_, sU_, sU_]) rfl ?_
      exact kt
    exact law_81 l Z a0 hw fl e1 e2 e3 f2 f3 p1 hf1 p2 s2b s2t (1 : Int32) h0 n0 Z0 p e s m below meth c hx hby hml hown hnm hret hlk hZ _ _ _ X eT N K0 O BC 
set_option maxRecDepth 65536 in
set_option maxHeartbeats 40000000 in
theorem law_53 (l : Launch) (Z : State) (a0 : Array Value) (hw : ∀ d ∈ tables_1, d.before a0 Z = true) (fl : Int32) (e1 e2 e3 f2 f3 : Int64) (p1 : Int32) (hf1 : Int32) (p2 : Int32) (s2b : Int32) (h0 : Heap) (n0 : Nat) (Z0 : n0 ≤ h0.size) (p : Program) (e : Env) (s : State) (m : MethodId) (below : List Frame) (meth : Method) (c : Code) (hx : p.tables.exec = Jvm.exec) (hby : c.code = code) (hml : c.maxLocals = maxLocals) (hown : s.vm.findClass "com/example/dead_letter_replay/deadletterreplay/queue/CarriesFloorPinLaw" = some m.cls) (hnm : meth.name = "law") (hret : meth.sig.returnType = ret) (hlk : meth.locks = false) (hZ : Z.Warmed39 s.vm) (h : Heap) (T : State) (locs : List Loc) (X : Stand p l e room_1 s m #[(.int fl), (.long e1), (.long e2), (.long e3), (.long f2), (.long f3)] below meth c T locs 0 0) (eT : T.heap = h) (N : Fr n0 locs) (K0 : Keep h0 h []) (O : Old Z n0 h) (BC : BoxC Z "java/lang/Long$LongCache" "[Ljava/lang/Long;" "java/lang/Long" "J" (fun i => .long (i.toInt32 - 128).toInt64))  :
    Goes p e s below (fun v h L => v = some (.int 1) ∧ Fr n0 L) room_1.cells room_1.slots (T.setTop (mkF m 53 #[sI_ fl, sJ_ e1, sS_, sJ_ e2, sS_, sJ_ e3, sS_, sJ_ f2, sS_, sJ_ f3, sS_, sI_ p1, sI_ hf1, sI_ p2, sI_ s2b, sU_, sU_, sU_, sU_, sU_, sU_, sU_, sU_, sU_, sU_, sU_, sU_, sU_, sU_, sU_, sU_, sU_, sU_, sU_, sU_, sU_, sU_, sU_, sU_, sU_, sU_, sU_, sU_, sU_, sU_, sU_, sU_, sU_, sU_, sU_, sU_, sU_] [])) := by
  have sz0 : n0 ≤ h.size := Nat.le_trans Z0 K0.1
  refine Goes.go (U' := (T.setTop (mkF m 57 #[sI_ fl, sJ_ e1, sS_, sJ_ e2, sS_, sJ_ e3, sS_, sJ_ f2, sS_, sJ_ f3, sS_, sI_ p1, sI_ hf1, sI_ p2, sI_ s2b, sU_, sU_, sU_, sU_, sU_, sU_, sU_, sU_, sU_, sU_, sU_, sU_, sU_, sU_, sU_, sU_, sU_, sU_, sU_, sU_, sU_, sU_, sU_, sU_, sU_, sU_, sU_, sU_, sU_, sU_, sU_, sU_, sU_, sU_, sU_, sU_, sU_] [(.int (fl &&& (16 : Int32)))]))) (fun t kt => ?_) ?_
  · skip
    refine XS.iloadN X.here hx rfl (hb hby at_53) rfl ?_
    refine XS.bipush X.here hx rfl (hb hby at_54) ?_
    refine XS.iand X.here hx rfl (hb hby at_56) rfl ?_
    exact kt
  by_cases cc : (fl &&& (16 : Int32)) = 0
  · -- (fl &&& (16 : Int32)) = 0
    refine Goes.go (U' := (T.setTop (mkF m 67 #[sI_ fl, sJ_ e1, sS_, sJ_ e2, sS_, sJ_ e3, sS_, sJ_ f2, sS_, sJ_ f3, sS_, sI_ p1, sI_ hf1, sI_ p2, sI_ s2b, sI_ (0 : Int32), sU_, sU_, sU_, sU_, sU_, sU_, sU_, sU_, sU_, sU_, sU_, sU_, sU_, sU_, sU_, sU_, sU_, sU_, sU_, sU_, sU_, sU_, sU_, sU_, sU_, sU_, sU_, sU_, sU_, sU_, sU_, sU_, sU_, sU_, sU_, sU_] []))) (fun t kt => ?_) ?_
    · skip
      refine XS.ifYes X.here hx rfl (pc0 := 57) (pc' := 64) rfl (hb hby at_57) rfl (XT.i0_eq_t cc) (by decide) (by decide) ?_
      refine XS.iconst X.here hx rfl (hb hby at_64) ?_
      refine XS.istore X.here hx rfl (hb hby at_65) rfl (l' := #[sI_ fl, sJ_ e1, sS_, sJ_ e2, sS_, sJ_ e3, sS_, sJ_ f2, sS_, sJ_ f3, sS_, sI_ p1, sI_ hf1, sI_ p2, sI_ s2b, sI_ (0 : Int32), sU_, sU_, sU_, sU_, sU_, sU_, sU_, sU_, sU_, sU_, sU_, sU_, sU_, sU_, sU_, sU_, sU_, sU_, sU_, sU_, sU_, sU_, sU_, sU_, sU_, sU_, sU_, sU_, sU_, sU_, sU_, sU_, sU_, sU_, sU_, sU_]) rfl ?_
      exact kt
    exact law_67 l Z a0 hw fl e1 e2 e3 f2 f3 p1 hf1 p2 s2b (0 : Int32) h0 n0 Z0 p e s m below meth c hx hby hml hown hnm hret hlk hZ _ _ _ X eT N K0 O BC 
  · -- not (fl &&& (16 : Int32)) = 0
    refine Goes.go (U' := (T.setTop (mkF m 67 #[sI_ fl, sJ_ e1, sS_, sJ_ e2, sS_, sJ_ e3, sS_, sJ_ f2, sS_, sJ_ f3, sS_, sI_ p1, sI_ hf1, sI_ p2, sI_ s2b, sI_ (1 : Int32), sU_, sU_, sU_, sU_, sU_, sU_, sU_, sU_, sU_, sU_, sU_, sU_, sU_, sU_, sU_, sU_, sU_, sU_, sU_, sU_, sU_, sU_, sU_, sU_, sU_, sU_, sU_, sU_, sU_, sU_, sU_, sU_, sU_, sU_, sU_, sU_] []))) (fun t kt => ?_) ?_
    · skip
      refine XS.ifNo X.here hx rfl (hb hby at_57) rfl (XT.i0_eq_f cc) ?_
      refine XS.iconst X.here hx rfl (hb hby at_60) ?_
      refine XS.goto X.here hx rfl (pc0 := 61) (pc' := 65) rfl (hb hby at_61) (by decide) (by decide) ?_
      refine XS.istore X.here hx rfl (hb hby at_65) rfl (l' := #[sI_ fl, sJ_ e1, sS_, sJ_ e2, sS_, sJ_ e3, sS_, sJ_ f2, sS_, sJ_ f3, sS_, sI_ p1, sI_ hf1, sI_ p2, sI_ s2b, sI_ (1 : Int32), sU_, sU_, sU_, sU_, sU_, sU_, sU_, sU_, sU_, sU_, sU_, sU_, sU_, sU_, sU_, sU_, sU_, sU_, sU_, sU_, sU_, sU_, sU_, sU_, sU_, sU_, sU_, sU_, sU_, sU_, sU_, sU_, sU_, sU_, sU_, sU_]) rfl ?_
      exact kt
    exact law_67 l Z a0 hw fl e1 e2 e3 f2 f3 p1 hf1 p2 s2b (1 : Int32) h0 n0 Z0 p e s m below meth c hx hby hml hown hnm hret hlk hZ _ _ _ X eT N K0 O BC 
set_option maxRecDepth 65536 in
set_option maxHeartbeats 40000000 in
theorem law_39 (l : Launch) (Z : State) (a0 : Array Value) (hw : ∀ d ∈ tables_1, d.before a0 Z = true) (fl : Int32) (e1 e2 e3 f2 f3 : Int64) (p1 : Int32) (hf1 : Int32) (p2 : Int32) (h0 : Heap) (n0 : Nat) (Z0 : n0 ≤ h0.size) (p : Program) (e : Env) (s : State) (m : MethodId) (below : List Frame) (meth : Method) (c : Code) (hx : p.tables.exec = Jvm.exec) (hby : c.code = code) (hml : c.maxLocals = maxLocals) (hown : s.vm.findClass "com/example/dead_letter_replay/deadletterreplay/queue/CarriesFloorPinLaw" = some m.cls) (hnm : meth.name = "law") (hret : meth.sig.returnType = ret) (hlk : meth.locks = false) (hZ : Z.Warmed39 s.vm) (h : Heap) (T : State) (locs : List Loc) (X : Stand p l e room_1 s m #[(.int fl), (.long e1), (.long e2), (.long e3), (.long f2), (.long f3)] below meth c T locs 0 0) (eT : T.heap = h) (N : Fr n0 locs) (K0 : Keep h0 h []) (O : Old Z n0 h) (BC : BoxC Z "java/lang/Long$LongCache" "[Ljava/lang/Long;" "java/lang/Long" "J" (fun i => .long (i.toInt32 - 128).toInt64))  :
    Goes p e s below (fun v h L => v = some (.int 1) ∧ Fr n0 L) room_1.cells room_1.slots (T.setTop (mkF m 39 #[sI_ fl, sJ_ e1, sS_, sJ_ e2, sS_, sJ_ e3, sS_, sJ_ f2, sS_, sJ_ f3, sS_, sI_ p1, sI_ hf1, sI_ p2, sU_, sU_, sU_, sU_, sU_, sU_, sU_, sU_, sU_, sU_, sU_, sU_, sU_, sU_, sU_, sU_, sU_, sU_, sU_, sU_, sU_, sU_, sU_, sU_, sU_, sU_, sU_, sU_, sU_, sU_, sU_, sU_, sU_, sU_, sU_, sU_, sU_, sU_] [])) := by
  have sz0 : n0 ≤ h.size := Nat.le_trans Z0 K0.1
  refine Goes.go (U' := (T.setTop (mkF m 43 #[sI_ fl, sJ_ e1, sS_, sJ_ e2, sS_, sJ_ e3, sS_, sJ_ f2, sS_, sJ_ f3, sS_, sI_ p1, sI_ hf1, sI_ p2, sU_, sU_, sU_, sU_, sU_, sU_, sU_, sU_, sU_, sU_, sU_, sU_, sU_, sU_, sU_, sU_, sU_, sU_, sU_, sU_, sU_, sU_, sU_, sU_, sU_, sU_, sU_, sU_, sU_, sU_, sU_, sU_, sU_, sU_, sU_, sU_, sU_, sU_] [(.int (fl &&& (8 : Int32)))]))) (fun t kt => ?_) ?_
  · skip
    refine XS.iloadN X.here hx rfl (hb hby at_39) rfl ?_
    refine XS.bipush X.here hx rfl (hb hby at_40) ?_
    refine XS.iand X.here hx rfl (hb hby at_42) rfl ?_
    exact kt
  by_cases cc : (fl &&& (8 : Int32)) = 0
  · -- (fl &&& (8 : Int32)) = 0
    refine Goes.go (U' := (T.setTop (mkF m 53 #[sI_ fl, sJ_ e1, sS_, sJ_ e2, sS_, sJ_ e3, sS_, sJ_ f2, sS_, sJ_ f3, sS_, sI_ p1, sI_ hf1, sI_ p2, sI_ (0 : Int32), sU_, sU_, sU_, sU_, sU_, sU_, sU_, sU_, sU_, sU_, sU_, sU_, sU_, sU_, sU_, sU_, sU_, sU_, sU_, sU_, sU_, sU_, sU_, sU_, sU_, sU_, sU_, sU_, sU_, sU_, sU_, sU_, sU_, sU_, sU_, sU_, sU_] []))) (fun t kt => ?_) ?_
    · skip
      refine XS.ifYes X.here hx rfl (pc0 := 43) (pc' := 50) rfl (hb hby at_43) rfl (XT.i0_eq_t cc) (by decide) (by decide) ?_
      refine XS.iconst X.here hx rfl (hb hby at_50) ?_
      refine XS.istore X.here hx rfl (hb hby at_51) rfl (l' := #[sI_ fl, sJ_ e1, sS_, sJ_ e2, sS_, sJ_ e3, sS_, sJ_ f2, sS_, sJ_ f3, sS_, sI_ p1, sI_ hf1, sI_ p2, sI_ (0 : Int32), sU_, sU_, sU_, sU_, sU_, sU_, sU_, sU_, sU_, sU_, sU_, sU_, sU_, sU_, sU_, sU_, sU_, sU_, sU_, sU_, sU_, sU_, sU_, sU_, sU_, sU_, sU_, sU_, sU_, sU_, sU_, sU_, sU_, sU_, sU_, sU_, sU_]) rfl ?_
      exact kt
    exact law_53 l Z a0 hw fl e1 e2 e3 f2 f3 p1 hf1 p2 (0 : Int32) h0 n0 Z0 p e s m below meth c hx hby hml hown hnm hret hlk hZ _ _ _ X eT N K0 O BC 
  · -- not (fl &&& (8 : Int32)) = 0
    refine Goes.go (U' := (T.setTop (mkF m 53 #[sI_ fl, sJ_ e1, sS_, sJ_ e2, sS_, sJ_ e3, sS_, sJ_ f2, sS_, sJ_ f3, sS_, sI_ p1, sI_ hf1, sI_ p2, sI_ (1 : Int32), sU_, sU_, sU_, sU_, sU_, sU_, sU_, sU_, sU_, sU_, sU_, sU_, sU_, sU_, sU_, sU_, sU_, sU_, sU_, sU_, sU_, sU_, sU_, sU_, sU_, sU_, sU_, sU_, sU_, sU_, sU_, sU_, sU_, sU_, sU_, sU_, sU_] []))) (fun t kt => ?_) ?_
    · skip
      refine XS.ifNo X.here hx rfl (hb hby at_43) rfl (XT.i0_eq_f cc) ?_
      refine XS.iconst X.here hx rfl (hb hby at_46) ?_
      refine XS.goto X.here hx rfl (pc0 := 47) (pc' := 51) rfl (hb hby at_47) (by decide) (by decide) ?_
      refine XS.istore X.here hx rfl (hb hby at_51) rfl (l' := #[sI_ fl, sJ_ e1, sS_, sJ_ e2, sS_, sJ_ e3, sS_, sJ_ f2, sS_, sJ_ f3, sS_, sI_ p1, sI_ hf1, sI_ p2, sI_ (1 : Int32), sU_, sU_, sU_, sU_, sU_, sU_, sU_, sU_, sU_, sU_, sU_, sU_, sU_, sU_, sU_, sU_, sU_, sU_, sU_, sU_, sU_, sU_, sU_, sU_, sU_, sU_, sU_, sU_, sU_, sU_, sU_, sU_, sU_, sU_, sU_, sU_, sU_]) rfl ?_
      exact kt
    exact law_53 l Z a0 hw fl e1 e2 e3 f2 f3 p1 hf1 p2 (1 : Int32) h0 n0 Z0 p e s m below meth c hx hby hml hown hnm hret hlk hZ _ _ _ X eT N K0 O BC 
set_option maxRecDepth 65536 in
set_option maxHeartbeats 40000000 in
theorem law_26 (l : Launch) (Z : State) (a0 : Array Value) (hw : ∀ d ∈ tables_1, d.before a0 Z = true) (fl : Int32) (e1 e2 e3 f2 f3 : Int64) (p1 : Int32) (hf1 : Int32) (h0 : Heap) (n0 : Nat) (Z0 : n0 ≤ h0.size) (p : Program) (e : Env) (s : State) (m : MethodId) (below : List Frame) (meth : Method) (c : Code) (hx : p.tables.exec = Jvm.exec) (hby : c.code = code) (hml : c.maxLocals = maxLocals) (hown : s.vm.findClass "com/example/dead_letter_replay/deadletterreplay/queue/CarriesFloorPinLaw" = some m.cls) (hnm : meth.name = "law") (hret : meth.sig.returnType = ret) (hlk : meth.locks = false) (hZ : Z.Warmed39 s.vm) (h : Heap) (T : State) (locs : List Loc) (X : Stand p l e room_1 s m #[(.int fl), (.long e1), (.long e2), (.long e3), (.long f2), (.long f3)] below meth c T locs 0 0) (eT : T.heap = h) (N : Fr n0 locs) (K0 : Keep h0 h []) (O : Old Z n0 h) (BC : BoxC Z "java/lang/Long$LongCache" "[Ljava/lang/Long;" "java/lang/Long" "J" (fun i => .long (i.toInt32 - 128).toInt64))  :
    Goes p e s below (fun v h L => v = some (.int 1) ∧ Fr n0 L) room_1.cells room_1.slots (T.setTop (mkF m 26 #[sI_ fl, sJ_ e1, sS_, sJ_ e2, sS_, sJ_ e3, sS_, sJ_ f2, sS_, sJ_ f3, sS_, sI_ p1, sI_ hf1, sU_, sU_, sU_, sU_, sU_, sU_, sU_, sU_, sU_, sU_, sU_, sU_, sU_, sU_, sU_, sU_, sU_, sU_, sU_, sU_, sU_, sU_, sU_, sU_, sU_, sU_, sU_, sU_, sU_, sU_, sU_, sU_, sU_, sU_, sU_, sU_, sU_, sU_, sU_] [])) := by
  have sz0 : n0 ≤ h.size := Nat.le_trans Z0 K0.1
  refine Goes.go (U' := (T.setTop (mkF m 29 #[sI_ fl, sJ_ e1, sS_, sJ_ e2, sS_, sJ_ e3, sS_, sJ_ f2, sS_, sJ_ f3, sS_, sI_ p1, sI_ hf1, sU_, sU_, sU_, sU_, sU_, sU_, sU_, sU_, sU_, sU_, sU_, sU_, sU_, sU_, sU_, sU_, sU_, sU_, sU_, sU_, sU_, sU_, sU_, sU_, sU_, sU_, sU_, sU_, sU_, sU_, sU_, sU_, sU_, sU_, sU_, sU_, sU_, sU_, sU_] [(.int (fl &&& (4 : Int32)))]))) (fun t kt => ?_) ?_
  · skip
    refine XS.iloadN X.here hx rfl (hb hby at_26) rfl ?_
    refine XS.iconst X.here hx rfl (hb hby at_27) ?_
    refine XS.iand X.here hx rfl (hb hby at_28) rfl ?_
    exact kt
  by_cases cc : (fl &&& (4 : Int32)) = 0
  · -- (fl &&& (4 : Int32)) = 0
    refine Goes.go (U' := (T.setTop (mkF m 39 #[sI_ fl, sJ_ e1, sS_, sJ_ e2, sS_, sJ_ e3, sS_, sJ_ f2, sS_, sJ_ f3, sS_, sI_ p1, sI_ hf1, sI_ (0 : Int32), sU_, sU_, sU_, sU_, sU_, sU_, sU_, sU_, sU_, sU_, sU_, sU_, sU_, sU_, sU_, sU_, sU_, sU_, sU_, sU_, sU_, sU_, sU_, sU_, sU_, sU_, sU_, sU_, sU_, sU_, sU_, sU_, sU_, sU_, sU_, sU_, sU_, sU_] []))) (fun t kt => ?_) ?_
    · skip
      refine XS.ifYes X.here hx rfl (pc0 := 29) (pc' := 36) rfl (hb hby at_29) rfl (XT.i0_eq_t cc) (by decide) (by decide) ?_
      refine XS.iconst X.here hx rfl (hb hby at_36) ?_
      refine XS.istore X.here hx rfl (hb hby at_37) rfl (l' := #[sI_ fl, sJ_ e1, sS_, sJ_ e2, sS_, sJ_ e3, sS_, sJ_ f2, sS_, sJ_ f3, sS_, sI_ p1, sI_ hf1, sI_ (0 : Int32), sU_, sU_, sU_, sU_, sU_, sU_, sU_, sU_, sU_, sU_, sU_, sU_, sU_, sU_, sU_, sU_, sU_, sU_, sU_, sU_, sU_, sU_, sU_, sU_, sU_, sU_, sU_, sU_, sU_, sU_, sU_, sU_, sU_, sU_, sU_, sU_, sU_, sU_]) rfl ?_
      exact kt
    exact law_39 l Z a0 hw fl e1 e2 e3 f2 f3 p1 hf1 (0 : Int32) h0 n0 Z0 p e s m below meth c hx hby hml hown hnm hret hlk hZ _ _ _ X eT N K0 O BC 
  · -- not (fl &&& (4 : Int32)) = 0
    refine Goes.go (U' := (T.setTop (mkF m 39 #[sI_ fl, sJ_ e1, sS_, sJ_ e2, sS_, sJ_ e3, sS_, sJ_ f2, sS_, sJ_ f3, sS_, sI_ p1, sI_ hf1, sI_ (1 : Int32), sU_, sU_, sU_, sU_, sU_, sU_, sU_, sU_, sU_, sU_, sU_, sU_, sU_, sU_, sU_, sU_, sU_, sU_, sU_, sU_, sU_, sU_, sU_, sU_, sU_, sU_, sU_, sU_, sU_, sU_, sU_, sU_, sU_, sU_, sU_, sU_, sU_, sU_] []))) (fun t kt => ?_) ?_
    · skip
      refine XS.ifNo X.here hx rfl (hb hby at_29) rfl (XT.i0_eq_f cc) ?_
      refine XS.iconst X.here hx rfl (hb hby at_32) ?_
      refine XS.goto X.here hx rfl (pc0 := 33) (pc' := 37) rfl (hb hby at_33) (by decide) (by decide) ?_
      refine XS.istore X.here hx rfl (hb hby at_37) rfl (l' := #[sI_ fl, sJ_ e1, sS_, sJ_ e2, sS_, sJ_ e3, sS_, sJ_ f2, sS_, sJ_ f3, sS_, sI_ p1, sI_ hf1, sI_ (1 : Int32), sU_, sU_, sU_, sU_, sU_, sU_, sU_, sU_, sU_, sU_, sU_, sU_, sU_, sU_, sU_, sU_, sU_, sU_, sU_, sU_, sU_, sU_, sU_, sU_, sU_, sU_, sU_, sU_, sU_, sU_, sU_, sU_, sU_, sU_, sU_, sU_, sU_, sU_]) rfl ?_
      exact kt
    exact law_39 l Z a0 hw fl e1 e2 e3 f2 f3 p1 hf1 (1 : Int32) h0 n0 Z0 p e s m below meth c hx hby hml hown hnm hret hlk hZ _ _ _ X eT N K0 O BC 
set_option maxRecDepth 65536 in
set_option maxHeartbeats 40000000 in
theorem law_13 (l : Launch) (Z : State) (a0 : Array Value) (hw : ∀ d ∈ tables_1, d.before a0 Z = true) (fl : Int32) (e1 e2 e3 f2 f3 : Int64) (p1 : Int32) (h0 : Heap) (n0 : Nat) (Z0 : n0 ≤ h0.size) (p : Program) (e : Env) (s : State) (m : MethodId) (below : List Frame) (meth : Method) (c : Code) (hx : p.tables.exec = Jvm.exec) (hby : c.code = code) (hml : c.maxLocals = maxLocals) (hown : s.vm.findClass "com/example/dead_letter_replay/deadletterreplay/queue/CarriesFloorPinLaw" = some m.cls) (hnm : meth.name = "law") (hret : meth.sig.returnType = ret) (hlk : meth.locks = false) (hZ : Z.Warmed39 s.vm) (h : Heap) (T : State) (locs : List Loc) (X : Stand p l e room_1 s m #[(.int fl), (.long e1), (.long e2), (.long e3), (.long f2), (.long f3)] below meth c T locs 0 0) (eT : T.heap = h) (N : Fr n0 locs) (K0 : Keep h0 h []) (O : Old Z n0 h) (BC : BoxC Z "java/lang/Long$LongCache" "[Ljava/lang/Long;" "java/lang/Long" "J" (fun i => .long (i.toInt32 - 128).toInt64))  :
    Goes p e s below (fun v h L => v = some (.int 1) ∧ Fr n0 L) room_1.cells room_1.slots (T.setTop (mkF m 13 #[sI_ fl, sJ_ e1, sS_, sJ_ e2, sS_, sJ_ e3, sS_, sJ_ f2, sS_, sJ_ f3, sS_, sI_ p1, sU_, sU_, sU_, sU_, sU_, sU_, sU_, sU_, sU_, sU_, sU_, sU_, sU_, sU_, sU_, sU_, sU_, sU_, sU_, sU_, sU_, sU_, sU_, sU_, sU_, sU_, sU_, sU_, sU_, sU_, sU_, sU_, sU_, sU_, sU_, sU_, sU_, sU_, sU_, sU_] [])) := by
  have sz0 : n0 ≤ h.size := Nat.le_trans Z0 K0.1
  refine Goes.go (U' := (T.setTop (mkF m 16 #[sI_ fl, sJ_ e1, sS_, sJ_ e2, sS_, sJ_ e3, sS_, sJ_ f2, sS_, sJ_ f3, sS_, sI_ p1, sU_, sU_, sU_, sU_, sU_, sU_, sU_, sU_, sU_, sU_, sU_, sU_, sU_, sU_, sU_, sU_, sU_, sU_, sU_, sU_, sU_, sU_, sU_, sU_, sU_, sU_, sU_, sU_, sU_, sU_, sU_, sU_, sU_, sU_, sU_, sU_, sU_, sU_, sU_, sU_] [(.int (fl &&& (2 : Int32)))]))) (fun t kt => ?_) ?_
  · skip
    refine XS.iloadN X.here hx rfl (hb hby at_13) rfl ?_
    refine XS.iconst X.here hx rfl (hb hby at_14) ?_
    refine XS.iand X.here hx rfl (hb hby at_15) rfl ?_
    exact kt
  by_cases cc : (fl &&& (2 : Int32)) = 0
  · -- (fl &&& (2 : Int32)) = 0
    refine Goes.go (U' := (T.setTop (mkF m 26 #[sI_ fl, sJ_ e1, sS_, sJ_ e2, sS_, sJ_ e3, sS_, sJ_ f2, sS_, sJ_ f3, sS_, sI_ p1, sI_ (0 : Int32), sU_, sU_, sU_, sU_, sU_, sU_, sU_, sU_, sU_, sU_, sU_, sU_, sU_, sU_, sU_, sU_, sU_, sU_, sU_, sU_, sU_, sU_, sU_, sU_, sU_, sU_, sU_, sU_, sU_, sU_, sU_, sU_, sU_, sU_, sU_, sU_, sU_, sU_, sU_] []))) (fun t kt => ?_) ?_
    · skip
      refine XS.ifYes X.here hx rfl (pc0 := 16) (pc' := 23) rfl (hb hby at_16) rfl (XT.i0_eq_t cc) (by decide) (by decide) ?_
      refine XS.iconst X.here hx rfl (hb hby at_23) ?_
      refine XS.istore X.here hx rfl (hb hby at_24) rfl (l' := #[sI_ fl, sJ_ e1, sS_, sJ_ e2, sS_, sJ_ e3, sS_, sJ_ f2, sS_, sJ_ f3, sS_, sI_ p1, sI_ (0 : Int32), sU_, sU_, sU_, sU_, sU_, sU_, sU_, sU_, sU_, sU_, sU_, sU_, sU_, sU_, sU_, sU_, sU_, sU_, sU_, sU_, sU_, sU_, sU_, sU_, sU_, sU_, sU_, sU_, sU_, sU_, sU_, sU_, sU_, sU_, sU_, sU_, sU_, sU_, sU_]) rfl ?_
      exact kt
    exact law_26 l Z a0 hw fl e1 e2 e3 f2 f3 p1 (0 : Int32) h0 n0 Z0 p e s m below meth c hx hby hml hown hnm hret hlk hZ _ _ _ X eT N K0 O BC 
  · -- not (fl &&& (2 : Int32)) = 0
    refine Goes.go (U' := (T.setTop (mkF m 26 #[sI_ fl, sJ_ e1, sS_, sJ_ e2, sS_, sJ_ e3, sS_, sJ_ f2, sS_, sJ_ f3, sS_, sI_ p1, sI_ (1 : Int32), sU_, sU_, sU_, sU_, sU_, sU_, sU_, sU_, sU_, sU_, sU_, sU_, sU_, sU_, sU_, sU_, sU_, sU_, sU_, sU_, sU_, sU_, sU_, sU_, sU_, sU_, sU_, sU_, sU_, sU_, sU_, sU_, sU_, sU_, sU_, sU_, sU_, sU_, sU_] []))) (fun t kt => ?_) ?_
    · skip
      refine XS.ifNo X.here hx rfl (hb hby at_16) rfl (XT.i0_eq_f cc) ?_
      refine XS.iconst X.here hx rfl (hb hby at_19) ?_
      refine XS.goto X.here hx rfl (pc0 := 20) (pc' := 24) rfl (hb hby at_20) (by decide) (by decide) ?_
      refine XS.istore X.here hx rfl (hb hby at_24) rfl (l' := #[sI_ fl, sJ_ e1, sS_, sJ_ e2, sS_, sJ_ e3, sS_, sJ_ f2, sS_, sJ_ f3, sS_, sI_ p1, sI_ (1 : Int32), sU_, sU_, sU_, sU_, sU_, sU_, sU_, sU_, sU_, sU_, sU_, sU_, sU_, sU_, sU_, sU_, sU_, sU_, sU_, sU_, sU_, sU_, sU_, sU_, sU_, sU_, sU_, sU_, sU_, sU_, sU_, sU_, sU_, sU_, sU_, sU_, sU_, sU_, sU_]) rfl ?_
      exact kt
    exact law_26 l Z a0 hw fl e1 e2 e3 f2 f3 p1 (1 : Int32) h0 n0 Z0 p e s m below meth c hx hby hml hown hnm hret hlk hZ _ _ _ X eT N K0 O BC 
set_option maxHeartbeats 4000000 in
theorem ef_rm_law (m : MethodId) (x0 : Int32) (x1 : Int64) (x2 : Int64) (x3 : Int64) (x4 : Int64) (x5 : Int64)  : entryFrame m #[(.int x0), (.long x1), (.long x2), (.long x3), (.long x4), (.long x5)] maxLocals = mkF m 0 #[.val (.int x0), .val (.long x1), .second, .val (.long x2), .second, .val (.long x3), .second, .val (.long x4), .second, .val (.long x5), .second, .unset, .unset, .unset, .unset, .unset, .unset, .unset, .unset, .unset, .unset, .unset, .unset, .unset, .unset, .unset, .unset, .unset, .unset, .unset, .unset, .unset, .unset, .unset, .unset, .unset, .unset, .unset, .unset, .unset, .unset, .unset, .unset, .unset, .unset, .unset, .unset, .unset, .unset, .unset, .unset, .unset] [] := by first | (simp [entryFrame, mkF, argsToLocals, catR, catN, catI, catJ, maxLocals]; done) | rfl
set_option maxRecDepth 65536 in
set_option maxHeartbeats 40000000 in
theorem rm_law (l : Launch) (Z : State) (a0 : Array Value) (hw : ∀ d ∈ tables_1, d.before a0 Z = true) (ws : List Jvm.Cond) (fl : Int32) (e1 e2 e3 f2 f3 : Int64) (h0 : Heap) (n0 : Nat) (Z0 : n0 ≤ h0.size) (O : Old Z n0 h0) (BC : BoxC Z "java/lang/Long$LongCache" "[Ljava/lang/Long;" "java/lang/Long" "J" (fun i => .long (i.toInt32 - 128).toInt64)) :
    Pays l Z x code maxLocals ret ws room_1 #[(.int fl), (.long e1), (.long e2), (.long e3), (.long f2), (.long f3)] h0 (fun v h L => v = some (.int 1) ∧ Fr n0 L) := by
  refine Pays.of (plainFor_of_name (by first | (simp [plainName, overriddenIn]; done) | decide +kernel)) ?_
  intro p e s m below meth c s₁ hx hby hml hown hnm hret hlk hZ e0 X0
  have N0 := Fr.nil n0
  have K0 : Keep h0 h0 [] := Keep.refl _ _
  refine Goes.go (U' := (s₁.setTop (mkF m 0 #[sI_ fl, sJ_ e1, sS_, sJ_ e2, sS_, sJ_ e3, sS_, sJ_ f2, sS_, sJ_ f3, sS_, sU_, sU_, sU_, sU_, sU_, sU_, sU_, sU_, sU_, sU_, sU_, sU_, sU_, sU_, sU_, sU_, sU_, sU_, sU_, sU_, sU_, sU_, sU_, sU_, sU_, sU_, sU_, sU_, sU_, sU_, sU_, sU_, sU_, sU_, sU_, sU_, sU_, sU_, sU_, sU_, sU_] []))) (fun t kt => castTop (ef_rm_law m fl e1 e2 e3 f2 f3) kt) ?_
  refine Goes.go (U' := (s₁.setTop (mkF m 3 #[sI_ fl, sJ_ e1, sS_, sJ_ e2, sS_, sJ_ e3, sS_, sJ_ f2, sS_, sJ_ f3, sS_, sU_, sU_, sU_, sU_, sU_, sU_, sU_, sU_, sU_, sU_, sU_, sU_, sU_, sU_, sU_, sU_, sU_, sU_, sU_, sU_, sU_, sU_, sU_, sU_, sU_, sU_, sU_, sU_, sU_, sU_, sU_, sU_, sU_, sU_, sU_, sU_, sU_, sU_, sU_, sU_, sU_] [(.int (fl &&& (1 : Int32)))]))) (fun t kt => ?_) ?_
  · skip
    refine XS.iloadN X0.here hx rfl (hb hby at_0) rfl ?_
    refine XS.iconst X0.here hx rfl (hb hby at_1) ?_
    refine XS.iand X0.here hx rfl (hb hby at_2) rfl ?_
    exact kt
  by_cases cc : (fl &&& (1 : Int32)) = 0
  · -- (fl &&& (1 : Int32)) = 0
    refine Goes.go (U' := (s₁.setTop (mkF m 13 #[sI_ fl, sJ_ e1, sS_, sJ_ e2, sS_, sJ_ e3, sS_, sJ_ f2, sS_, sJ_ f3, sS_, sI_ (0 : Int32), sU_, sU_, sU_, sU_, sU_, sU_, sU_, sU_, sU_, sU_, sU_, sU_, sU_, sU_, sU_, sU_, sU_, sU_, sU_, sU_, sU_, sU_, sU_, sU_, sU_, sU_, sU_, sU_, sU_, sU_, sU_, sU_, sU_, sU_, sU_, sU_, sU_, sU_, sU_, sU_] []))) (fun t kt => ?_) ?_
    · skip
      refine XS.ifYes X0.here hx rfl (pc0 := 3) (pc' := 10) rfl (hb hby at_3) rfl (XT.i0_eq_t cc) (by decide) (by decide) ?_
      refine XS.iconst X0.here hx rfl (hb hby at_10) ?_
      refine XS.istore X0.here hx rfl (hb hby at_11) rfl (l' := #[sI_ fl, sJ_ e1, sS_, sJ_ e2, sS_, sJ_ e3, sS_, sJ_ f2, sS_, sJ_ f3, sS_, sI_ (0 : Int32), sU_, sU_, sU_, sU_, sU_, sU_, sU_, sU_, sU_, sU_, sU_, sU_, sU_, sU_, sU_, sU_, sU_, sU_, sU_, sU_, sU_, sU_, sU_, sU_, sU_, sU_, sU_, sU_, sU_, sU_, sU_, sU_, sU_, sU_, sU_, sU_, sU_, sU_, sU_, sU_]) rfl ?_
      exact kt
    exact law_13 l Z a0 hw fl e1 e2 e3 f2 f3 (0 : Int32) h0 n0 Z0 p e s m below meth c hx hby hml hown hnm hret hlk hZ _ _ _ X0 e0 N0 K0 O BC 
  · -- not (fl &&& (1 : Int32)) = 0
    refine Goes.go (U' := (s₁.setTop (mkF m 13 #[sI_ fl, sJ_ e1, sS_, sJ_ e2, sS_, sJ_ e3, sS_, sJ_ f2, sS_, sJ_ f3, sS_, sI_ (1 : Int32), sU_, sU_, sU_, sU_, sU_, sU_, sU_, sU_, sU_, sU_, sU_, sU_, sU_, sU_, sU_, sU_, sU_, sU_, sU_, sU_, sU_, sU_, sU_, sU_, sU_, sU_, sU_, sU_, sU_, sU_, sU_, sU_, sU_, sU_, sU_, sU_, sU_, sU_, sU_, sU_] []))) (fun t kt => ?_) ?_
    · skip
      refine XS.ifNo X0.here hx rfl (hb hby at_3) rfl (XT.i0_eq_f cc) ?_
      refine XS.iconst X0.here hx rfl (hb hby at_6) ?_
      refine XS.goto X0.here hx rfl (pc0 := 7) (pc' := 11) rfl (hb hby at_7) (by decide) (by decide) ?_
      refine XS.istore X0.here hx rfl (hb hby at_11) rfl (l' := #[sI_ fl, sJ_ e1, sS_, sJ_ e2, sS_, sJ_ e3, sS_, sJ_ f2, sS_, sJ_ f3, sS_, sI_ (1 : Int32), sU_, sU_, sU_, sU_, sU_, sU_, sU_, sU_, sU_, sU_, sU_, sU_, sU_, sU_, sU_, sU_, sU_, sU_, sU_, sU_, sU_, sU_, sU_, sU_, sU_, sU_, sU_, sU_, sU_, sU_, sU_, sU_, sU_, sU_, sU_, sU_, sU_, sU_, sU_, sU_]) rfl ?_
      exact kt
    exact law_13 l Z a0 hw fl e1 e2 e3 f2 f3 (1 : Int32) h0 n0 Z0 p e s m below meth c hx hby hml hown hnm hret hlk hZ _ _ _ X0 e0 N0 K0 O BC 
set_option maxRecDepth 65536 in
set_option maxHeartbeats 40000000 in
theorem comes_1 {Post : Tables → Env → Array Value → State → Outcome → State → Prop} (hpost : ∀ tb e args s v u, (limb_1_1.after args s (.returned v) u = true ∧ limb_1_2.after args s (.returned v) u = true) → FrameEnd s (.returned v) u (Jvm.fieldLocs frame_1_writes args s ++ Jvm.arrayLocs frame_1_arrays args s ++ Jvm.staticLocs frame_1_statics s) 32 128 → Post tb e args s (.returned v) u) :
    ArmFor flags0 classFile x code maxLocals ret World_1 tables_1 room_1 Calls_1 rest_1 Pre_1 Post := by
  intro l hfl _ _ p e ha hc hk s m args below hf hA hF happ hP
  obtain ⟨hcalls, hrest, hpre⟩ := hP
  obtain ⟨-, -, -, hnamed, -, -, -, hat⟩ := (Spec.applies_iff hf).mp happ
  obtain ⟨hg, hn⟩ := and_e (Cond.before_iff.mp (show (Jvm.Cond.and given_1 narrow_1).before args s = true from hpre))
  obtain ⟨gc, gs⟩ := and_e hg
  obtain ⟨ga0, gs⟩ := and_e gs
  obtain ⟨ga1, gs⟩ := and_e gs
  obtain ⟨ga2, gs⟩ := and_e gs
  obtain ⟨ga3, gs⟩ := and_e gs
  obtain ⟨ga4, gs⟩ := and_e gs
  have ga5 := gs
  obtain ⟨w0, w1, w2, w3, w4, w5, rfl⟩ : ∃ w0 w1 w2 w3 w4 w5 : Value, args = #[w0, w1, w2, w3, w4, w5] := by
    have hs : args.size = 6 := by simpa [Cond.value, given_1] using gc
    obtain ⟨L⟩ := args
    match L, hs with
    | [w0, w1, w2, w3, w4, w5], _ => exact ⟨w0, w1, w2, w3, w4, w5, rfl⟩
  have hw := fun d (hd : d ∈ tables_1) => atoms_spec (ws := Jvm.Cond.code x code maxLocals ret :: tables_1) hat d (List.mem_cons_of_mem _ hd)
  have hfit : Fit s := fun {y c} hc i hi => by
    obtain ⟨ha, rfl⟩ := Array.getElem?_eq_some_iff.mp hc
    have q := List.all_eq_true.mp ((Array.all_eq_true_iff_forall_mem.mp hF) _ (Array.getElem_mem ha)) i (List.mem_range.mpr hi)
    simpa [Array.getElem?_eq_getElem hi] using q
  obtain ⟨i0, ei0⟩ := is_v ga0
  obtain rfl : w0 = (.int i0) := Option.some.inj ei0
  obtain ⟨i1, ei1⟩ := isL_v ga1
  obtain rfl : w1 = (.long i1) := Option.some.inj ei1
  obtain ⟨i2, ei2⟩ := isL_v ga2
  obtain rfl : w2 = (.long i2) := Option.some.inj ei2
  obtain ⟨i3, ei3⟩ := isL_v ga3
  obtain rfl : w3 = (.long i3) := Option.some.inj ei3
  obtain ⟨i4, ei4⟩ := isL_v ga4
  obtain rfl : w4 = (.long i4) := Option.some.inj ei4
  obtain ⟨i5, ei5⟩ := isL_v ga5
  obtain rfl : w5 = (.long i5) := Option.some.inj ei5
  obtain ⟨hsets, hown0⟩ := atoms_of _ (rest_1_c_eq ▸ (show rest_1_c.before _ s = true from hrest))
  have BC : BoxC s "java/lang/Long$LongCache" "[Ljava/lang/Long;" "java/lang/Long" "J" (fun i => .long (i.toInt32 - 128).toInt64) := BoxC.start (wdOf hw 115 rfl) (wdOf hsets 0 rfl) (wdOf hsets 2 rfl) (wdOf hsets 4 rfl) (wdOf hsets 5 rfl) (fun _ => rfl) (fun _ => Or.inr ⟨_, rfl⟩)
  obtain ⟨n, o, h1, h2, h3, _, L, rfl, ⟨rfl, N⟩, hq⟩ := rm_law l s _ hw tables_1 i0 i1 i2 i3 i4 i5 s.heap s.heap.size (Nat.le_refl _) (Old.start s) BC p e ha hc hk s m _ below hf ((Spec.applies_iff_loose hf).mp happ).1 ⟨rfl, State.Warmed39.refl s, rfl⟩ trivial
  refine ⟨n, _, h1, h2, h3, hpost _ _ _ _ _ _ ⟨Cond.after_iff.mpr rfl, Cond.after_iff.mpr (eq_i res_at (Term.int_eval (1)) rfl)⟩ ⟨hq.1, hq.2.1, (hq.2.2.sift fun y hy => Or.inr (N y hy)).mono (by decide) (by decide)⟩⟩
theorem main_1_1 : Claimed_1_1 := comes_1 fun _ _ _ _ _ _ h hF => ⟨h.1, hF⟩
theorem main_1_2 : Claimed_1_2 := comes_1 fun _ _ _ _ _ _ h hF => ⟨h.2, hF⟩
end Jvm.Pilot.@@N@@
namespace Jvm.Pilot.@@N@@
open Jvm Jvm.ClassFile Sem Op Lib Jvm.Free Jvm.Stand Jvm.Pilot.@@N@@.Jvm.D
/-! MADE BY PROGRAM (witnessworld.py) out of the Statement's table words and the real class files: 19 classes; the members and pool entries that the words name. The judged class is class 1, her method 2. -/
namespace start1
open Jvm.ClassFile
def u (s : String) : CpInfo := .utf8 (stringToUtf16 s)
/-- a pool by its gaps: so many unusable entries, then the entry; so many at the end -/
def gap : Nat → List CpInfo → List CpInfo
  | 0, r => r
  | n + 1, r => .unusable :: gap n r
def poolList (es : List (Nat × CpInfo)) (last : Nat) : List CpInfo := es.foldr (fun e r => gap e.1 (e.2 :: r)) (gap last [])
def pool (es : List (Nat × CpInfo)) (last : Nat) : Array CpInfo := ⟨poolList es last⟩
def fileOf (pool : Array CpInfo) (this : Nat) (attrs : Array Attribute := #[]) (ms : Array MethodInfo := #[]) (fl : Nat := 33) (sup : Nat := 0) (ifs : Array Nat := #[]) (fds : Array FieldInfo := #[]) : ClassFile where
  minorVersion := 0
  majorVersion := 65
  constantPool := pool
  accessFlags := fl
  thisClass := this
  superClass := sup
  interfaces := ifs
  fields := fds
  methods := ms
  attributes := attrs
def plain (name : String) (sup : Option ClassId) : Class where
  name := name
  kind := .ordinary
  loader := none
  accessFlags := 33
  super := sup
  interfaces := #[]
  cf := none
  fields := #[]
  methods := #[]
  instanceTypes := #[]
  staticTypes := #[]
  resolved := #[]
  callSites := []
  init := .initialized
  statics := none
  mirror := none

def pool0 : Array CpInfo := pool [(5, u "<init>"), (0, u "()V"), (1, .class_ 10), (1, u "java/lang/Object")] 113

def k0c0 : Code := { maxStack := 0, maxLocals := 1, code := object_method_1_code, exceptionTable := #[], attributes := #[] }
def k0m0 : Method := { name := "<init>", desc := "()V", sig := { parameters := [], returnType := none }, accessFlags := 1, code := some k0c0 }
/-- java/lang/Object -/
def k0 : Class := { plain "java/lang/Object" none with
  accessFlags := 33
  interfaces := #[]
  cf := some (fileOf pool0 8 #[] #[{ accessFlags := 1, nameIndex := 5, descriptorIndex := 6, attributes := #[] }] 33 0 #[] #[])
  fields := #[]
  methods := #[k0m0]
  instanceTypes := #[]
  staticTypes := #[]
  resolved := Array.replicate 124 none
  statics := none }

def pool1 : Array CpInfo := pool [(2, .class_ 4), (0, .nameAndType 5 6), (0, u "java/lang/Object"), (0, u "<init>"), (0, u "()V"), (0, .methodref 8 9), (0, .class_ 10), (0, .nameAndType 11 12), (0, u "java/lang/Long"), (0, u "longValue"), (0, u "()J"), (0, .methodref 8 14), (0, .nameAndType 15 16), (0, u "valueOf"), (0, u "(J)Ljava/lang/Long;"), (0, .class_ 18), (0, u "com/example/dead_letter_replay/deadletterreplay/queue/Carries$Carried"), (0, .methodref 17 20), (0, .nameAndType 5 21), (0, u "(Ljava/lang/Long;JJI)V"), (0, .class_ 23), (0, u "com/example/dead_letter_replay/deadletterreplay/queue/Carries"), (0, .methodref 22 3), (0, .methodref 22 26), (0, .nameAndType 27 28), (0, u "floor"), (0, u "()Ljava/lang/Long;"), (0, .methodref 22 30), (0, .nameAndType 31 32), (0, u "carried"), (0, u "(Lcom/example/dead_letter_replay/deadletterreplay/queue/Carries$Carried;)V"), (0, .methodref 34 35), (0, .class_ 36), (0, .nameAndType 37 38), (0, u "com/example/dead_letter_replay/deadletterreplay/queue/CarriesFloorPinLaw"), (0, u "is"), (0, u "(Ljava/lang/Long;ZJ)Z"), (3, u "law"), (0, u "(IJJJJJ)Z")] 4

def k1m0 : Method := { name := "<init>", desc := "()V", sig := { parameters := [], returnType := none }, accessFlags := 1, code := none }
def k1c1 : Code := { maxStack := 4, maxLocals := 4, code := method_2_code, exceptionTable := #[], attributes := #[] }
def k1m1 : Method := { name := "is", desc := "(Ljava/lang/Long;ZJ)Z", sig := { parameters := [(.object "java/lang/Long"), .boolean, .long], returnType := some .boolean }, accessFlags := 10, code := some k1c1 }
def k1c2 : Code := { maxStack := 8, maxLocals := 52, code := code, exceptionTable := #[], attributes := #[] }
def k1m2 : Method := { name := "law", desc := "(IJJJJJ)Z", sig := { parameters := [.int, .long, .long, .long, .long, .long], returnType := some .boolean }, accessFlags := 9, code := some k1c2 }
/-- com/example/dead_letter_replay/deadletterreplay/queue/CarriesFloorPinLaw -/
def k1 : Class := { plain "com/example/dead_letter_replay/deadletterreplay/queue/CarriesFloorPinLaw" (some 0) with
  accessFlags := 49
  interfaces := #[]
  cf := some (fileOf pool1 34 #[] #[{ accessFlags := 1, nameIndex := 5, descriptorIndex := 6, attributes := #[] }, { accessFlags := 10, nameIndex := 37, descriptorIndex := 38, attributes := #[] }, { accessFlags := 9, nameIndex := 42, descriptorIndex := 43, attributes := #[] }] 49 2 #[] #[])
  fields := #[]
  methods := #[k1m0, k1m1, k1m2]
  instanceTypes := #[]
  staticTypes := #[]
  resolved := Array.replicate 48 none
  statics := none }

def pool2 : Array CpInfo := pool [(1, .methodref 2 3), (0, .class_ 4), (0, .nameAndType 5 6), (0, u "java/lang/Object"), (0, u "<init>"), (0, u "()V"), (0, .fieldref 8 9), (0, .class_ 10), (0, .nameAndType 11 12), (0, u "com/example/dead_letter_replay/deadletterreplay/queue/Carries"), (0, u "since"), (0, u "I"), (1, .class_ 16), (1, u "java/lang/Math"), (2, .fieldref 8 20), (0, .nameAndType 21 12), (0, u "risk"), (0, .fieldref 8 23), (0, .nameAndType 24 25), (0, u "held"), (0, u "Z"), (0, .fieldref 8 27), (0, .nameAndType 28 29), (0, u "first"), (0, u "Ljava/lang/Long;"), (0, .fieldref 8 31), (0, .nameAndType 32 33), (0, u "last"), (0, u "Lcom/example/dead_letter_replay/deadletterreplay/queue/Carries$Carried;"), (0, .methodref 8 35), (0, .nameAndType 36 37), (0, u "leftIfUndone"), (0, u "(Lcom/example/dead_letter_replay/deadletterreplay/queue/Carries$Carried;)I"), (0, .methodref 39 40), (0, .class_ 41), (0, .nameAndType 42 43), (0, u "com/example/dead_letter_replay/deadletterreplay/queue/Carries$Carried"), (0, u "era"), (0, u "()J"), (0, .methodref 45 46), (0, .class_ 47), (0, .nameAndType 48 49), (0, u "java/lang/Long"), (0, u "valueOf"), (0, u "(J)Ljava/lang/Long;"), (0, .methodref 39 51), (0, .nameAndType 52 53), (0, u "backend"), (0, u "()I"), (0, .methodref 39 55), (0, .nameAndType 56 43), (0, u "transaction"), (0, .methodref 39 58), (0, .nameAndType 59 60), (0, u "from"), (0, u "()Ljava/lang/Long;"), (0, .methodref 8 62), (0, .nameAndType 63 60), (0, u "floor"), (0, .methodref 8 65), (0, .nameAndType 66 37), (0, u "countedBefore"), (0, .methodref 45 68), (0, .nameAndType 69 43), (0, u "longValue"), (0, .methodref 14 71), (0, .nameAndType 72 73), (0, u "min"), (0, u "(JJ)J"), (0, .methodref 45 75), (0, .nameAndType 76 77), (0, u "equals"), (0, u "(Ljava/lang/Object;)Z"), (6, u "carried"), (0, u "(Lcom/example/dead_letter_replay/deadletterreplay/queue/Carries$Carried;)V")] 5

def k2c0 : Code := { maxStack := 1, maxLocals := 1, code := prog_11_method_1_code, exceptionTable := #[], attributes := #[] }
def k2m0 : Method := { name := "<init>", desc := "()V", sig := { parameters := [], returnType := none }, accessFlags := 0, code := some k2c0 }
def k2c1 : Code := { maxStack := 1, maxLocals := 1, code := prog_11_method_4_code, exceptionTable := #[], attributes := #[] }
def k2m1 : Method := { name := "floor", desc := "()Ljava/lang/Long;", sig := { parameters := [], returnType := some (.object "java/lang/Long") }, accessFlags := 0, code := some k2c1 }
def k2c2 : Code := { maxStack := 3, maxLocals := 2, code := prog_11_method_5_code, exceptionTable := #[], attributes := #[] }
def k2m2 : Method := { name := "carried", desc := "(Lcom/example/dead_letter_replay/deadletterreplay/queue/Carries$Carried;)V", sig := { parameters := [(.object "com/example/dead_letter_replay/deadletterreplay/queue/Carries$Carried")], returnType := none }, accessFlags := 0, code := some k2c2 }
def k2c3 : Code := { maxStack := 6, maxLocals := 4, code := prog_11_method_6_code, exceptionTable := #[], attributes := #[] }
def k2m3 : Method := { name := "leftIfUndone", desc := "(Lcom/example/dead_letter_replay/deadletterreplay/queue/Carries$Carried;)I", sig := { parameters := [(.object "com/example/dead_letter_replay/deadletterreplay/queue/Carries$Carried")], returnType := some .int }, accessFlags := 2, code := some k2c3 }
def k2c4 : Code := { maxStack := 2, maxLocals := 2, code := prog_11_method_7_code, exceptionTable := #[], attributes := #[] }
def k2m4 : Method := { name := "countedBefore", desc := "(Lcom/example/dead_letter_replay/deadletterreplay/queue/Carries$Carried;)I", sig := { parameters := [(.object "com/example/dead_letter_replay/deadletterreplay/queue/Carries$Carried")], returnType := some .int }, accessFlags := 2, code := some k2c4 }
/-- com/example/dead_letter_replay/deadletterreplay/queue/Carries -/
def k2 : Class := { plain "com/example/dead_letter_replay/deadletterreplay/queue/Carries" (some 0) with
  accessFlags := 48
  interfaces := #[]
  cf := some (fileOf pool2 8 #[.nestMembers #[39]] #[{ accessFlags := 0, nameIndex := 5, descriptorIndex := 6, attributes := #[] }, { accessFlags := 0, nameIndex := 63, descriptorIndex := 60, attributes := #[] }, { accessFlags := 0, nameIndex := 84, descriptorIndex := 85, attributes := #[] }, { accessFlags := 2, nameIndex := 36, descriptorIndex := 37, attributes := #[] }, { accessFlags := 2, nameIndex := 66, descriptorIndex := 37, attributes := #[] }] 48 2 #[] #[{ accessFlags := 2, nameIndex := 11, descriptorIndex := 12, attributes := #[] }, { accessFlags := 2, nameIndex := 32, descriptorIndex := 33, attributes := #[] }, { accessFlags := 2, nameIndex := 21, descriptorIndex := 12, attributes := #[] }, { accessFlags := 2, nameIndex := 28, descriptorIndex := 29, attributes := #[] }, { accessFlags := 2, nameIndex := 24, descriptorIndex := 25, attributes := #[] }])
  fields := #[{ name := "since", type := .int, accessFlags := 2, slot := 0, constantValue := 0 }, { name := "last", type := (.object "com/example/dead_letter_replay/deadletterreplay/queue/Carries$Carried"), accessFlags := 2, slot := 1, constantValue := 0 }, { name := "risk", type := .int, accessFlags := 2, slot := 2, constantValue := 0 }, { name := "first", type := (.object "java/lang/Long"), accessFlags := 2, slot := 3, constantValue := 0 }, { name := "held", type := .boolean, accessFlags := 2, slot := 4, constantValue := 0 }]
  methods := #[k2m0, k2m1, k2m2, k2m3, k2m4]
  instanceTypes := #[.int, (.object "com/example/dead_letter_replay/deadletterreplay/queue/Carries$Carried"), .int, (.object "java/lang/Long"), .boolean]
  staticTypes := #[]
  resolved := Array.replicate 91 none
  statics := none }

def pool3 : Array CpInfo := pool [(1, .class_ 2), (0, u "java/io/Serializable"), (0, .class_ 4), (0, u "java/lang/Object")] 2

/-- java/io/Serializable -/
def k3 : Class := { plain "java/io/Serializable" (some 0) with
  accessFlags := 1537
  interfaces := #[]
  cf := some (fileOf pool3 1 #[] #[] 1537 3 #[] #[])
  fields := #[]
  methods := #[]
  instanceTypes := #[]
  staticTypes := #[]
  resolved := Array.replicate 7 none
  statics := none }

def pool4 : Array CpInfo := pool [(1, .methodref 2 3), (0, .class_ 4), (0, .nameAndType 5 6), (0, u "java/lang/Object"), (0, u "<init>"), (0, u "()V"), (1, .class_ 10), (1, u "java/lang/Number"), (2, .class_ 14), (0, u "java/io/Serializable"), (0, u "serialVersionUID"), (0, u "J")] 20

def k4c0 : Code := { maxStack := 1, maxLocals := 1, code := jdk_18_method_1_code, exceptionTable := #[], attributes := #[] }
def k4m0 : Method := { name := "<init>", desc := "()V", sig := { parameters := [], returnType := none }, accessFlags := 1, code := some k4c0 }
/-- java/lang/Number -/
def k4 : Class := { plain "java/lang/Number" (some 0) with
  accessFlags := 1057
  interfaces := #[3]
  cf := some (fileOf pool4 8 #[] #[{ accessFlags := 1, nameIndex := 5, descriptorIndex := 6, attributes := #[] }] 1057 2 #[13] #[{ accessFlags := 26, nameIndex := 15, descriptorIndex := 16, attributes := #[] }])
  fields := #[{ name := "serialVersionUID", type := .long, accessFlags := 26, slot := 0, constantValue := 0 }]
  methods := #[k4m0]
  instanceTypes := #[]
  staticTypes := #[.long]
  resolved := Array.replicate 37 none
  statics := none }

def pool5 : Array CpInfo := pool [(1, .class_ 2), (0, u "java/lang/Comparable"), (0, .class_ 4), (0, u "java/lang/Object")] 7

/-- java/lang/Comparable -/
def k5 : Class := { plain "java/lang/Comparable" (some 0) with
  accessFlags := 1537
  interfaces := #[]
  cf := some (fileOf pool5 1 #[] #[] 1537 3 #[] #[])
  fields := #[]
  methods := #[]
  instanceTypes := #[]
  staticTypes := #[]
  resolved := Array.replicate 12 none
  statics := none }

def pool6 : Array CpInfo := pool [(1, .class_ 2), (0, u "java/lang/constant/Constable"), (0, .class_ 4), (0, u "java/lang/Object")] 6

/-- java/lang/constant/Constable -/
def k6 : Class := { plain "java/lang/constant/Constable" (some 0) with
  accessFlags := 1537
  interfaces := #[]
  cf := some (fileOf pool6 1 #[] #[] 1537 3 #[] #[])
  fields := #[]
  methods := #[]
  instanceTypes := #[]
  staticTypes := #[]
  resolved := Array.replicate 11 none
  statics := none }

def pool7 : Array CpInfo := pool [(1, .class_ 2), (0, u "java/lang/constant/ConstantDesc"), (0, .class_ 4), (0, u "java/lang/Object")] 32

/-- java/lang/constant/ConstantDesc -/
def k7 : Class := { plain "java/lang/constant/ConstantDesc" (some 0) with
  accessFlags := 1537
  interfaces := #[]
  cf := some (fileOf pool7 1 #[] #[] 1537 3 #[] #[])
  fields := #[]
  methods := #[]
  instanceTypes := #[]
  staticTypes := #[]
  resolved := Array.replicate 37 none
  statics := none }

def pool8 : Array CpInfo := pool [(1, .class_ 2), (0, u "java/lang/Long"), (55, .nameAndType 59 60), (0, u "<init>"), (0, u "()V"), (24, u "valueOf"), (143, u "(J)Ljava/lang/Long;"), (0, .long 18446744073709551488), (1, .long 127), (1, .fieldref 235 236), (0, .class_ 237), (0, .nameAndType 238 239), (0, u "java/lang/Long$LongCache"), (0, u "cache"), (0, u "[Ljava/lang/Long;"), (0, .methodref 1 241), (0, .nameAndType 59 242), (0, u "(J)V"), (27, .methodref 271 58), (0, .class_ 272), (0, u "java/lang/Number"), (0, .fieldref 1 274), (0, .nameAndType 275 276), (0, u "value"), (0, u "J"), (3, .methodref 1 281), (0, .nameAndType 282 283), (0, u "longValue"), (0, u "()J"), (77, u "TYPE"), (0, u "Ljava/lang/Class;"), (0, .class_ 364), (0, u "java/lang/Comparable"), (0, .class_ 366), (0, u "java/lang/constant/Constable"), (0, .class_ 368), (0, u "java/lang/constant/ConstantDesc"), (0, u "MIN_VALUE"), (1, u "MAX_VALUE"), (4, u "SIZE"), (0, u "I"), (1, u "BYTES"), (1, u "serialVersionUID"), (77, u "equals"), (0, u "(Ljava/lang/Object;)Z")] 63

def k8c0 : Code := { maxStack := 4, maxLocals := 3, code := jdk_35_method_24_code, exceptionTable := #[], attributes := #[] }
def k8m0 : Method := { name := "valueOf", desc := "(J)Ljava/lang/Long;", sig := { parameters := [.long], returnType := some (.object "java/lang/Long") }, accessFlags := 9, code := some k8c0 }
def k8c1 : Code := { maxStack := 3, maxLocals := 3, code := jdk_35_method_26_code, exceptionTable := #[], attributes := #[] }
def k8m1 : Method := { name := "<init>", desc := "(J)V", sig := { parameters := [.long], returnType := none }, accessFlags := 1, code := some k8c1 }
def k8c2 : Code := { maxStack := 2, maxLocals := 1, code := jdk_35_method_31_code, exceptionTable := #[], attributes := #[] }
def k8m2 : Method := { name := "longValue", desc := "()J", sig := { parameters := [], returnType := some .long }, accessFlags := 1, code := some k8c2 }
def k8c3 : Code := { maxStack := 4, maxLocals := 2, code := jdk_35_method_37_code, exceptionTable := #[], attributes := #[] }
def k8m3 : Method := { name := "equals", desc := "(Ljava/lang/Object;)Z", sig := { parameters := [(.object "java/lang/Object")], returnType := some .boolean }, accessFlags := 1, code := some k8c3 }
/-- java/lang/Long -/
def k8 : Class := { plain "java/lang/Long" (some 4) with
  accessFlags := 49
  interfaces := #[5, 6, 7]
  cf := some (fileOf pool8 1 #[.nestMembers #[235]] #[{ accessFlags := 9, nameIndex := 85, descriptorIndex := 229, attributes := #[] }, { accessFlags := 1, nameIndex := 59, descriptorIndex := 242, attributes := #[] }, { accessFlags := 1, nameIndex := 282, descriptorIndex := 283, attributes := #[] }, { accessFlags := 1, nameIndex := 459, descriptorIndex := 460, attributes := #[] }] 49 271 #[363, 365, 367] #[{ accessFlags := 25, nameIndex := 369, descriptorIndex := 276, attributes := #[] }, { accessFlags := 25, nameIndex := 371, descriptorIndex := 276, attributes := #[] }, { accessFlags := 25, nameIndex := 361, descriptorIndex := 362, attributes := #[] }, { accessFlags := 18, nameIndex := 275, descriptorIndex := 276, attributes := #[] }, { accessFlags := 25, nameIndex := 376, descriptorIndex := 377, attributes := #[] }, { accessFlags := 25, nameIndex := 379, descriptorIndex := 377, attributes := #[] }, { accessFlags := 26, nameIndex := 381, descriptorIndex := 276, attributes := #[] }])
  fields := #[{ name := "MIN_VALUE", type := .long, accessFlags := 25, slot := 0, constantValue := 0 }, { name := "MAX_VALUE", type := .long, accessFlags := 25, slot := 1, constantValue := 0 }, { name := "TYPE", type := (.object "java/lang/Class"), accessFlags := 25, slot := 2, constantValue := 0 }, { name := "value", type := .long, accessFlags := 18, slot := 0, constantValue := 0 }, { name := "SIZE", type := .int, accessFlags := 25, slot := 3, constantValue := 0 }, { name := "BYTES", type := .int, accessFlags := 25, slot := 4, constantValue := 0 }, { name := "serialVersionUID", type := .long, accessFlags := 26, slot := 5, constantValue := 0 }]
  methods := #[k8m0, k8m1, k8m2, k8m3]
  instanceTypes := #[.long]
  staticTypes := #[.long, .long, (.object "java/lang/Class"), .int, .int, .long]
  resolved := Array.replicate 524 none
  statics := none }

def pool9 : Array CpInfo := pool [(1, .methodref 2 3), (0, .class_ 4), (0, .nameAndType 5 6), (0, u "java/lang/Object"), (0, u "<init>"), (0, u "()V"), (0, .class_ 8), (0, u "java/lang/Record")] 13

def k9c0 : Code := { maxStack := 1, maxLocals := 1, code := jdk_30_method_1_code, exceptionTable := #[], attributes := #[] }
def k9m0 : Method := { name := "<init>", desc := "()V", sig := { parameters := [], returnType := none }, accessFlags := 4, code := some k9c0 }
/-- java/lang/Record -/
def k9 : Class := { plain "java/lang/Record" (some 0) with
  accessFlags := 1057
  interfaces := #[]
  cf := some (fileOf pool9 7 #[] #[{ accessFlags := 4, nameIndex := 5, descriptorIndex := 6, attributes := #[] }] 1057 2 #[] #[])
  fields := #[]
  methods := #[k9m0]
  instanceTypes := #[]
  staticTypes := #[]
  resolved := Array.replicate 22 none
  statics := none }

def pool10 : Array CpInfo := pool [(1, .methodref 2 3), (0, .class_ 4), (0, .nameAndType 5 6), (0, u "java/lang/Record"), (0, u "<init>"), (0, u "()V"), (0, .fieldref 8 9), (0, .class_ 10), (0, .nameAndType 11 12), (0, u "com/example/dead_letter_replay/deadletterreplay/queue/Carries$Carried"), (0, u "from"), (0, u "Ljava/lang/Long;"), (0, .fieldref 8 14), (0, .nameAndType 15 16), (0, u "era"), (0, u "J"), (0, .fieldref 8 18), (0, .nameAndType 19 16), (0, u "transaction"), (0, .fieldref 8 21), (0, .nameAndType 22 23), (0, u "backend"), (0, u "I"), (12, u "(Ljava/lang/Long;JJI)V"), (4, u "()I"), (1, u "()Ljava/lang/Long;"), (0, u "()J"), (3, .class_ 49), (0, u "com/example/dead_letter_replay/deadletterreplay/queue/Carries")] 22

def k10c0 : Code := { maxStack := 3, maxLocals := 7, code := prog_12_method_1_code, exceptionTable := #[], attributes := #[] }
def k10m0 : Method := { name := "<init>", desc := "(Ljava/lang/Long;JJI)V", sig := { parameters := [(.object "java/lang/Long"), .long, .long, .int], returnType := none }, accessFlags := 0, code := some k10c0 }
def k10c1 : Code := { maxStack := 1, maxLocals := 1, code := prog_12_method_5_code, exceptionTable := #[], attributes := #[] }
def k10m1 : Method := { name := "from", desc := "()Ljava/lang/Long;", sig := { parameters := [], returnType := some (.object "java/lang/Long") }, accessFlags := 1, code := some k10c1 }
def k10c2 : Code := { maxStack := 2, maxLocals := 1, code := prog_12_method_6_code, exceptionTable := #[], attributes := #[] }
def k10m2 : Method := { name := "era", desc := "()J", sig := { parameters := [], returnType := some .long }, accessFlags := 1, code := some k10c2 }
def k10c3 : Code := { maxStack := 2, maxLocals := 1, code := prog_12_method_7_code, exceptionTable := #[], attributes := #[] }
def k10m3 : Method := { name := "transaction", desc := "()J", sig := { parameters := [], returnType := some .long }, accessFlags := 1, code := some k10c3 }
def k10c4 : Code := { maxStack := 1, maxLocals := 1, code := prog_12_method_8_code, exceptionTable := #[], attributes := #[] }
def k10m4 : Method := { name := "backend", desc := "()I", sig := { parameters := [], returnType := some .int }, accessFlags := 1, code := some k10c4 }
/-- com/example/dead_letter_replay/deadletterreplay/queue/Carries$Carried -/
def k10 : Class := { plain "com/example/dead_letter_replay/deadletterreplay/queue/Carries$Carried" (some 9) with
  accessFlags := 48
  interfaces := #[]
  cf := some (fileOf pool10 8 #[.nestHost 48] #[{ accessFlags := 0, nameIndex := 5, descriptorIndex := 36, attributes := #[] }, { accessFlags := 1, nameIndex := 11, descriptorIndex := 43, attributes := #[] }, { accessFlags := 1, nameIndex := 15, descriptorIndex := 44, attributes := #[] }, { accessFlags := 1, nameIndex := 19, descriptorIndex := 44, attributes := #[] }, { accessFlags := 1, nameIndex := 22, descriptorIndex := 41, attributes := #[] }] 48 2 #[] #[{ accessFlags := 18, nameIndex := 11, descriptorIndex := 12, attributes := #[] }, { accessFlags := 18, nameIndex := 15, descriptorIndex := 16, attributes := #[] }, { accessFlags := 18, nameIndex := 19, descriptorIndex := 16, attributes := #[] }, { accessFlags := 18, nameIndex := 22, descriptorIndex := 23, attributes := #[] }])
  fields := #[{ name := "from", type := (.object "java/lang/Long"), accessFlags := 18, slot := 0, constantValue := 0 }, { name := "era", type := .long, accessFlags := 18, slot := 1, constantValue := 0 }, { name := "transaction", type := .long, accessFlags := 18, slot := 2, constantValue := 0 }, { name := "backend", type := .int, accessFlags := 18, slot := 3, constantValue := 0 }]
  methods := #[k10m0, k10m1, k10m2, k10m3, k10m4]
  instanceTypes := #[(.object "java/lang/Long"), .long, .long, .int]
  staticTypes := #[]
  resolved := Array.replicate 72 none
  statics := none }

def pool11 : Array CpInfo := pool [(1, .class_ 2), (0, u "java/lang/Math"), (1, .class_ 6), (1, u "java/lang/Object"), (0, u "<init>"), (0, u "()V"), (89, .class_ 100), (1, u "java/lang/Math$RandomNumberGeneratorHolder"), (20, u "(JJ)J"), (50, u "negativeZeroFloatBits"), (0, u "J"), (2, u "negativeZeroDoubleBits"), (24, u "min"), (43, u "$assertionsDisabled"), (0, u "Z"), (91, u "twoToTheDoubleScaleDown"), (0, u "D"), (4, u "twoToTheDoubleScaleUp"), (9, u "E"), (3, u "PI"), (2, u "TAU"), (2, u "DEGREES_TO_RADIANS"), (0, u "RADIANS_TO_DEGREES")] 94

def k11m0 : Method := { name := "<init>", desc := "()V", sig := { parameters := [], returnType := none }, accessFlags := 2, code := none }
def k11c1 : Code := { maxStack := 4, maxLocals := 4, code := jdk_29_method_70_code, exceptionTable := #[], attributes := #[] }
def k11m1 : Method := { name := "min", desc := "(JJ)J", sig := { parameters := [.long, .long], returnType := some .long }, accessFlags := 9, code := some k11c1 }
/-- java/lang/Math -/
def k11 : Class := { plain "java/lang/Math" (some 0) with
  accessFlags := 49
  interfaces := #[]
  cf := some (fileOf pool11 1 #[.nestMembers #[98]] #[{ accessFlags := 2, nameIndex := 7, descriptorIndex := 8, attributes := #[] }, { accessFlags := 9, nameIndex := 201, descriptorIndex := 121, attributes := #[] }] 49 4 #[] #[{ accessFlags := 25, nameIndex := 354, descriptorIndex := 339, attributes := #[] }, { accessFlags := 25, nameIndex := 358, descriptorIndex := 339, attributes := #[] }, { accessFlags := 25, nameIndex := 361, descriptorIndex := 339, attributes := #[] }, { accessFlags := 26, nameIndex := 364, descriptorIndex := 339, attributes := #[] }, { accessFlags := 26, nameIndex := 365, descriptorIndex := 339, attributes := #[] }, { accessFlags := 26, nameIndex := 172, descriptorIndex := 173, attributes := #[] }, { accessFlags := 26, nameIndex := 176, descriptorIndex := 173, attributes := #[] }, { accessFlags := 8, nameIndex := 344, descriptorIndex := 339, attributes := #[] }, { accessFlags := 8, nameIndex := 338, descriptorIndex := 339, attributes := #[] }, { accessFlags := 4120, nameIndex := 245, descriptorIndex := 246, attributes := #[] }])
  fields := #[{ name := "E", type := .double, accessFlags := 25, slot := 0, constantValue := 0 }, { name := "PI", type := .double, accessFlags := 25, slot := 1, constantValue := 0 }, { name := "TAU", type := .double, accessFlags := 25, slot := 2, constantValue := 0 }, { name := "DEGREES_TO_RADIANS", type := .double, accessFlags := 26, slot := 3, constantValue := 0 }, { name := "RADIANS_TO_DEGREES", type := .double, accessFlags := 26, slot := 4, constantValue := 0 }, { name := "negativeZeroFloatBits", type := .long, accessFlags := 26, slot := 5, constantValue := 0 }, { name := "negativeZeroDoubleBits", type := .long, accessFlags := 26, slot := 6, constantValue := 0 }, { name := "twoToTheDoubleScaleUp", type := .double, accessFlags := 8, slot := 7, constantValue := 0 }, { name := "twoToTheDoubleScaleDown", type := .double, accessFlags := 8, slot := 8, constantValue := 0 }, { name := "$assertionsDisabled", type := .boolean, accessFlags := 4120, slot := 9, constantValue := 0 }]
  methods := #[k11m0, k11m1]
  instanceTypes := #[]
  staticTypes := #[.double, .double, .double, .double, .double, .long, .long, .double, .double, .boolean]
  resolved := Array.replicate 460 none
  statics := none }

def pool12 : Array CpInfo := pool [(2, .class_ 4), (1, u "java/lang/Object"), (0, u "<init>"), (0, u "()V"), (0, .class_ 8), (0, u "java/lang/Long"), (7, .class_ 18), (1, u "java/lang/Long$LongCache"), (0, u "$assertionsDisabled"), (0, u "Z"), (8, u "archivedCache"), (0, u "[Ljava/lang/Long;"), (7, u "cache")] 24

def k12m0 : Method := { name := "<init>", desc := "()V", sig := { parameters := [], returnType := none }, accessFlags := 2, code := none }
/-- java/lang/Long$LongCache -/
def k12 : Class := { plain "java/lang/Long$LongCache" (some 0) with
  accessFlags := 48
  interfaces := #[]
  cf := some (fileOf pool12 16 #[.nestHost 7] #[{ accessFlags := 2, nameIndex := 5, descriptorIndex := 6, attributes := #[] }] 48 2 #[] #[{ accessFlags := 24, nameIndex := 38, descriptorIndex := 30, attributes := #[] }, { accessFlags := 8, nameIndex := 29, descriptorIndex := 30, attributes := #[] }, { accessFlags := 4120, nameIndex := 19, descriptorIndex := 20, attributes := #[] }])
  fields := #[{ name := "cache", type := (.array (.object "java/lang/Long")), accessFlags := 24, slot := 0, constantValue := 0 }, { name := "archivedCache", type := (.array (.object "java/lang/Long")), accessFlags := 8, slot := 1, constantValue := 0 }, { name := "$assertionsDisabled", type := .boolean, accessFlags := 4120, slot := 2, constantValue := 0 }]
  methods := #[k12m0]
  instanceTypes := #[]
  staticTypes := #[(.array (.object "java/lang/Long")), (.array (.object "java/lang/Long")), .boolean]
  resolved := Array.replicate 63 none
  statics := some 0 }

def pool13 : Array CpInfo := pool [(1, u "java/lang/Cloneable"), (0, .class_ 1), (0, u "java/lang/Object"), (0, .class_ 3)] 3

/-- java/lang/Cloneable -/
def k13 : Class := { plain "java/lang/Cloneable" (some 0) with
  accessFlags := 1537
  interfaces := #[]
  cf := some (fileOf pool13 2 #[] #[] 1537 4 #[] #[])
  fields := #[]
  methods := #[]
  instanceTypes := #[]
  staticTypes := #[]
  resolved := Array.replicate 8 none
  statics := none }

/-- the primitive byte -/
def k14 : Class := { plain "byte" none with kind := .primitive 'B', accessFlags := 0x411 }
/-- [B -/
def k15 : Class := { plain "[B" (some 0) with kind := .array 14 .byte, interfaces := #[13, 3], accessFlags := 1041 }

/-- the primitive int -/
def k16 : Class := { plain "int" none with kind := .primitive 'I', accessFlags := 0x411 }
/-- [I -/
def k17 : Class := { plain "[I" (some 0) with kind := .array 16 .int, interfaces := #[13, 3], accessFlags := 1041 }

/-- [Ljava/lang/Long; -/
def k18 : Class := { plain "[Ljava/lang/Long;" (some 0) with kind := .array 8 (.object "java/lang/Long"), interfaces := #[13, 3], accessFlags := 1041 }

def heap : Heap := #[{ cls := 12, slots := #[.ref 1, .null, .int 0], vm := .statics 12 },
  { cls := 18, slots := #[.ref 2, .ref 3, .ref 4, .ref 5, .ref 6, .ref 7, .ref 8, .ref 9, .ref 10, .ref 11, .ref 12, .ref 13, .ref 14, .ref 15, .ref 16, .ref 17, .ref 18, .ref 19, .ref 20, .ref 21, .ref 22, .ref 23, .ref 24, .ref 25, .ref 26, .ref 27, .ref 28, .ref 29, .ref 30, .ref 31, .ref 32, .ref 33, .ref 34, .ref 35, .ref 36, .ref 37, .ref 38, .ref 39, .ref 40, .ref 41, .ref 42, .ref 43, .ref 44, .ref 45, .ref 46, .ref 47, .ref 48, .ref 49, .ref 50, .ref 51, .ref 52, .ref 53, .ref 54, .ref 55, .ref 56, .ref 57, .ref 58, .ref 59, .ref 60, .ref 61, .ref 62, .ref 63, .ref 64, .ref 65, .ref 66, .ref 67, .ref 68, .ref 69, .ref 70, .ref 71, .ref 72, .ref 73, .ref 74, .ref 75, .ref 76, .ref 77, .ref 78, .ref 79, .ref 80, .ref 81, .ref 82, .ref 83, .ref 84, .ref 85, .ref 86, .ref 87, .ref 88, .ref 89, .ref 90, .ref 91, .ref 92, .ref 93, .ref 94, .ref 95, .ref 96, .ref 97, .ref 98, .ref 99, .ref 100, .ref 101, .ref 102, .ref 103, .ref 104, .ref 105, .ref 106, .ref 107, .ref 108, .ref 109, .ref 110, .ref 111, .ref 112, .ref 113, .ref 114, .ref 115, .ref 116, .ref 117, .ref 118, .ref 119, .ref 120, .ref 121, .ref 122, .ref 123, .ref 124, .ref 125, .ref 126, .ref 127, .ref 128, .ref 129, .ref 130, .ref 131, .ref 132, .ref 133, .ref 134, .ref 135, .ref 136, .ref 137, .ref 138, .ref 139, .ref 140, .ref 141, .ref 142, .ref 143, .ref 144, .ref 145, .ref 146, .ref 147, .ref 148, .ref 149, .ref 150, .ref 151, .ref 152, .ref 153, .ref 154, .ref 155, .ref 156, .ref 157, .ref 158, .ref 159, .ref 160, .ref 161, .ref 162, .ref 163, .ref 164, .ref 165, .ref 166, .ref 167, .ref 168, .ref 169, .ref 170, .ref 171, .ref 172, .ref 173, .ref 174, .ref 175, .ref 176, .ref 177, .ref 178, .ref 179, .ref 180, .ref 181, .ref 182, .ref 183, .ref 184, .ref 185, .ref 186, .ref 187, .ref 188, .ref 189, .ref 190, .ref 191, .ref 192, .ref 193, .ref 194, .ref 195, .ref 196, .ref 197, .ref 198, .ref 199, .ref 200, .ref 201, .ref 202, .ref 203, .ref 204, .ref 205, .ref 206, .ref 207, .ref 208, .ref 209, .ref 210, .ref 211, .ref 212, .ref 213, .ref 214, .ref 215, .ref 216, .ref 217, .ref 218, .ref 219, .ref 220, .ref 221, .ref 222, .ref 223, .ref 224, .ref 225, .ref 226, .ref 227, .ref 228, .ref 229, .ref 230, .ref 231, .ref 232, .ref 233, .ref 234, .ref 235, .ref 236, .ref 237, .ref 238, .ref 239, .ref 240, .ref 241, .ref 242, .ref 243, .ref 244, .ref 245, .ref 246, .ref 247, .ref 248, .ref 249, .ref 250, .ref 251, .ref 252, .ref 253, .ref 254, .ref 255, .ref 256, .ref 257], vm := .none },
  { cls := 8, slots := #[.long (-128)], vm := .none },
  { cls := 8, slots := #[.long (-127)], vm := .none },
  { cls := 8, slots := #[.long (-126)], vm := .none },
  { cls := 8, slots := #[.long (-125)], vm := .none },
  { cls := 8, slots := #[.long (-124)], vm := .none },
  { cls := 8, slots := #[.long (-123)], vm := .none },
  { cls := 8, slots := #[.long (-122)], vm := .none },
  { cls := 8, slots := #[.long (-121)], vm := .none },
  { cls := 8, slots := #[.long (-120)], vm := .none },
  { cls := 8, slots := #[.long (-119)], vm := .none },
  { cls := 8, slots := #[.long (-118)], vm := .none },
  { cls := 8, slots := #[.long (-117)], vm := .none },
  { cls := 8, slots := #[.long (-116)], vm := .none },
  { cls := 8, slots := #[.long (-115)], vm := .none },
  { cls := 8, slots := #[.long (-114)], vm := .none },
  { cls := 8, slots := #[.long (-113)], vm := .none },
  { cls := 8, slots := #[.long (-112)], vm := .none },
  { cls := 8, slots := #[.long (-111)], vm := .none },
  { cls := 8, slots := #[.long (-110)], vm := .none },
  { cls := 8, slots := #[.long (-109)], vm := .none },
  { cls := 8, slots := #[.long (-108)], vm := .none },
  { cls := 8, slots := #[.long (-107)], vm := .none },
  { cls := 8, slots := #[.long (-106)], vm := .none },
  { cls := 8, slots := #[.long (-105)], vm := .none },
  { cls := 8, slots := #[.long (-104)], vm := .none },
  { cls := 8, slots := #[.long (-103)], vm := .none },
  { cls := 8, slots := #[.long (-102)], vm := .none },
  { cls := 8, slots := #[.long (-101)], vm := .none },
  { cls := 8, slots := #[.long (-100)], vm := .none },
  { cls := 8, slots := #[.long (-99)], vm := .none },
  { cls := 8, slots := #[.long (-98)], vm := .none },
  { cls := 8, slots := #[.long (-97)], vm := .none },
  { cls := 8, slots := #[.long (-96)], vm := .none },
  { cls := 8, slots := #[.long (-95)], vm := .none },
  { cls := 8, slots := #[.long (-94)], vm := .none },
  { cls := 8, slots := #[.long (-93)], vm := .none },
  { cls := 8, slots := #[.long (-92)], vm := .none },
  { cls := 8, slots := #[.long (-91)], vm := .none },
  { cls := 8, slots := #[.long (-90)], vm := .none },
  { cls := 8, slots := #[.long (-89)], vm := .none },
  { cls := 8, slots := #[.long (-88)], vm := .none },
  { cls := 8, slots := #[.long (-87)], vm := .none },
  { cls := 8, slots := #[.long (-86)], vm := .none },
  { cls := 8, slots := #[.long (-85)], vm := .none },
  { cls := 8, slots := #[.long (-84)], vm := .none },
  { cls := 8, slots := #[.long (-83)], vm := .none },
  { cls := 8, slots := #[.long (-82)], vm := .none },
  { cls := 8, slots := #[.long (-81)], vm := .none },
  { cls := 8, slots := #[.long (-80)], vm := .none },
  { cls := 8, slots := #[.long (-79)], vm := .none },
  { cls := 8, slots := #[.long (-78)], vm := .none },
  { cls := 8, slots := #[.long (-77)], vm := .none },
  { cls := 8, slots := #[.long (-76)], vm := .none },
  { cls := 8, slots := #[.long (-75)], vm := .none },
  { cls := 8, slots := #[.long (-74)], vm := .none },
  { cls := 8, slots := #[.long (-73)], vm := .none },
  { cls := 8, slots := #[.long (-72)], vm := .none },
  { cls := 8, slots := #[.long (-71)], vm := .none },
  { cls := 8, slots := #[.long (-70)], vm := .none },
  { cls := 8, slots := #[.long (-69)], vm := .none },
  { cls := 8, slots := #[.long (-68)], vm := .none },
  { cls := 8, slots := #[.long (-67)], vm := .none },
  { cls := 8, slots := #[.long (-66)], vm := .none },
  { cls := 8, slots := #[.long (-65)], vm := .none },
  { cls := 8, slots := #[.long (-64)], vm := .none },
  { cls := 8, slots := #[.long (-63)], vm := .none },
  { cls := 8, slots := #[.long (-62)], vm := .none },
  { cls := 8, slots := #[.long (-61)], vm := .none },
  { cls := 8, slots := #[.long (-60)], vm := .none },
  { cls := 8, slots := #[.long (-59)], vm := .none },
  { cls := 8, slots := #[.long (-58)], vm := .none },
  { cls := 8, slots := #[.long (-57)], vm := .none },
  { cls := 8, slots := #[.long (-56)], vm := .none },
  { cls := 8, slots := #[.long (-55)], vm := .none },
  { cls := 8, slots := #[.long (-54)], vm := .none },
  { cls := 8, slots := #[.long (-53)], vm := .none },
  { cls := 8, slots := #[.long (-52)], vm := .none },
  { cls := 8, slots := #[.long (-51)], vm := .none },
  { cls := 8, slots := #[.long (-50)], vm := .none },
  { cls := 8, slots := #[.long (-49)], vm := .none },
  { cls := 8, slots := #[.long (-48)], vm := .none },
  { cls := 8, slots := #[.long (-47)], vm := .none },
  { cls := 8, slots := #[.long (-46)], vm := .none },
  { cls := 8, slots := #[.long (-45)], vm := .none },
  { cls := 8, slots := #[.long (-44)], vm := .none },
  { cls := 8, slots := #[.long (-43)], vm := .none },
  { cls := 8, slots := #[.long (-42)], vm := .none },
  { cls := 8, slots := #[.long (-41)], vm := .none },
  { cls := 8, slots := #[.long (-40)], vm := .none },
  { cls := 8, slots := #[.long (-39)], vm := .none },
  { cls := 8, slots := #[.long (-38)], vm := .none },
  { cls := 8, slots := #[.long (-37)], vm := .none },
  { cls := 8, slots := #[.long (-36)], vm := .none },
  { cls := 8, slots := #[.long (-35)], vm := .none },
  { cls := 8, slots := #[.long (-34)], vm := .none },
  { cls := 8, slots := #[.long (-33)], vm := .none },
  { cls := 8, slots := #[.long (-32)], vm := .none },
  { cls := 8, slots := #[.long (-31)], vm := .none },
  { cls := 8, slots := #[.long (-30)], vm := .none },
  { cls := 8, slots := #[.long (-29)], vm := .none },
  { cls := 8, slots := #[.long (-28)], vm := .none },
  { cls := 8, slots := #[.long (-27)], vm := .none },
  { cls := 8, slots := #[.long (-26)], vm := .none },
  { cls := 8, slots := #[.long (-25)], vm := .none },
  { cls := 8, slots := #[.long (-24)], vm := .none },
  { cls := 8, slots := #[.long (-23)], vm := .none },
  { cls := 8, slots := #[.long (-22)], vm := .none },
  { cls := 8, slots := #[.long (-21)], vm := .none },
  { cls := 8, slots := #[.long (-20)], vm := .none },
  { cls := 8, slots := #[.long (-19)], vm := .none },
  { cls := 8, slots := #[.long (-18)], vm := .none },
  { cls := 8, slots := #[.long (-17)], vm := .none },
  { cls := 8, slots := #[.long (-16)], vm := .none },
  { cls := 8, slots := #[.long (-15)], vm := .none },
  { cls := 8, slots := #[.long (-14)], vm := .none },
  { cls := 8, slots := #[.long (-13)], vm := .none },
  { cls := 8, slots := #[.long (-12)], vm := .none },
  { cls := 8, slots := #[.long (-11)], vm := .none },
  { cls := 8, slots := #[.long (-10)], vm := .none },
  { cls := 8, slots := #[.long (-9)], vm := .none },
  { cls := 8, slots := #[.long (-8)], vm := .none },
  { cls := 8, slots := #[.long (-7)], vm := .none },
  { cls := 8, slots := #[.long (-6)], vm := .none },
  { cls := 8, slots := #[.long (-5)], vm := .none },
  { cls := 8, slots := #[.long (-4)], vm := .none },
  { cls := 8, slots := #[.long (-3)], vm := .none },
  { cls := 8, slots := #[.long (-2)], vm := .none },
  { cls := 8, slots := #[.long (-1)], vm := .none },
  { cls := 8, slots := #[.long 0], vm := .none },
  { cls := 8, slots := #[.long 1], vm := .none },
  { cls := 8, slots := #[.long 2], vm := .none },
  { cls := 8, slots := #[.long 3], vm := .none },
  { cls := 8, slots := #[.long 4], vm := .none },
  { cls := 8, slots := #[.long 5], vm := .none },
  { cls := 8, slots := #[.long 6], vm := .none },
  { cls := 8, slots := #[.long 7], vm := .none },
  { cls := 8, slots := #[.long 8], vm := .none },
  { cls := 8, slots := #[.long 9], vm := .none },
  { cls := 8, slots := #[.long 10], vm := .none },
  { cls := 8, slots := #[.long 11], vm := .none },
  { cls := 8, slots := #[.long 12], vm := .none },
  { cls := 8, slots := #[.long 13], vm := .none },
  { cls := 8, slots := #[.long 14], vm := .none },
  { cls := 8, slots := #[.long 15], vm := .none },
  { cls := 8, slots := #[.long 16], vm := .none },
  { cls := 8, slots := #[.long 17], vm := .none },
  { cls := 8, slots := #[.long 18], vm := .none },
  { cls := 8, slots := #[.long 19], vm := .none },
  { cls := 8, slots := #[.long 20], vm := .none },
  { cls := 8, slots := #[.long 21], vm := .none },
  { cls := 8, slots := #[.long 22], vm := .none },
  { cls := 8, slots := #[.long 23], vm := .none },
  { cls := 8, slots := #[.long 24], vm := .none },
  { cls := 8, slots := #[.long 25], vm := .none },
  { cls := 8, slots := #[.long 26], vm := .none },
  { cls := 8, slots := #[.long 27], vm := .none },
  { cls := 8, slots := #[.long 28], vm := .none },
  { cls := 8, slots := #[.long 29], vm := .none },
  { cls := 8, slots := #[.long 30], vm := .none },
  { cls := 8, slots := #[.long 31], vm := .none },
  { cls := 8, slots := #[.long 32], vm := .none },
  { cls := 8, slots := #[.long 33], vm := .none },
  { cls := 8, slots := #[.long 34], vm := .none },
  { cls := 8, slots := #[.long 35], vm := .none },
  { cls := 8, slots := #[.long 36], vm := .none },
  { cls := 8, slots := #[.long 37], vm := .none },
  { cls := 8, slots := #[.long 38], vm := .none },
  { cls := 8, slots := #[.long 39], vm := .none },
  { cls := 8, slots := #[.long 40], vm := .none },
  { cls := 8, slots := #[.long 41], vm := .none },
  { cls := 8, slots := #[.long 42], vm := .none },
  { cls := 8, slots := #[.long 43], vm := .none },
  { cls := 8, slots := #[.long 44], vm := .none },
  { cls := 8, slots := #[.long 45], vm := .none },
  { cls := 8, slots := #[.long 46], vm := .none },
  { cls := 8, slots := #[.long 47], vm := .none },
  { cls := 8, slots := #[.long 48], vm := .none },
  { cls := 8, slots := #[.long 49], vm := .none },
  { cls := 8, slots := #[.long 50], vm := .none },
  { cls := 8, slots := #[.long 51], vm := .none },
  { cls := 8, slots := #[.long 52], vm := .none },
  { cls := 8, slots := #[.long 53], vm := .none },
  { cls := 8, slots := #[.long 54], vm := .none },
  { cls := 8, slots := #[.long 55], vm := .none },
  { cls := 8, slots := #[.long 56], vm := .none },
  { cls := 8, slots := #[.long 57], vm := .none },
  { cls := 8, slots := #[.long 58], vm := .none },
  { cls := 8, slots := #[.long 59], vm := .none },
  { cls := 8, slots := #[.long 60], vm := .none },
  { cls := 8, slots := #[.long 61], vm := .none },
  { cls := 8, slots := #[.long 62], vm := .none },
  { cls := 8, slots := #[.long 63], vm := .none },
  { cls := 8, slots := #[.long 64], vm := .none },
  { cls := 8, slots := #[.long 65], vm := .none },
  { cls := 8, slots := #[.long 66], vm := .none },
  { cls := 8, slots := #[.long 67], vm := .none },
  { cls := 8, slots := #[.long 68], vm := .none },
  { cls := 8, slots := #[.long 69], vm := .none },
  { cls := 8, slots := #[.long 70], vm := .none },
  { cls := 8, slots := #[.long 71], vm := .none },
  { cls := 8, slots := #[.long 72], vm := .none },
  { cls := 8, slots := #[.long 73], vm := .none },
  { cls := 8, slots := #[.long 74], vm := .none },
  { cls := 8, slots := #[.long 75], vm := .none },
  { cls := 8, slots := #[.long 76], vm := .none },
  { cls := 8, slots := #[.long 77], vm := .none },
  { cls := 8, slots := #[.long 78], vm := .none },
  { cls := 8, slots := #[.long 79], vm := .none },
  { cls := 8, slots := #[.long 80], vm := .none },
  { cls := 8, slots := #[.long 81], vm := .none },
  { cls := 8, slots := #[.long 82], vm := .none },
  { cls := 8, slots := #[.long 83], vm := .none },
  { cls := 8, slots := #[.long 84], vm := .none },
  { cls := 8, slots := #[.long 85], vm := .none },
  { cls := 8, slots := #[.long 86], vm := .none },
  { cls := 8, slots := #[.long 87], vm := .none },
  { cls := 8, slots := #[.long 88], vm := .none },
  { cls := 8, slots := #[.long 89], vm := .none },
  { cls := 8, slots := #[.long 90], vm := .none },
  { cls := 8, slots := #[.long 91], vm := .none },
  { cls := 8, slots := #[.long 92], vm := .none },
  { cls := 8, slots := #[.long 93], vm := .none },
  { cls := 8, slots := #[.long 94], vm := .none },
  { cls := 8, slots := #[.long 95], vm := .none },
  { cls := 8, slots := #[.long 96], vm := .none },
  { cls := 8, slots := #[.long 97], vm := .none },
  { cls := 8, slots := #[.long 98], vm := .none },
  { cls := 8, slots := #[.long 99], vm := .none },
  { cls := 8, slots := #[.long 100], vm := .none },
  { cls := 8, slots := #[.long 101], vm := .none },
  { cls := 8, slots := #[.long 102], vm := .none },
  { cls := 8, slots := #[.long 103], vm := .none },
  { cls := 8, slots := #[.long 104], vm := .none },
  { cls := 8, slots := #[.long 105], vm := .none },
  { cls := 8, slots := #[.long 106], vm := .none },
  { cls := 8, slots := #[.long 107], vm := .none },
  { cls := 8, slots := #[.long 108], vm := .none },
  { cls := 8, slots := #[.long 109], vm := .none },
  { cls := 8, slots := #[.long 110], vm := .none },
  { cls := 8, slots := #[.long 111], vm := .none },
  { cls := 8, slots := #[.long 112], vm := .none },
  { cls := 8, slots := #[.long 113], vm := .none },
  { cls := 8, slots := #[.long 114], vm := .none },
  { cls := 8, slots := #[.long 115], vm := .none },
  { cls := 8, slots := #[.long 116], vm := .none },
  { cls := 8, slots := #[.long 117], vm := .none },
  { cls := 8, slots := #[.long 118], vm := .none },
  { cls := 8, slots := #[.long 119], vm := .none },
  { cls := 8, slots := #[.long 120], vm := .none },
  { cls := 8, slots := #[.long 121], vm := .none },
  { cls := 8, slots := #[.long 122], vm := .none },
  { cls := 8, slots := #[.long 123], vm := .none },
  { cls := 8, slots := #[.long 124], vm := .none },
  { cls := 8, slots := #[.long 125], vm := .none },
  { cls := 8, slots := #[.long 126], vm := .none },
  { cls := 8, slots := #[.long 127], vm := .none }]
def classes : Array Class := #[k0, k1, k2, k3, k4, k5, k6, k7, k8, k9, k10, k11, k12, k13, k14, k15, k16, k17, k18]
def interned : List (Array UInt16 × Addr) := []
def slotsUsed : Nat := 515
def theMethod : MethodId := ⟨1, 2⟩
def args0 : Array Value := #[.int 5, .long 6, .long 7, .long 8, .long 9, .long 10]
def aboutOver (below : List Frame) : State where
  vm := { classes := classes, interned := interned.toArray }
  heap := heap
  slotsUsed := slotsUsed
  threads := #[{ frames := .invoking theMethod args0 :: below }]
def below0 : List Frame := [.native { method := ⟨0, 0⟩, args := #[] }]
def about1 : State := aboutOver below0
def p0 : Program := .bare "" "" ""
def e0 : Env := launch0.env 0 0 0
theorem w_frames : about1.frames = Frame.invoking theMethod args0 :: below0 := rfl
set_option maxRecDepth 65536 in
theorem w_args : argsFit about1.vm theMethod args0 = true := by decide +kernel
set_option maxRecDepth 65536 in
theorem w_heap : heapFits about1 = true := by decide +kernel
set_option maxRecDepth 65536 in
theorem w_runnable : about1.curStatus? = some .runnable := by decide +kernel
set_option maxRecDepth 65536 in
theorem w_alone : about1.alone = true := by decide +kernel
set_option maxRecDepth 65536 in
theorem w_named : about1.methodNamed? x = some theMethod := by decide +kernel
set_option maxRecDepth 65536 in
theorem w_hears : about1.hears theMethod below0 = true := by decide +kernel
set_option maxRecDepth 65536 in
theorem w_ripe : about1.ripe theMethod args0 below0 = true := by decide +kernel
theorem w_running : about1.status = .running := rfl
set_option maxRecDepth 65536 in
theorem w_room : about1.hasRoom e0.platform room_1 = true :=
  launch0.hasRoom_least _ room_1 (by decide +kernel) (by decide +kernel) (by decide +kernel) (by decide +kernel) (by decide +kernel) (by decide +kernel)
theorem allAtoms_all (ts : List Jvm.Cond) (a : Array Jvm.Value) (st : Jvm.State) : (allAtoms ts).before a st = ts.all (fun c => c.before a st) := by
  induction ts with
  | nil => rfl
  | cons c t ih =>
    show (Jvm.Cond.and c (allAtoms t)).before a st = _
    rw [Jvm.Cond.before_and, ih, List.all_cons]
def words1 : List Jvm.Cond := Jvm.Cond.code x code maxLocals ret :: tables_1
/-- a 'code' word, met by the world's own term for the bytes: nothing is compared byte by byte -/
theorem code_word {y : MethodName} {bytes : ByteArray} {mx : Nat} {rt : Option FieldType} {a : Array Value} {s : State} {m : MethodId} {meth : Method} {c : Code} (h1 : s.methodNamed? y = some m) (h2 : s.vm.method? m = some meth) (h3 : meth.code = some c) (h4 : c.code = bytes)
    (h5 : (c.maxLocals == mx && c.exceptionTable.isEmpty && decide (c.maxStack ≤ mostOperands) && decide (meth.sig.returnType = rt) && !meth.locks && decide (parseMethodDescriptor y.desc = some meth.sig)) = true) : (Jvm.Cond.code y bytes mx rt).before a s = true := by
  simp only [Bool.and_eq_true, beq_iff_eq, Bool.not_eq_true', decide_eq_true_eq] at h5
  obtain ⟨⟨⟨⟨⟨g1, g2⟩, g3⟩, g4⟩, g5⟩, g6⟩ := h5
  simp [Cond.before, Cond.holds, Cond.value, h1, h2, h3, h4, g1, g2, g3, g4, g5, g6]
def isCode : Jvm.Cond → Bool
  | .code _ _ _ _ => true
  | _ => false
theorem all_split {L : List Jvm.Cond} {P : Jvm.Cond → Bool} (h1 : L.all (fun c => isCode c || P c) = true) (h2 : ∀ c ∈ L.filter isCode, P c = true) : L.all P = true := by
  refine List.all_eq_true.mpr fun c hc => ?_
  have h := List.all_eq_true.mp h1 c hc
  rcases Bool.eq_false_or_eq_true (isCode c) with hi | hi
  · exact h2 c (List.mem_filter.mpr ⟨hc, hi⟩)
  · simpa [hi] using h
set_option maxRecDepth 65536 in
theorem w_c0 : (Jvm.Cond.code x code maxLocals ret).before args0 about1 = true := code_word (m := ⟨1, 2⟩) (meth := k1m2) (c := k1c2) (by decide +kernel) rfl rfl rfl (by decide +kernel)
set_option maxRecDepth 65536 in
theorem w_c1 : (Jvm.Cond.code ({ cls := "com/example/dead_letter_replay/deadletterreplay/queue/Carries", name := "<init>", desc := "()V" } : Jvm.MethodName) prog_11_method_1_code (1 : Nat) (Option.none : Option Jvm.ClassFile.FieldType)).before args0 about1 = true := code_word (m := ⟨2, 0⟩) (meth := k2m0) (c := k2c0) (by decide +kernel) rfl rfl rfl (by decide +kernel)
set_option maxRecDepth 65536 in
theorem w_c2 : (Jvm.Cond.code ({ cls := "java/lang/Object", name := "<init>", desc := "()V" } : Jvm.MethodName) object_method_1_code (1 : Nat) (Option.none : Option Jvm.ClassFile.FieldType)).before args0 about1 = true := code_word (m := ⟨0, 0⟩) (meth := k0m0) (c := k0c0) (by decide +kernel) rfl rfl rfl (by decide +kernel)
set_option maxRecDepth 65536 in
theorem w_c3 : (Jvm.Cond.code ({ cls := "com/example/dead_letter_replay/deadletterreplay/queue/Carries", name := "floor", desc := "()Ljava/lang/Long;" } : Jvm.MethodName) prog_11_method_4_code (1 : Nat) (Option.some (Jvm.ClassFile.FieldType.object "java/lang/Long"))).before args0 about1 = true := code_word (m := ⟨2, 1⟩) (meth := k2m1) (c := k2c1) (by decide +kernel) rfl rfl rfl (by decide +kernel)
set_option maxRecDepth 65536 in
theorem w_c4 : (Jvm.Cond.code ({ cls := "com/example/dead_letter_replay/deadletterreplay/queue/Carries", name := "carried", desc := "(Lcom/example/dead_letter_replay/deadletterreplay/queue/Carries$Carried;)V" } : Jvm.MethodName) prog_11_method_5_code (2 : Nat) (Option.none : Option Jvm.ClassFile.FieldType)).before args0 about1 = true := code_word (m := ⟨2, 2⟩) (meth := k2m2) (c := k2c2) (by decide +kernel) rfl rfl rfl (by decide +kernel)
set_option maxRecDepth 65536 in
theorem w_c5 : (Jvm.Cond.code ({ cls := "com/example/dead_letter_replay/deadletterreplay/queue/CarriesFloorPinLaw", name := "is", desc := "(Ljava/lang/Long;ZJ)Z" } : Jvm.MethodName) method_2_code (4 : Nat) (Option.some Jvm.ClassFile.FieldType.boolean)).before args0 about1 = true := code_word (m := ⟨1, 1⟩) (meth := k1m1) (c := k1c1) (by decide +kernel) rfl rfl rfl (by decide +kernel)
set_option maxRecDepth 65536 in
theorem w_c6 : (Jvm.Cond.code ({ cls := "java/lang/Long", name := "valueOf", desc := "(J)Ljava/lang/Long;" } : Jvm.MethodName) jdk_35_method_24_code (3 : Nat) (Option.some (Jvm.ClassFile.FieldType.object "java/lang/Long"))).before args0 about1 = true := code_word (m := ⟨8, 0⟩) (meth := k8m0) (c := k8c0) (by decide +kernel) rfl rfl rfl (by decide +kernel)
set_option maxRecDepth 65536 in
theorem w_c7 : (Jvm.Cond.code ({ cls := "java/lang/Long", name := "<init>", desc := "(J)V" } : Jvm.MethodName) jdk_35_method_26_code (3 : Nat) (Option.none : Option Jvm.ClassFile.FieldType)).before args0 about1 = true := code_word (m := ⟨8, 1⟩) (meth := k8m1) (c := k8c1) (by decide +kernel) rfl rfl rfl (by decide +kernel)
set_option maxRecDepth 65536 in
theorem w_c8 : (Jvm.Cond.code ({ cls := "java/lang/Number", name := "<init>", desc := "()V" } : Jvm.MethodName) jdk_18_method_1_code (1 : Nat) (Option.none : Option Jvm.ClassFile.FieldType)).before args0 about1 = true := code_word (m := ⟨4, 0⟩) (meth := k4m0) (c := k4c0) (by decide +kernel) rfl rfl rfl (by decide +kernel)
set_option maxRecDepth 65536 in
theorem w_c9 : (Jvm.Cond.code ({ cls := "com/example/dead_letter_replay/deadletterreplay/queue/Carries$Carried", name := "<init>", desc := "(Ljava/lang/Long;JJI)V" } : Jvm.MethodName) prog_12_method_1_code (7 : Nat) (Option.none : Option Jvm.ClassFile.FieldType)).before args0 about1 = true := code_word (m := ⟨10, 0⟩) (meth := k10m0) (c := k10c0) (by decide +kernel) rfl rfl rfl (by decide +kernel)
set_option maxRecDepth 65536 in
theorem w_c10 : (Jvm.Cond.code ({ cls := "java/lang/Record", name := "<init>", desc := "()V" } : Jvm.MethodName) jdk_30_method_1_code (1 : Nat) (Option.none : Option Jvm.ClassFile.FieldType)).before args0 about1 = true := code_word (m := ⟨9, 0⟩) (meth := k9m0) (c := k9c0) (by decide +kernel) rfl rfl rfl (by decide +kernel)
set_option maxRecDepth 65536 in
theorem w_c11 : (Jvm.Cond.code ({ cls := "com/example/dead_letter_replay/deadletterreplay/queue/Carries", name := "leftIfUndone", desc := "(Lcom/example/dead_letter_replay/deadletterreplay/queue/Carries$Carried;)I" } : Jvm.MethodName) prog_11_method_6_code (4 : Nat) (Option.some Jvm.ClassFile.FieldType.int)).before args0 about1 = true := code_word (m := ⟨2, 3⟩) (meth := k2m3) (c := k2c3) (by decide +kernel) rfl rfl rfl (by decide +kernel)
set_option maxRecDepth 65536 in
theorem w_c12 : (Jvm.Cond.code ({ cls := "com/example/dead_letter_replay/deadletterreplay/queue/Carries$Carried", name := "from", desc := "()Ljava/lang/Long;" } : Jvm.MethodName) prog_12_method_5_code (1 : Nat) (Option.some (Jvm.ClassFile.FieldType.object "java/lang/Long"))).before args0 about1 = true := code_word (m := ⟨10, 1⟩) (meth := k10m1) (c := k10c1) (by decide +kernel) rfl rfl rfl (by decide +kernel)
set_option maxRecDepth 65536 in
theorem w_c13 : (Jvm.Cond.code ({ cls := "com/example/dead_letter_replay/deadletterreplay/queue/Carries", name := "countedBefore", desc := "(Lcom/example/dead_letter_replay/deadletterreplay/queue/Carries$Carried;)I" } : Jvm.MethodName) prog_11_method_7_code (2 : Nat) (Option.some Jvm.ClassFile.FieldType.int)).before args0 about1 = true := code_word (m := ⟨2, 4⟩) (meth := k2m4) (c := k2c4) (by decide +kernel) rfl rfl rfl (by decide +kernel)
set_option maxRecDepth 65536 in
theorem w_c14 : (Jvm.Cond.code ({ cls := "com/example/dead_letter_replay/deadletterreplay/queue/Carries$Carried", name := "era", desc := "()J" } : Jvm.MethodName) prog_12_method_6_code (1 : Nat) (Option.some Jvm.ClassFile.FieldType.long)).before args0 about1 = true := code_word (m := ⟨10, 2⟩) (meth := k10m2) (c := k10c2) (by decide +kernel) rfl rfl rfl (by decide +kernel)
set_option maxRecDepth 65536 in
theorem w_c15 : (Jvm.Cond.code ({ cls := "java/lang/Long", name := "longValue", desc := "()J" } : Jvm.MethodName) jdk_35_method_31_code (1 : Nat) (Option.some Jvm.ClassFile.FieldType.long)).before args0 about1 = true := code_word (m := ⟨8, 2⟩) (meth := k8m2) (c := k8c2) (by decide +kernel) rfl rfl rfl (by decide +kernel)
set_option maxRecDepth 65536 in
theorem w_c16 : (Jvm.Cond.code ({ cls := "java/lang/Math", name := "min", desc := "(JJ)J" } : Jvm.MethodName) jdk_29_method_70_code (4 : Nat) (Option.some Jvm.ClassFile.FieldType.long)).before args0 about1 = true := code_word (m := ⟨11, 1⟩) (meth := k11m1) (c := k11c1) (by decide +kernel) rfl rfl rfl (by decide +kernel)
set_option maxRecDepth 65536 in
theorem w_c17 : (Jvm.Cond.code ({ cls := "com/example/dead_letter_replay/deadletterreplay/queue/Carries$Carried", name := "backend", desc := "()I" } : Jvm.MethodName) prog_12_method_8_code (1 : Nat) (Option.some Jvm.ClassFile.FieldType.int)).before args0 about1 = true := code_word (m := ⟨10, 4⟩) (meth := k10m4) (c := k10c4) (by decide +kernel) rfl rfl rfl (by decide +kernel)
set_option maxRecDepth 65536 in
theorem w_c18 : (Jvm.Cond.code ({ cls := "com/example/dead_letter_replay/deadletterreplay/queue/Carries$Carried", name := "transaction", desc := "()J" } : Jvm.MethodName) prog_12_method_7_code (1 : Nat) (Option.some Jvm.ClassFile.FieldType.long)).before args0 about1 = true := code_word (m := ⟨10, 3⟩) (meth := k10m3) (c := k10c3) (by decide +kernel) rfl rfl rfl (by decide +kernel)
set_option maxRecDepth 65536 in
theorem w_c19 : (Jvm.Cond.code ({ cls := "java/lang/Long", name := "equals", desc := "(Ljava/lang/Object;)Z" } : Jvm.MethodName) jdk_35_method_37_code (2 : Nat) (Option.some Jvm.ClassFile.FieldType.boolean)).before args0 about1 = true := code_word (m := ⟨8, 3⟩) (meth := k8m3) (c := k8c3) (by decide +kernel) rfl rfl rfl (by decide +kernel)
def codes1 : List Jvm.Cond := [Jvm.Cond.code x code maxLocals ret, Jvm.Cond.code ({ cls := "com/example/dead_letter_replay/deadletterreplay/queue/Carries", name := "<init>", desc := "()V" } : Jvm.MethodName) prog_11_method_1_code (1 : Nat) (Option.none : Option Jvm.ClassFile.FieldType), Jvm.Cond.code ({ cls := "java/lang/Object", name := "<init>", desc := "()V" } : Jvm.MethodName) object_method_1_code (1 : Nat) (Option.none : Option Jvm.ClassFile.FieldType), Jvm.Cond.code ({ cls := "com/example/dead_letter_replay/deadletterreplay/queue/Carries", name := "floor", desc := "()Ljava/lang/Long;" } : Jvm.MethodName) prog_11_method_4_code (1 : Nat) (Option.some (Jvm.ClassFile.FieldType.object "java/lang/Long")), Jvm.Cond.code ({ cls := "com/example/dead_letter_replay/deadletterreplay/queue/Carries", name := "carried", desc := "(Lcom/example/dead_letter_replay/deadletterreplay/queue/Carries$Carried;)V" } : Jvm.MethodName) prog_11_method_5_code (2 : Nat) (Option.none : Option Jvm.ClassFile.FieldType), Jvm.Cond.code ({ cls := "com/example/dead_letter_replay/deadletterreplay/queue/CarriesFloorPinLaw", name := "is", desc := "(Ljava/lang/Long;ZJ)Z" } : Jvm.MethodName) method_2_code (4 : Nat) (Option.some Jvm.ClassFile.FieldType.boolean), Jvm.Cond.code ({ cls := "java/lang/Long", name := "valueOf", desc := "(J)Ljava/lang/Long;" } : Jvm.MethodName) jdk_35_method_24_code (3 : Nat) (Option.some (Jvm.ClassFile.FieldType.object "java/lang/Long")), Jvm.Cond.code ({ cls := "java/lang/Long", name := "<init>", desc := "(J)V" } : Jvm.MethodName) jdk_35_method_26_code (3 : Nat) (Option.none : Option Jvm.ClassFile.FieldType), Jvm.Cond.code ({ cls := "java/lang/Number", name := "<init>", desc := "()V" } : Jvm.MethodName) jdk_18_method_1_code (1 : Nat) (Option.none : Option Jvm.ClassFile.FieldType), Jvm.Cond.code ({ cls := "com/example/dead_letter_replay/deadletterreplay/queue/Carries$Carried", name := "<init>", desc := "(Ljava/lang/Long;JJI)V" } : Jvm.MethodName) prog_12_method_1_code (7 : Nat) (Option.none : Option Jvm.ClassFile.FieldType), Jvm.Cond.code ({ cls := "java/lang/Record", name := "<init>", desc := "()V" } : Jvm.MethodName) jdk_30_method_1_code (1 : Nat) (Option.none : Option Jvm.ClassFile.FieldType), Jvm.Cond.code ({ cls := "com/example/dead_letter_replay/deadletterreplay/queue/Carries", name := "leftIfUndone", desc := "(Lcom/example/dead_letter_replay/deadletterreplay/queue/Carries$Carried;)I" } : Jvm.MethodName) prog_11_method_6_code (4 : Nat) (Option.some Jvm.ClassFile.FieldType.int), Jvm.Cond.code ({ cls := "com/example/dead_letter_replay/deadletterreplay/queue/Carries$Carried", name := "from", desc := "()Ljava/lang/Long;" } : Jvm.MethodName) prog_12_method_5_code (1 : Nat) (Option.some (Jvm.ClassFile.FieldType.object "java/lang/Long")), Jvm.Cond.code ({ cls := "com/example/dead_letter_replay/deadletterreplay/queue/Carries", name := "countedBefore", desc := "(Lcom/example/dead_letter_replay/deadletterreplay/queue/Carries$Carried;)I" } : Jvm.MethodName) prog_11_method_7_code (2 : Nat) (Option.some Jvm.ClassFile.FieldType.int), Jvm.Cond.code ({ cls := "com/example/dead_letter_replay/deadletterreplay/queue/Carries$Carried", name := "era", desc := "()J" } : Jvm.MethodName) prog_12_method_6_code (1 : Nat) (Option.some Jvm.ClassFile.FieldType.long), Jvm.Cond.code ({ cls := "java/lang/Long", name := "longValue", desc := "()J" } : Jvm.MethodName) jdk_35_method_31_code (1 : Nat) (Option.some Jvm.ClassFile.FieldType.long), Jvm.Cond.code ({ cls := "java/lang/Math", name := "min", desc := "(JJ)J" } : Jvm.MethodName) jdk_29_method_70_code (4 : Nat) (Option.some Jvm.ClassFile.FieldType.long), Jvm.Cond.code ({ cls := "com/example/dead_letter_replay/deadletterreplay/queue/Carries$Carried", name := "backend", desc := "()I" } : Jvm.MethodName) prog_12_method_8_code (1 : Nat) (Option.some Jvm.ClassFile.FieldType.int), Jvm.Cond.code ({ cls := "com/example/dead_letter_replay/deadletterreplay/queue/Carries$Carried", name := "transaction", desc := "()J" } : Jvm.MethodName) prog_12_method_7_code (1 : Nat) (Option.some Jvm.ClassFile.FieldType.long), Jvm.Cond.code ({ cls := "java/lang/Long", name := "equals", desc := "(Ljava/lang/Object;)Z" } : Jvm.MethodName) jdk_35_method_37_code (2 : Nat) (Option.some Jvm.ClassFile.FieldType.boolean)]
set_option maxRecDepth 65536 in
theorem codes_eq : words1.filter isCode = codes1 := rfl
theorem w_codes : ∀ c ∈ words1.filter isCode, c.before args0 about1 = true := by
  rw [codes_eq]
  intro c hc
  simp only [codes1, List.mem_cons, List.not_mem_nil, or_false] at hc
  rcases hc with rfl | rfl | rfl | rfl | rfl | rfl | rfl | rfl | rfl | rfl | rfl | rfl | rfl | rfl | rfl | rfl | rfl | rfl | rfl | rfl
  · exact w_c0
  · exact w_c1
  · exact w_c2
  · exact w_c3
  · exact w_c4
  · exact w_c5
  · exact w_c6
  · exact w_c7
  · exact w_c8
  · exact w_c9
  · exact w_c10
  · exact w_c11
  · exact w_c12
  · exact w_c13
  · exact w_c14
  · exact w_c15
  · exact w_c16
  · exact w_c17
  · exact w_c18
  · exact w_c19
set_option maxRecDepth 65536 in
theorem w_t1 : (words1.take 24).all (fun c => isCode c || c.before args0 about1) = true := by decide +kernel
set_option maxRecDepth 65536 in
theorem w_t2 : ((words1.drop 24).take 24).all (fun c => isCode c || c.before args0 about1) = true := by decide +kernel
set_option maxRecDepth 65536 in
theorem w_t3 : (((words1.drop 24).drop 24).take 24).all (fun c => isCode c || c.before args0 about1) = true := by decide +kernel
set_option maxRecDepth 65536 in
theorem w_t4 : ((((words1.drop 24).drop 24).drop 24).take 24).all (fun c => isCode c || c.before args0 about1) = true := by decide +kernel
set_option maxRecDepth 65536 in
theorem w_t5 : (((((words1.drop 24).drop 24).drop 24).drop 24).take 24).all (fun c => isCode c || c.before args0 about1) = true := by decide +kernel
set_option maxRecDepth 65536 in
theorem w_t6 : (((((words1.drop 24).drop 24).drop 24).drop 24).drop 24).all (fun c => isCode c || c.before args0 about1) = true := by decide +kernel
theorem w_tables : (allAtoms (Jvm.Cond.code x code maxLocals ret :: tables_1)).before args0 about1 = true := by
  rw [allAtoms_all]
  show words1.all (fun c => c.before args0 about1) = true
  refine all_split ?_ w_codes
  rw [← List.take_append_drop 24 words1, List.all_append, w_t1, ← List.take_append_drop 24 (words1.drop 24), List.all_append, w_t2, ← List.take_append_drop 24 ((words1.drop 24).drop 24), List.all_append, w_t3, ← List.take_append_drop 24 (((words1.drop 24).drop 24).drop 24), List.all_append, w_t4, ← List.take_append_drop 24 ((((words1.drop 24).drop 24).drop 24).drop 24), List.all_append, w_t5, w_t6]
  rfl
set_option maxRecDepth 65536 in
theorem w_rest : rest_1_c.before args0 about1 = true := by decide +kernel
set_option maxRecDepth 65536 in
theorem w_case : (Jvm.Cond.and given_1 narrow_1).before args0 about1 = true := by decide +kernel
theorem w_applies : (headSpec (Jvm.Cond.code x code maxLocals ret :: tables_1) room_1).applies x e0.platform about1 = true :=
  (Spec.applies_iff w_frames).mpr ⟨w_running, w_runnable, w_alone, w_named, w_hears, w_ripe, w_room, w_tables⟩
theorem atStart : AtStart classFile x code maxLocals ret World_1 tables_1 room_1 Calls_1 rest_1 Pre_1 launch0 p0 e0 about1 theMethod args0 below0 :=
  ⟨lists_1, trivial, launch0.admits_env _ _ _, launch0.least_env, fairChoices_fair.cas, fairChoices_fair.clock, w_frames, w_args, w_heap, w_applies, trivial, w_rest, w_case⟩
end start1
theorem witness_1 : WitnessClaimed_1 := ⟨start1.p0, start1.e0, start1.about1, start1.theMethod, start1.args0, start1.below0, start1.atStart⟩
end Jvm.Pilot.@@N@@
