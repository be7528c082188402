import JvmDerived
import JvmDerived.Pilot.@@N@@Statement
import JvmDerived.Pilot.@@N@@Code
set_option linter.unusedVariables false
set_option linter.unusedSimpArgs false
namespace Jvm.RoadKit
open Sem ClassFile Op Lib Jvm.Stand Jvm.Free Jvm.LawKit
abbrev sI_ (x : Int32) : Slot := .val (.int x)
abbrev sJ_ (x : Int64) : Slot := .val (.long x)
abbrev sR_ (x : Addr) : Slot := .val (.ref x)
abbrev sU_ : Slot := .unset
abbrev sS_ : Slot := .second
theorem catR (a : Addr) : (Value.ref a).category = 1 := rfl
theorem catN : Value.null.category = 1 := rfl
theorem catI (x : Int32) : (Value.int x).category = 1 := rfl
theorem catJ (x : Int64) : (Value.long x).category = 2 := rfl
section Own
variable {p : Program} {l : Launch} {e : Env} {R : Room} {s : State} {m : MethodId} {args : Array Value} {below : List Frame} {meth : Method} {c : Code} {T U U' : State} {locs : List Loc} {cells slots : Nat} {Z : State} {a0 : Array Value} {h : Heap} {Q : Option Value → Heap → List Loc → Prop} {C S : Nat}
/-- what is left to show at a point of a walk: from U the body comes to its end, and Q holds there -/
def Goes (p : Program) (e : Env) (s : State) (below : List Frame) (Q : Option Value → Heap → List Loc → Prop) (C S : Nat) (U : State) : Prop :=
  ∃ s₂ o, Steps p.tables e below U s₂ ∧ s₂.status = .running ∧ Ended s₂ below o ∧ ∃ v L, o = .returned v ∧ Q v s₂.heap L ∧ FrameEnd s o s₂ L C S
theorem Goes.go (st : ∀ t, Steps p.tables e below U' t → Steps p.tables e below U t) (k : Goes p e s below Q C S U') : Goes p e s below Q C S U := by
  obtain ⟨s₂, o, h1, h2⟩ := k
  exact ⟨s₂, o, st _ h1, h2⟩
theorem Goes.leave {v : Option Value} (X : Stand p l e R s m args below meth c T locs cells slots) (hlk : meth.locks = false) (hv : meth.sig.returnType = none → v = none) (hQ : Q v T.heap locs) (hc : cells ≤ C) (hs : slots ≤ S)
    (st : ∀ fs, (∀ (f : JFrame) (acts : List Action), f.method = m → f.locked = none → f.entered = [] → (doReturn e (T.setTop f) acts v).1 = T.setFrames fs) → Steps p.tables e below U (T.setFrames fs)) : Goes p e s below Q C S U := by
  obtain ⟨fs, hr, hrun, hended, hW, hsame⟩ := X.leave (v := v) hv hlk
  exact ⟨_, _, st fs hr, hrun, hended, _, _, rfl, hQ, ⟨_, rfl⟩, hW, hsame.mono hc hs⟩
theorem Goes.retB {pc : Nat} {Ls : Array Slot} {z : Int32} {rest : List Value} (X : Stand p l e R s m args below meth c T locs cells slots) (hx : p.tables.exec = Jvm.exec) (hlk : meth.locks = false) (hret : meth.sig.returnType = some .boolean) (hd : decode c.code pc = .ok (.ireturn, 1)) (hc : cells ≤ C) (hs : slots ≤ S) (hQ : Q (some (.int (nar .boolean z))) T.heap locs) : Goes p e s below Q C S (T.setTop (mkF m pc Ls (.int z :: rest))) :=
  Goes.leave X hlk (fun h => by rw [hret] at h; cases h) hQ hc hs fun fs hr => retN X hx (t := .boolean) hret (by simp) hd hr
theorem Goes.retC {pc : Nat} {Ls : Array Slot} {z : Int32} {rest : List Value} (X : Stand p l e R s m args below meth c T locs cells slots) (hx : p.tables.exec = Jvm.exec) (hlk : meth.locks = false) (hret : meth.sig.returnType = some .char) (hd : decode c.code pc = .ok (.ireturn, 1)) (hc : cells ≤ C) (hs : slots ≤ S) (hQ : Q (some (.int (nar .char z))) T.heap locs) : Goes p e s below Q C S (T.setTop (mkF m pc Ls (.int z :: rest))) :=
  Goes.leave X hlk (fun h => by rw [hret] at h; cases h) hQ hc hs fun fs hr => retN X hx (t := .char) hret (by simp) hd hr
theorem Goes.retI {pc : Nat} {Ls : Array Slot} {z : Int32} {rest : List Value} (X : Stand p l e R s m args below meth c T locs cells slots) (hx : p.tables.exec = Jvm.exec) (hlk : meth.locks = false) (hret : meth.sig.returnType = some .int) (hd : decode c.code pc = .ok (.ireturn, 1)) (hc : cells ≤ C) (hs : slots ≤ S) (hQ : Q (some (.int z)) T.heap locs) : Goes p e s below Q C S (T.setTop (mkF m pc Ls (.int z :: rest))) :=
  Goes.leave X hlk (fun h => by rw [hret] at h; cases h) hQ hc hs fun fs hr => retOut X hx hret rfl (Or.inl ⟨rfl, Or.inl rfl, _, rfl⟩) hd hr
theorem Goes.retJ {pc : Nat} {Ls : Array Slot} {z : Int64} {rest : List Value} (X : Stand p l e R s m args below meth c T locs cells slots) (hx : p.tables.exec = Jvm.exec) (hlk : meth.locks = false) (hret : meth.sig.returnType = some .long) (hd : decode c.code pc = .ok (.lreturn, 1)) (hc : cells ≤ C) (hs : slots ≤ S) (hQ : Q (some (.long z)) T.heap locs) : Goes p e s below Q C S (T.setTop (mkF m pc Ls (.long z :: rest))) :=
  Goes.leave X hlk (fun h => by rw [hret] at h; cases h) hQ hc hs fun fs hr => retOut X hx hret rfl (Or.inr (Or.inl ⟨rfl, rfl, _, rfl⟩)) hd hr
theorem ownNarrow {t : FieldType} {v : Value} (hv : v.isRef = true) (ht : t.isReference = true) : narrow t v = v := by
  rcases ref_cases hv with rfl | ⟨a, rfl⟩ <;> cases t <;> first | rfl | cases ht
theorem Goes.retA {pc : Nat} {Ls : Array Slot} {v : Value} {t : FieldType} {rest : List Value} (X : Stand p l e R s m args below meth c T locs cells slots) (hx : p.tables.exec = Jvm.exec) (hlk : meth.locks = false) (hret : meth.sig.returnType = some t) (ht : t.isReference = true) (hv : v.isRef = true) (hd : decode c.code pc = .ok (.areturn, 1)) (hc : cells ≤ C) (hs : slots ≤ S) (hQ : Q (some v) T.heap locs) : Goes p e s below Q C S (T.setTop (mkF m pc Ls (v :: rest))) :=
  Goes.leave X hlk (fun h => by rw [hret] at h; cases h) hQ hc hs fun fs hr => retOut X hx hret (ownNarrow hv ht) (Or.inr (Or.inr (Or.inr (Or.inr ⟨rfl, ht, hv⟩)))) hd hr
theorem Goes.retV {pc : Nat} {Ls : Array Slot} (X : Stand p l e R s m args below meth c T locs cells slots) (hx : p.tables.exec = Jvm.exec) (hlk : meth.locks = false) (hret : meth.sig.returnType = none) (hd : decode c.code pc = .ok (.return_, 1)) (hc : cells ≤ C) (hs : slots ≤ S) (hQ : Q none T.heap locs) : Goes p e s below Q C S (T.setTop (mkF m pc Ls [])) :=
  Goes.leave X hlk (fun _ => rfl) hQ hc hs fun fs hr => X.returnOut hx hret hd hr
/-- a body's contract: with these arguments over this heap it returns, and Q holds -/
def Pays (l : Launch) (Z : State) (y : MethodName) (bytes : ByteArray) (maxL : Nat) (ret : Option FieldType) (ws : List Jvm.Cond) (rm : Room) (as' : Array Value) (h : Heap) (Q : Option Value → Heap → List Loc → Prop) : Prop :=
  MetFree l y (head1 (Jvm.Cond.code y bytes maxL ret :: ws) rm) (fun a U => a = as' ∧ Z.Warmed39 U.vm ∧ U.heap = h) (fun _ _ _ _ _ => True) (fun _ U o U' => ∃ v L, o = .returned v ∧ Q v U'.heap L ∧ FrameEnd U o U' L rm.cells rm.slots)
theorem Pays.of {y : MethodName} {bytes : ByteArray} {maxL : Nat} {ret : Option FieldType} {ws : List Jvm.Cond} {rm : Room} {as' : Array Value} (hpl : plainFor y = true)
    (body : ∀ (p : Program) (e : Env) (s : State) (m : MethodId) (below : List Frame) (meth : Method) (c : Code) (s₁ : State), p.tables.exec = Jvm.exec → c.code = bytes → c.maxLocals = maxL → s.vm.findClass y.cls = some m.cls → meth.name = y.name → meth.sig.returnType = ret → meth.locks = false → Z.Warmed39 s.vm → s₁.heap = h → Stand p l e rm s m as' below meth c s₁ [] 0 0 → Goes p e s below Q rm.cells rm.slots (s₁.setTop (entryFrame m as' maxL))) :
    Pays l Z y bytes maxL ret ws rm as' h Q := by
  refine MetFree.of_bodySF hpl hisR ?_
  intro p e s m args below meth c s₁ Bd hml hP hK
  obtain ⟨rfl, hZ, hh⟩ := hP
  obtain ⟨s₂, o, h1, h2, h3, h4⟩ := body p e s m below meth c s₁ Bd.exec Bd.bytes hml (findClass_of_methodNamed Bd.named) (name_of_methodNamed Bd.named Bd.method).1 Bd.returns Bd.notSynchronized hZ (by rw [← hh, Bd.state]; rfl) (Stand.of_body Bd)
  exact ⟨s₂, o, h1, h2, h3, h4⟩
theorem callStatic (X : Stand p l e R s m args below meth c T locs cells slots) (hx : p.tables.exec = Jvm.exec) (hZ : Z.Warmed39 s.vm) {own : String} {index : Nat} {y : MethodName} {bytes : ByteArray} {maxL W : Nat} {ret : Option FieldType} {rm : Room} {as' : Array Value}
    (hown : s.vm.findClass own = some m.cls) (w1 : (Jvm.Cond.methodLink own index y).before a0 Z = true) (w2 : (Jvm.Cond.static y).before a0 Z = true) (w3 : (Jvm.Cond.initialized y.cls).before a0 Z = true) (w4 : (Jvm.Cond.code y bytes maxL ret).before a0 Z = true) (hy : y.cls ≠ "java/lang/invoke/MethodHandle" ∧ y.cls ≠ "java/lang/invoke/VarHandle")
    (M : Pays l Z y bytes maxL ret [] rm as' h Q) (hf : rm.frames + 1 ≤ R.frames) (hl : W + (maxL + 11) + rm.locals ≤ R.locals) (hc : cells + rm.cells ≤ R.cells) (hs : slots + rm.slots ≤ R.slots) (eT : T.heap = h)
    {g : JFrame} (hg : g.method = m) (hsize : g.locals.size = c.maxLocals) {argsL rest : List Value} (hlen : ∀ sig, parseMethodDescriptor y.desc = some sig → argsL.length = sig.parameters.length) (hstack : g.stack = argsL.reverse ++ rest) (has : argsL.toArray = as') (hW : 2 * g.monitorRoom + (rest.map fun v => v.category).sum ≤ W) (hdg : decode c.code g.pc = .ok (.invokestatic index, 3)) :
    ∃ (v : Option Value) (T' : State) (L : List Loc), Stand p l e R s m args below meth c T' (locs ++ L) (cells + rm.cells) (slots + rm.slots) ∧ Q v T'.heap L ∧ ∀ t, Steps p.tables e below (T'.setTop { g with pc := g.pc + 3, stack := v.toList ++ rest }) t → Steps p.tables e below (T.setTop g) t := by
  obtain ⟨v, vm1, ⟨T', L', k', n'⟩, -, X', ⟨Lc, hQ, l1, y1, z1⟩, st⟩ := Jvm.LawKit.callS X hx (y := y) hown (mvT hZ w1) (mvT hZ w2) (mvT hZ w3) (mvT hZ w4) hy (backOf (W := W) M hZ w4 w3 hf hl) hg hsize (argsL := argsL) (rest := rest) hlen hstack hW hdg (fun _ _ => ⟨has, eT, hc, hs⟩)
  dsimp only [Pt.U, Pt.locs, Pt.cells, Pt.slots] at X' l1 y1 z1 st hQ
  subst l1 y1 z1
  exact ⟨v, T', Lc, X', hQ, st⟩
theorem callVirtual (X : Stand p l e R s m args below meth c T locs cells slots) (hx : p.tables.exec = Jvm.exec) (hZ : Z.Warmed39 s.vm) {own K : String} {index : Nat} {y z : MethodName} {bytes : ByteArray} {maxL W : Nat} {ret : Option FieldType} {rm : Room} {as' : Array Value}
    (hown : s.vm.findClass own = some m.cls) (w1 : (Jvm.Cond.methodLink own index y).before a0 Z = true) (w2 : (Jvm.Cond.declares y).before a0 Z = true) (nf : NotFace s y) (w3 : (Jvm.Cond.selects K y z).before a0 Z = true) (w5 : (Jvm.Cond.instanceMethod z).before a0 Z = true) (w6 : (Jvm.Cond.initialized z.cls).before a0 Z = true) (w4 : (Jvm.Cond.code z bytes maxL ret).before a0 Z = true) (hy : y.cls ≠ "java/lang/invoke/MethodHandle" ∧ y.cls ≠ "java/lang/invoke/VarHandle")
    (M : Pays l Z z bytes maxL ret [] rm as' h Q) (hf : rm.frames + 1 ≤ R.frames) (hl : W + (maxL + 11) + rm.locals ≤ R.locals) (hc : cells + rm.cells ≤ R.cells) (hs : slots + rm.slots ≤ R.slots) (eT : T.heap = h) {b : Addr} (E : Exa Z h b K)
    {g : JFrame} (hg : g.method = m) (hsize : g.locals.size = c.maxLocals) {argsL rest : List Value} (hlen : ∀ sig, parseMethodDescriptor y.desc = some sig → argsL.length = sig.parameters.length) (hstack : g.stack = argsL.reverse ++ .ref b :: rest) (has : (.ref b :: argsL).toArray = as') (hW : 2 * g.monitorRoom + (rest.map fun v => v.category).sum ≤ W) (hdg : decode c.code g.pc = .ok (.invokevirtual index, 3)) :
    ∃ (v : Option Value) (T' : State) (L : List Loc), Stand p l e R s m args below meth c T' (locs ++ L) (cells + rm.cells) (slots + rm.slots) ∧ Q v T'.heap L ∧ ∀ t, Steps p.tables e below (T'.setTop { g with pc := g.pc + 3, stack := v.toList ++ rest }) t → Steps p.tables e below (T.setTop g) t := by
  obtain ⟨cq, kq, qa, -, qc⟩ := isOf (T := T) hZ eT E
  obtain ⟨v, vm1, ⟨T', L', k', n'⟩, -, X', ⟨Lc, hQ, l1, y1, z1⟩, st⟩ := X.virtualBack hx (y := y) (z := z) hown (mvT hZ w1) (mvT hZ w2) nf (mvT hZ w3) (mvT hZ w5) hy (backOf (W := W) M hZ w4 w6 hf hl) qa qc hg hsize (Steps.refl _) (argsL := argsL) (rest := rest) hlen hstack hW hdg (fun _ _ => ⟨has, eT, hc, hs⟩)
  dsimp only [Pt.U, Pt.locs, Pt.cells, Pt.slots] at X' l1 y1 z1 st hQ
  subst l1 y1 z1
  exact ⟨v, T', Lc, X', hQ, fun t k => st.trans k⟩
theorem callInit (X : Stand p l e R s m args below meth c T locs cells slots) (hx : p.tables.exec = Jvm.exec) (hZ : Z.Warmed39 s.vm) {own : String} {index : Nat} {y : MethodName} {bytes : ByteArray} {maxL W : Nat} {rm : Room} {as' : Array Value}
    (hy1 : y.name = "<init>") (hown : s.vm.findClass own = some m.cls) (w1 : (Jvm.Cond.methodLink own index y).before a0 Z = true) (w5 : (Jvm.Cond.instanceMethod y).before a0 Z = true) (w6 : (Jvm.Cond.initialized y.cls).before a0 Z = true) (w4 : (Jvm.Cond.code y bytes maxL none).before a0 Z = true) (hy : y.cls ≠ "java/lang/invoke/MethodHandle" ∧ y.cls ≠ "java/lang/invoke/VarHandle")
    (M : Pays l Z y bytes maxL none [] rm as' h Q) (hf : rm.frames + 1 ≤ R.frames) (hl : W + (maxL + 11) + rm.locals ≤ R.locals) (hc : cells + rm.cells ≤ R.cells) (hs : slots + rm.slots ≤ R.slots) (eT : T.heap = h) {b : Addr}
    {g : JFrame} (hg : g.method = m) (hsize : g.locals.size = c.maxLocals) {argsL rest : List Value} (hlen : ∀ sig, parseMethodDescriptor y.desc = some sig → argsL.length = sig.parameters.length) (hstack : g.stack = argsL.reverse ++ .ref b :: rest) (has : (.ref b :: argsL).toArray = as') (hW : 2 * g.monitorRoom + (rest.map fun v => v.category).sum ≤ W) (hdg : decode c.code g.pc = .ok (.invokespecial index, 3)) :
    ∃ (v : Option Value) (T' : State) (L : List Loc), Stand p l e R s m args below meth c T' (locs ++ L) (cells + rm.cells) (slots + rm.slots) ∧ Q v T'.heap L ∧ ∀ t, Steps p.tables e below (T'.setTop { g with pc := g.pc + 3, stack := v.toList ++ rest }) t → Steps p.tables e below (T.setTop g) t := by
  obtain ⟨v, vm1, ⟨T', L', k', n'⟩, -, X', ⟨Lc, hQ, l1, y1, z1⟩, st⟩ := X.specialBack hx (y := y) hy1 hown (mvT hZ w1) (mvT hZ w5) (mvT hZ w4) hy (backOf (W := W) M hZ w4 w6 hf hl) hg hsize (Steps.refl _) (a := b) (argsL := argsL) (rest := rest) hlen hstack hW hdg (fun _ _ => ⟨has, eT, hc, hs⟩)
  dsimp only [Pt.U, Pt.locs, Pt.cells, Pt.slots] at X' l1 y1 z1 st hQ
  subst l1 y1 z1
  exact ⟨v, T', Lc, X', hQ, fun t k => st.trans k⟩
theorem callPrivate (X : Stand p l e R s m args below meth c T locs cells slots) (hx : p.tables.exec = Jvm.exec) (hZ : Z.Warmed39 s.vm) {own K : String} {index kk : Nat} {y : MethodName} {bytes : ByteArray} {maxL W : Nat} {ret : Option FieldType} {rm : Room} {as' : Array Value}
    (hown : s.vm.findClass own = some m.cls) (w1 : (Jvm.Cond.methodLink own index y).before a0 Z = true) (w5 : (Jvm.Cond.instanceMethod y).before a0 Z = true) (wp : (Jvm.Cond.privateMethod y).before a0 Z = true) (wi : (Jvm.Cond.instantiable y.cls kk).before a0 Z = true) (w6 : (Jvm.Cond.initialized y.cls).before a0 Z = true) (w4 : (Jvm.Cond.code y bytes maxL ret).before a0 Z = true) (hy : y.cls ≠ "java/lang/invoke/MethodHandle" ∧ y.cls ≠ "java/lang/invoke/VarHandle")
    (M : Pays l Z y bytes maxL ret [] rm as' h Q) (hf : rm.frames + 1 ≤ R.frames) (hl : W + (maxL + 11) + rm.locals ≤ R.locals) (hc : cells + rm.cells ≤ R.cells) (hs : slots + rm.slots ≤ R.slots) (eT : T.heap = h) {b : Addr} (E : Exa Z h b K)
    {g : JFrame} (hg : g.method = m) (hsize : g.locals.size = c.maxLocals) {argsL rest : List Value} (hlen : ∀ sig, parseMethodDescriptor y.desc = some sig → argsL.length = sig.parameters.length) (hstack : g.stack = argsL.reverse ++ .ref b :: rest) (has : (.ref b :: argsL).toArray = as') (hW : 2 * g.monitorRoom + (rest.map fun v => v.category).sum ≤ W) (hdg : decode c.code g.pc = .ok (.invokevirtual index, 3)) :
    ∃ (v : Option Value) (T' : State) (L : List Loc), Stand p l e R s m args below meth c T' (locs ++ L) (cells + rm.cells) (slots + rm.slots) ∧ Q v T'.heap L ∧ ∀ t, Steps p.tables e below (T'.setTop { g with pc := g.pc + 3, stack := v.toList ++ rest }) t → Steps p.tables e below (T.setTop g) t := by
  obtain ⟨cc, kc, i1, i2, -, i4, -⟩ := Cond.instantiable_spec (mvT (args := args) hZ wi)
  have i5 : kc.isInterface = false := by cases hq : kc.isInterface <;> simp_all
  have hpr := Cond.privateMethod_at (mvP (args := #[]) hZ wp)
  obtain ⟨cell, c1, c2⟩ := E.cell
  obtain ⟨v, vm1, ⟨T', L', k', n'⟩, -, X', ⟨Lc, hQ, l1, y1, z1⟩, st⟩ := X.privateBack hx (y := y) hown (mvT hZ w1) (mvT hZ w5) (selects_self_of_private i1 i2 i5 hpr (mvT hZ w5) hy) hpr (mvT hZ w4) hy (backOf (W := W) M hZ w4 w6 hf hl) hg hsize (Steps.refl _) (a := b) (cell := cell) (by rw [eT]; exact c1) c2 (argsL := argsL) (rest := rest) hlen hstack hW hdg (fun _ _ => ⟨has, eT, hc, hs⟩)
  dsimp only [Pt.U, Pt.locs, Pt.cells, Pt.slots] at X' l1 y1 z1 st hQ
  subst l1 y1 z1
  exact ⟨v, T', Lc, X', hQ, fun t k => st.trans k⟩
theorem callFace (X : Stand p l e R s m args below meth c T locs cells slots) (hx : p.tables.exec = Jvm.exec) (hZ : Z.Warmed39 s.vm) {own K : String} {index count : Nat} {y z : MethodName} {bytes : ByteArray} {maxL W : Nat} {ret : Option FieldType} {rm : Room} {as' : Array Value}
    (hown : s.vm.findClass own = some m.cls) (w1 : (Jvm.Cond.methodLink own index y).before a0 Z = true) (w2 : (Jvm.Cond.declares y).before a0 Z = true) (wf : (Jvm.Cond.interfaceMethod y.cls y.cls y.name y.desc).before args s = true) (w3 : (Jvm.Cond.selects K y z).before a0 Z = true) (w5 : (Jvm.Cond.instanceMethod z).before a0 Z = true) (wp : (Jvm.Cond.publicMethod z).before a0 Z = true) (wu : (Jvm.Cond.unhidden K y.name y.desc).before a0 Z = true) (wc : (Jvm.Cond.castable K y.cls).before a0 Z = true) (w6 : (Jvm.Cond.initialized z.cls).before a0 Z = true) (w4 : (Jvm.Cond.code z bytes maxL ret).before a0 Z = true) (hy : y.cls ≠ "java/lang/invoke/MethodHandle" ∧ y.cls ≠ "java/lang/invoke/VarHandle")
    (M : Pays l Z z bytes maxL ret [] rm as' h Q) (hf : rm.frames + 1 ≤ R.frames) (hl : W + (maxL + 11) + rm.locals ≤ R.locals) (hc : cells + rm.cells ≤ R.cells) (hs : slots + rm.slots ≤ R.slots) (eT : T.heap = h) {b : Addr} (E : Exa Z h b K)
    {g : JFrame} (hg : g.method = m) (hsize : g.locals.size = c.maxLocals) {argsL rest : List Value} (hlen : ∀ sig, parseMethodDescriptor y.desc = some sig → argsL.length = sig.parameters.length) (hstack : g.stack = argsL.reverse ++ .ref b :: rest) (has : (.ref b :: argsL).toArray = as') (hW : 2 * g.monitorRoom + (rest.map fun v => v.category).sum ≤ W) (hdg : decode c.code g.pc = .ok (.invokeinterface index count, 5)) :
    ∃ (v : Option Value) (T' : State) (L : List Loc), Stand p l e R s m args below meth c T' (locs ++ L) (cells + rm.cells) (slots + rm.slots) ∧ Q v T'.heap L ∧ ∀ t, Steps p.tables e below (T'.setTop { g with pc := g.pc + 5, stack := v.toList ++ rest }) t → Steps p.tables e below (T.setTop g) t := by
  obtain ⟨cq, kq, qa, qb, qc⟩ := isOf (T := T) hZ eT E
  obtain ⟨v, vm1, ⟨T', L', k', n'⟩, -, X', ⟨Lc, hQ, l1, y1, z1⟩, st⟩ := X.interfaceBack hx (xi := y) (y := z) hown (mvT hZ w1) (mvT hZ w2) wf (mvT hZ w3) (mvT hZ w5) (mvT hZ wp) (mvT hZ wu) (mvT hZ wc) hy (backOf (W := W) M hZ w4 w6 hf hl) qa qb qc hg hsize (Steps.refl _) (argsL := argsL) (rest := rest) hlen hstack hW hdg (fun _ _ => ⟨has, eT, hc, hs⟩)
  dsimp only [Pt.U, Pt.locs, Pt.cells, Pt.slots] at X' l1 y1 z1 st hQ
  subst l1 y1 z1
  exact ⟨v, T', Lc, X', hQ, fun t k => st.trans k⟩
theorem castV (X : Stand p l e R s m args below meth c T locs cells slots) (hx : p.tables.exec = Jvm.exec) (hZ : Z.Warmed39 s.vm) {own K : String} {index : Nat} (hown : s.vm.findClass own = some m.cls) (w : (Jvm.Cond.classLink own index K).before a0 Z = true) (eT : T.heap = h) {v : Value} (F : v = .null ∨ ∃ a, v = .ref a ∧ Ins Z h a K true)
    {g : JFrame} (hg : g.method = m) {rest : List Value} (hs : g.stack = v :: rest) (hd : decode c.code g.pc = .ok (.checkcast index, 3)) : ∃ T', Stand p l e R s m args below meth c T' locs cells slots ∧ T'.heap = h ∧ ∀ target, Steps p.tables e below (T'.setTop { g with pc := g.pc + 3 }) target → Steps p.tables e below (T.setTop g) target := by
  rcases F with rfl | ⟨a, rfl, I⟩
  · exact ⟨T, X, eT, fun t k => X.checkcastNull hx (g := g) hg hs hd t k⟩
  · exact castY X hx hZ hown w eT I hg hs hd
theorem moreRoom {cells' slots' : Nat} (X : Stand p l e R s m args below meth c T locs cells slots) (h1 : cells ≤ cells') (h2 : slots ≤ slots') : Stand p l e R s m args below meth c T locs cells' slots' :=
  { X with same := X.same.mono h1 h2 }
theorem wdOf {ts : List Jvm.Cond} (hw : ∀ d ∈ ts, d.before a0 Z = true) {d : Jvm.Cond} (k : Nat) (hk : ts[k]? = some d) : d.before a0 Z = true := hw _ (List.mem_of_getElem? hk)
end Own
end Jvm.RoadKit
namespace Jvm.RoadKit
open Sem ClassFile Op Lib Jvm.Stand Jvm.Free Jvm.LawKit
section OwnWords
variable {args : Array Value} {first s : State} {o : Option Outcome} {idx : List Nat} {t : Term}
theorem eqInt_v {k : Int32} (h : (Jvm.Cond.eq t (.int k)).value args first o s idx = some true) : t.eval args first o idx s = some (.int k) := by
  simp only [Jvm.Cond.value, Term.eval] at h
  cases ht : t.eval args first o idx s with
  | none => simp [ht] at h
  | some x => cases x <;> simp [ht] at h ⊢; exact h
theorem ownFits {ty : FieldType} {v : Value} (hv : v.isRef = true) (ht : ty.isReference = true) : fits ty v = true := by
  rcases ref_cases hv with rfl | ⟨a, rfl⟩ <;> cases ty <;> first | rfl | cases ht
theorem Sta.keepN {Z : State} {h h' : Heap} {C n d : String} {v : Value} {ws : List Addr} (F : Sta Z h C n d v) (K : Keep h h' ws) (hn : ∀ a ∈ ws, ∃ c : Cell, h[a]? = some c ∧ ∀ q, c.vm ≠ .statics q) : Sta Z h' C n d v := by
  obtain ⟨cf, i, k, f, st, cell, h1, h2, h3, h4, h5, h6, h7⟩ := F
  refine ⟨cf, i, k, f, st, cell, h1, h2, h3, h4, K.2.1 _ _ h5 fun hm => ?_, h6, h7⟩
  obtain ⟨c, g1, g2⟩ := hn st hm
  cases h5.symm.trans g1
  cases hq : cell.vm <;> first | (rw [hq] at h6; exact Bool.noConfusion h6) | exact g2 _ hq
theorem NSr {Z : State} {a0 : Array Value} {O K : String} {n : Nat} (w : (Jvm.Cond.noSuperclass O).before a0 Z = true) (wi : (Jvm.Cond.instantiable K n).before a0 Z = true) (hn : O ≠ K) : NS Z O K := by
  obtain ⟨c, k, h1, h2, h3, -, -⟩ := Cond.noSuperclass_spec w
  obtain ⟨t, kt, g1, -⟩ := Cond.instantiable_spec wi
  refine ⟨c, t, h1, g1, fun fuel => ?_⟩
  cases fuel with
  | zero => rfl
  | succ f => simp [Vm.isSubclassAux, ids_ne h1 g1 hn, h2, h3]
theorem NSno {Z : State} {a0 : Array Value} {C S K : String} {n : Nat} (w : (Jvm.Cond.superclass C S).before a0 Z = true) (wi : (Jvm.Cond.instantiable K n).before a0 Z = true) (q : NS Z C K) (hn : C ≠ K) : ∃ c t, Z.vm.findClass C = some c ∧ Z.vm.findClass K = some t ∧ Z.vm.assignable c t = false := by
  obtain ⟨c, t, h0, g0, n3⟩ := q
  obtain ⟨_, k, _, -, h2, -, -, h5, -, -⟩ := Cond.superclass_spec h0 w
  obtain ⟨t', k', g1, g2, g5, g7, -⟩ := Cond.instantiable_spec wi
  cases g0.symm.trans g1
  have g8 : k'.isInterface = false := by cases hq : k'.isInterface <;> simp_all
  refine ⟨c, t, h0, g0, ?_⟩
  show Z.vm.assignableAux (255 + 1) c t = false
  simp [Vm.assignableAux, ids_ne h0 g0 hn, h2, g2, h5, g5, g8, Vm.isSubclass, n3]
theorem Ext.of_keep {h h' : Heap} (K : Keep h h' []) : Ext h h' := ⟨K.1, fun a c q => K.2.1 a c q nin0⟩
theorem Keep.of_ext {h h' : Heap} (E : Ext h h') (ws : List Addr) : Keep h h' ws := (Keep.refl h ws).ext E
theorem ofInt {x : Int32} (n : Int32) (h : x.toInt = n.toInt) : x = n := Int32.toInt_inj.mp h
end OwnWords
end Jvm.RoadKit
namespace Jvm.RoadKit
open Sem ClassFile Op Lib Jvm.Stand Jvm.Free Jvm.LawKit
section OwnBox
theorem eqVal_v {args : Array Value} {first s : State} {o : Option Outcome} {idx : List Nat} {t u : Term} {w : Value} (h : (Jvm.Cond.eq t u).value args first o s idx = some true) (hu : u.eval args first o idx s = some w) (hw : (∃ n, w = .int n) ∨ ∃ n, w = .long n) : t.eval args first o idx s = some w := by
  rcases hw with ⟨n, rfl⟩ | ⟨n, rfl⟩ <;>
  · simp only [Jvm.Cond.value, hu] at h
    cases ht : t.eval args first o idx s with
    | none => simp [ht] at h
    | some x => cases x <;> simp [ht] at h ⊢; exact h
/-- a cache of 256 boxes, as it stands in the heap of Z: the i-th holds val i -/
def BoxC (Z : State) (K D B vd : String) (val : Nat → Value) : Prop := ∃ (ca : Addr) (cl : Cell), Sta Z Z.heap K "cache" D (.ref ca) ∧ Arr Z Z.heap ca cl (.object B) ∧ cl.slots.size = 256 ∧ ∀ i, i < 256 → ∃ r, cl.slots[i]? = some (.ref r) ∧ Exa Z Z.heap r B ∧ Fld Z Z.heap r B "value" vd (val i)
theorem clamp256 {i : Nat} (h : i < 256) : i.toInt32.toNatClampNeg = i := by
  have : i.toInt32.toInt = i := Int32.toInt_ofNat_small (by omega)
  simp [Int32.toNatClampNeg, this]
theorem BoxC.start {s : State} {args : Array Value} {K D B vd : String} {u : Term} {val : Nat → Value} (hi : (Jvm.Cond.initialized K).before args s = true) (hl : (Jvm.Cond.laysStatic K "cache" D).before args s = true)
    (ha : (Jvm.Cond.arrayOf (.static K "cache" D) (.object B)).before args s = true) (hn : (Jvm.Cond.eq (.length (.static K "cache" D)) (.int 256)).before args s = true)
    (hall : (Jvm.Cond.all (.static K "cache" D) (.and (.exactly (.elem (.static K "cache" D) (.index 0)) B) (.eq (.field (.elem (.static K "cache" D) (.index 0)) B "value" vd) u))).before args s = true)
    (hu : ∀ i : Nat, u.eval args s none [i] s = some (val i)) (hv : ∀ i, (∃ n, val i = .int n) ∨ ∃ n, val i = .long n) : BoxC s K D B vd val := by
  have ha' := Cond.before_iff.mp ha
  obtain ⟨ca, ev⟩ := arr_v ha'
  obtain ⟨cl, A⟩ := Arr.start ev ha'
  have hat : s.arrayAt? ca = some cl := A.fin (Vm.Alike.refl _)
  have hsz : cl.slots.size = 256 := by
    have h1 := eqInt_v (Cond.before_iff.mp hn)
    simp only [Term.eval, hat] at h1
    have ev' := ev
    simp only [Term.eval] at ev'
    rw [ev'] at h1
    by_cases hq : cl.slots.size < 2 ^ 31
    · simp [hat, hq] at h1
      have h2 : cl.slots.size.toInt32.toInt = 256 := by rw [h1]; rfl
      rw [Int32.toInt_ofNat_small hq] at h2
      omega
    · simp [hat, hq] at h1
  refine ⟨ca, cl, Sta.start ev (Or.inr ⟨hi, hl⟩), A, hsz, fun i hi => ?_⟩
  obtain ⟨h1, h2⟩ := and_e (Cond.all_elim ev hat (Cond.before_iff.mp hall) i (by omega))
  obtain ⟨r, er⟩ := exa_v h1
  have ev1 : (Term.static K "cache" D).eval args s none [i] s = some (.ref ca) := ev
  obtain ⟨-, q⟩ := elem_in er ev1 (Term.index_eval (idx := []) i) A.1
  rw [clamp256 hi] at q
  refine ⟨r, q, exa_at er h1, Fld.start ?_⟩
  rw [← fld_at er]
  exact eqVal_v h2 (hu i) (hv i)
end OwnBox
end Jvm.RoadKit
namespace Jvm.Pilot.@@N@@
open Jvm Jvm.ClassFile Sem Op Lib Jvm.Free Jvm.Stand Jvm.LawKit Jvm.RoadKit Bundle Jvm.Pilot.@@N@@.Jvm.D
theorem pd_0 : parseMethodDescriptor "()V" = some ⟨[], none⟩ := by decide +kernel
theorem pd_1 : parseMethodDescriptor "(J)V" = some ⟨[.long], none⟩ := by decide +kernel
theorem pd_2 : parseMethodDescriptor "()Ljava/lang/Long;" = some ⟨[], some (.object "java/lang/Long")⟩ := by decide +kernel
theorem pd_3 : parseMethodDescriptor "(Lcom/example/dead_letter_replay/deadletterreplay/queue/Carries$Carried;)I" = some ⟨[(.object "com/example/dead_letter_replay/deadletterreplay/queue/Carries$Carried")], some .int⟩ := by decide +kernel
theorem pd_4 : parseMethodDescriptor "()J" = some ⟨[], some .long⟩ := by decide +kernel
theorem pd_5 : parseMethodDescriptor "(JJ)J" = some ⟨[.long, .long], some .long⟩ := by decide +kernel
theorem pd_6 : parseMethodDescriptor "(J)Ljava/lang/Long;" = some ⟨[.long], some (.object "java/lang/Long")⟩ := by decide +kernel
theorem pd_7 : parseMethodDescriptor "(II)I" = some ⟨[.int, .int], some .int⟩ := by decide +kernel
theorem pd_8 : parseMethodDescriptor "(I)Z" = some ⟨[.int], some .boolean⟩ := by decide +kernel
theorem pd_9 : parseMethodDescriptor "(Ljava/lang/Long;JJI)V" = some ⟨[(.object "java/lang/Long"), .long, .long, .int], none⟩ := by decide +kernel
theorem pd_10 : parseMethodDescriptor "(Lcom/example/dead_letter_replay/deadletterreplay/queue/Carries$Carried;)V" = some ⟨[(.object "com/example/dead_letter_replay/deadletterreplay/queue/Carries$Carried")], none⟩ := by decide +kernel
theorem d_rm_vo_num_0 : decode jdk_18_method_1_code 0 = .ok (.aload_n 0, 1) := by decide +kernel
theorem d_rm_vo_num_1 : decode jdk_18_method_1_code 1 = .ok (.invokespecial 1, 3) := by decide +kernel
theorem d_rm_vo_num_4 : decode jdk_18_method_1_code 4 = .ok (.return_, 1) := by decide +kernel
set_option maxHeartbeats 4000000 in
theorem ef_rm_vo_num (m : MethodId) (x0 : Addr)  : entryFrame m #[(.ref x0)] 1 = mkF m 0 #[.val (.ref x0)] [] := by first | (simp [entryFrame, mkF, argsToLocals, catR, catN, catI, catJ]; done) | rfl
set_option maxRecDepth 65536 in
set_option maxHeartbeats 40000000 in
theorem rm_vo_num (l : Launch) (Z : State) (a0 : Array Value) (hw : ∀ d ∈ tables_1, d.before a0 Z = true) (ws : List Jvm.Cond) (ax : Addr) (h0 : Heap) (n0 : Nat) (Z0 : n0 ≤ h0.size)  :
    Pays l Z (⟨"java/lang/Number", "<init>", "()V"⟩ : MethodName) jdk_18_method_1_code 1 none ws ({ frames := 1, cells := 0, slots := 0, locals := 12 } : Room) #[(.ref ax)] h0 (fun v h L => v = none ∧ Fr n0 L ∧ h = h0) := by
  refine Pays.of (plainFor_of_name (by first | (simp [plainName, overriddenIn]; done) | decide +kernel)) ?_
  intro p e s m below meth c s₁ hx hby hml hown hnm hret hlk hZ e0 X0
  have N0 := Fr.nil n0
  have K0 : Keep h0 h0 [] := Keep.refl _ _
  refine Goes.go (U' := (s₁.setTop (mkF m 0 #[.val (.ref ax)] []))) (fun t kt => castTop (ef_rm_vo_num m ax) kt) ?_
  refine Goes.go (U' := (s₁.setTop (mkF m 1 #[.val (.ref ax)] [(.ref ax)]))) (fun t kt => ?_) ?_
  · show Steps p.tables e below (s₁.setTop (mkF m 0 #[.val (.ref ax)] [])) t
    refine XS.aloadN X0.here hx rfl (hb hby d_rm_vo_num_0) rfl rfl ?_
    exact kt
  obtain ⟨T_1, X_1, e_1, st_1⟩ := initO X0 hx hZ hown (wdOf hw 107 rfl) (wdOf hw 7 rfl) (wdOf hw 8 rfl) e0 (g := (mkF m 1 #[.val (.ref ax)] [(.ref ax)])) rfl (by rw [hml]; rfl) rfl (hb hby d_rm_vo_num_1) (by decide) (W := 0) (Nat.le_refl _) (by decide)
  refine Goes.go (U' := (T_1.setTop (mkF m 4 #[.val (.ref ax)] []))) st_1 ?_
  refine Goes.retV X_1 hx hlk hret (hb hby d_rm_vo_num_4) (by decide) (by decide) ?_
  try rw [e_1]
  exact ⟨rfl, N0, rfl⟩
theorem d_rm_vo_init_0 : decode jdk_35_method_26_code 0 = .ok (.aload_n 0, 1) := by decide +kernel
theorem d_rm_vo_init_1 : decode jdk_35_method_26_code 1 = .ok (.invokespecial 270, 3) := by decide +kernel
theorem d_rm_vo_init_4 : decode jdk_35_method_26_code 4 = .ok (.aload_n 0, 1) := by decide +kernel
theorem d_rm_vo_init_5 : decode jdk_35_method_26_code 5 = .ok (.lload_n 1, 1) := by decide +kernel
theorem d_rm_vo_init_6 : decode jdk_35_method_26_code 6 = .ok (.putfield 273, 3) := by decide +kernel
theorem d_rm_vo_init_9 : decode jdk_35_method_26_code 9 = .ok (.return_, 1) := by decide +kernel
set_option maxHeartbeats 4000000 in
theorem ef_rm_vo_init (m : MethodId) (x0 : Addr) (x1 : Int64)  : entryFrame m #[(.ref x0), (.long x1)] 3 = mkF m 0 #[.val (.ref x0), .val (.long x1), .second] [] := by first | (simp [entryFrame, mkF, argsToLocals, catR, catN, catI, catJ]; done) | rfl
set_option maxRecDepth 65536 in
set_option maxHeartbeats 40000000 in
theorem rm_vo_init (l : Launch) (Z : State) (a0 : Array Value) (hw : ∀ d ∈ tables_1, d.before a0 Z = true) (ws : List Jvm.Cond) (ax : Addr) (xv : Int64) (h0 : Heap) (n0 : Nat) (Z0 : n0 ≤ h0.size) (o0 : n0 ≤ ax) (E0 : Exa Z h0 ax "java/lang/Long") (F0 : Fld Z h0 ax "java/lang/Long" "value" "J" (.long (0 : Int64))) :
    Pays l Z (⟨"java/lang/Long", "<init>", "(J)V"⟩ : MethodName) jdk_35_method_26_code 3 none ws ({ frames := 2, cells := 0, slots := 0, locals := 24 } : Room) #[(.ref ax), (.long xv)] h0 (fun v h L => v = none ∧ Fr n0 L ∧ Keep h0 h [ax] ∧ Exa Z h ax "java/lang/Long" ∧ Fld Z h ax "java/lang/Long" "value" "J" (.long xv)) := by
  refine Pays.of (plainFor_of_name (by first | (simp [plainName, overriddenIn]; done) | decide +kernel)) ?_
  intro p e s m below meth c s₁ hx hby hml hown hnm hret hlk hZ e0 X0
  have N0 := Fr.nil n0
  have K0 : Keep h0 h0 [ax] := Keep.refl _ _
  refine Goes.go (U' := (s₁.setTop (mkF m 0 #[.val (.ref ax), .val (.long xv), .second] []))) (fun t kt => castTop (ef_rm_vo_init m ax xv) kt) ?_
  refine Goes.go (U' := (s₁.setTop (mkF m 1 #[.val (.ref ax), .val (.long xv), .second] [(.ref ax)]))) (fun t kt => ?_) ?_
  · show Steps p.tables e below (s₁.setTop (mkF m 0 #[.val (.ref ax), .val (.long xv), .second] [])) t
    refine XS.aloadN X0.here hx rfl (hb hby d_rm_vo_init_0) rfl rfl ?_
    exact kt
  obtain ⟨v_1, T_1, L_1, X_1, q_1, st_1⟩ := callInit X0 hx hZ (y := (⟨"java/lang/Number", "<init>", "()V"⟩ : MethodName)) (W := 0) rfl hown (wdOf hw 101 rfl) (wdOf hw 102 rfl) (wdOf hw 105 rfl) (wdOf hw 106 rfl) (by decide) (rm_vo_num l Z a0 hw [] ax h0 n0 Z0) (by decide) (by decide) (by decide) (by decide) e0 (b := ax) (g := (mkF m 1 #[.val (.ref ax), .val (.long xv), .second] [(.ref ax)])) rfl (by rw [hml]; rfl) (argsL := []) (rest := []) (lenOf pd_0 rfl) rfl rfl (Nat.le_refl _) (hb hby d_rm_vo_init_1)
  obtain ⟨rfl, n_1, K_1⟩ := q_1
  have N_1 := Fr.app N0 n_1
  refine Goes.go (U' := (T_1.setTop (mkF m 4 #[.val (.ref ax), .val (.long xv), .second] []))) st_1 ?_
  refine Goes.go (U' := (T_1.setTop (mkF m 6 #[.val (.ref ax), .val (.long xv), .second] [(.long xv), (.ref ax)]))) (fun t kt => ?_) ?_
  · show Steps p.tables e below (T_1.setTop (mkF m 4 #[.val (.ref ax), .val (.long xv), .second] [])) t
    refine XS.aloadN X_1.here hx rfl (hb hby d_rm_vo_init_4) rfl rfl ?_
    show Steps p.tables e below (T_1.setTop (mkF m 5 #[.val (.ref ax), .val (.long xv), .second] [(.ref ax)])) t
    refine XS.lloadN X_1.here hx rfl (hb hby d_rm_vo_init_5) rfl ?_
    exact kt
  obtain ⟨T_2, h_2, X_2, e_2, W_2, st_2⟩ := putF X_1 hx hZ hown (host := "") (Or.inl (wdOf hw 81 rfl)) Via.refl K_1 F0 E0 (Or.inr ⟨wdOf hw 82 rfl, rfl, hnm⟩) (wdOf hw 96 rfl) (ty := .long) (by decide) rfl rfl (g := (mkF m 6 #[.val (.ref ax), .val (.long xv), .second] [(.long xv), (.ref ax)])) rfl rfl (hb hby d_rm_vo_init_6)
  have N_2 := Fr.snoc X_2 N_1 o0
  have f_3 : Exa Z h_2 ax "java/lang/Long" := E0.wr W_2
  have f_4 : Fld Z h_2 ax "java/lang/Long" "value" "J" (.long xv) := F0.same W_2
  have K_5 : Keep h0 h_2 [ax] := K0.wr W_2 (Or.inl (List.mem_of_getElem? (i := 0) rfl))
  have y_5 : n0 ≤ h_2.size := Nat.le_trans Z0 K_5.1
  refine Goes.go (U' := (T_2.setTop (mkF m 9 #[.val (.ref ax), .val (.long xv), .second] []))) st_2 ?_
  refine Goes.retV X_2 hx hlk hret (hb hby d_rm_vo_init_9) (by decide) (by decide) ?_
  try rw [e_2]
  exact ⟨rfl, N_2, K_5, f_3, f_4⟩
theorem own_ixL {i : Int64} (h1 : ¬ i < (-128 : Int64)) (h2 : ¬ (127 : Int64) < i) : ¬ (i.toInt32 + (128 : Int32)) < 0 ∧ (i.toInt32 + (128 : Int32)).toNatClampNeg < 256 ∧ (Value.long ((i.toInt32 + (128 : Int32)).toNatClampNeg.toInt32 - 128).toInt64) = .long i := by
  rw [Int64.lt_iff_toInt_lt] at h1 h2
  have e1 : (-128 : Int64).toInt = -128 := rfl
  have e2 : (127 : Int64).toInt = 127 := rfl
  have e3 : (128 : Int32).toInt = 128 := rfl
  have q0 := c_l2i i
  have r0 := rng32 i.toInt32
  have q := c_iadd i.toInt32 128
  have r := rng32 (i.toInt32 + 128)
  have h3 : (i.toInt32 + (128 : Int32)).toInt = i.toInt + 128 := by omega
  have h0 : ¬ (i.toInt32 + (128 : Int32)) < 0 := by rw [Int32.lt_iff_toInt_lt]; show ¬ _ < (0 : Int); omega
  refine ⟨h0, by simp only [Int32.toNatClampNeg]; omega, ?_⟩
  rw [(back32 h0).1]
  congr 1
  apply Int64.toInt_inj.mp
  rw [c_i2l]
  have q2 := c_isub (i.toInt32 + 128) 128
  have r2 := rng32 (i.toInt32 + 128 - 128)
  omega
theorem d_rm_vo_0 : decode jdk_35_method_24_code 0 = .ok (.sipush 128, 3) := by decide +kernel
theorem d_rm_vo_3 : decode jdk_35_method_24_code 3 = .ok (.istore_n 2, 1) := by decide +kernel
theorem d_rm_vo_4 : decode jdk_35_method_24_code 4 = .ok (.lload_n 0, 1) := by decide +kernel
theorem d_rm_vo_5 : decode jdk_35_method_24_code 5 = .ok (.ldc2_w 230, 3) := by decide +kernel
theorem d_rm_vo_8 : decode jdk_35_method_24_code 8 = .ok (.lcmp, 1) := by decide +kernel
theorem d_rm_vo_9 : decode jdk_35_method_24_code 9 = .ok (.ifCond .lt 22, 3) := by decide +kernel
theorem d_rm_vo_12 : decode jdk_35_method_24_code 12 = .ok (.lload_n 0, 1) := by decide +kernel
theorem d_rm_vo_13 : decode jdk_35_method_24_code 13 = .ok (.ldc2_w 232, 3) := by decide +kernel
theorem d_rm_vo_16 : decode jdk_35_method_24_code 16 = .ok (.lcmp, 1) := by decide +kernel
theorem d_rm_vo_17 : decode jdk_35_method_24_code 17 = .ok (.ifCond .gt 14, 3) := by decide +kernel
theorem d_rm_vo_20 : decode jdk_35_method_24_code 20 = .ok (.getstatic 234, 3) := by decide +kernel
theorem d_rm_vo_23 : decode jdk_35_method_24_code 23 = .ok (.lload_n 0, 1) := by decide +kernel
theorem d_rm_vo_24 : decode jdk_35_method_24_code 24 = .ok (.l2i, 1) := by decide +kernel
theorem d_rm_vo_25 : decode jdk_35_method_24_code 25 = .ok (.sipush 128, 3) := by decide +kernel
theorem d_rm_vo_28 : decode jdk_35_method_24_code 28 = .ok (.iadd, 1) := by decide +kernel
theorem d_rm_vo_29 : decode jdk_35_method_24_code 29 = .ok (.aaload, 1) := by decide +kernel
theorem d_rm_vo_30 : decode jdk_35_method_24_code 30 = .ok (.areturn, 1) := by decide +kernel
theorem d_rm_vo_31 : decode jdk_35_method_24_code 31 = .ok (.new 1, 3) := by decide +kernel
theorem d_rm_vo_34 : decode jdk_35_method_24_code 34 = .ok (.dup, 1) := by decide +kernel
theorem d_rm_vo_35 : decode jdk_35_method_24_code 35 = .ok (.lload_n 0, 1) := by decide +kernel
theorem d_rm_vo_36 : decode jdk_35_method_24_code 36 = .ok (.invokespecial 240, 3) := by decide +kernel
theorem d_rm_vo_39 : decode jdk_35_method_24_code 39 = .ok (.areturn, 1) := by decide +kernel
set_option maxHeartbeats 4000000 in
theorem ef_rm_vo (m : MethodId) (x0 : Int64)  : entryFrame m #[(.long x0)] 3 = mkF m 0 #[.val (.long x0), .second, .unset] [] := by first | (simp [entryFrame, mkF, argsToLocals, catR, catN, catI, catJ]; done) | rfl
set_option maxRecDepth 65536 in
set_option maxHeartbeats 40000000 in
theorem rm_vo (l : Launch) (Z : State) (a0 : Array Value) (hw : ∀ d ∈ tables_1, d.before a0 Z = true) (ws : List Jvm.Cond) (iv : Int64) (h0 : Heap) (n0 : Nat) (Z0 : n0 ≤ h0.size) (O : Old Z n0 h0) (BC : BoxC Z "java/lang/Long$LongCache" "[Ljava/lang/Long;" "java/lang/Long" "J" (fun i => .long (i.toInt32 - 128).toInt64))  :
    Pays l Z (⟨"java/lang/Long", "valueOf", "(J)Ljava/lang/Long;"⟩ : MethodName) jdk_35_method_24_code 3 (some (.object "java/lang/Long")) ws ({ frames := 3, cells := 1, slots := 1, locals := 39 } : Room) #[(.long iv)] h0 (fun v h L => ∃ r, v = some (.ref r) ∧ Fr n0 L ∧ Ext h0 h ∧ Exa Z h r "java/lang/Long" ∧ Fld Z h r "java/lang/Long" "value" "J" (.long iv)) := by
  refine Pays.of (plainFor_of_name (by first | (simp [plainName, overriddenIn]; done) | decide +kernel)) ?_
  intro p e s m below meth c s₁ hx hby hml hown hnm hret hlk hZ e0 X0
  have N0 := Fr.nil n0
  have K0 : Keep h0 h0 [] := Keep.refl _ _
  refine Goes.go (U' := (s₁.setTop (mkF m 0 #[.val (.long iv), .second, .unset] []))) (fun t kt => castTop (ef_rm_vo m iv) kt) ?_
  refine Goes.go (U' := (s₁.setTop (mkF m 9 #[.val (.long iv), .second, .val (.int (128 : Int32))] [(.int (XT.cmpL iv (-128 : Int64)))]))) (fun t kt => ?_) ?_
  · show Steps p.tables e below (s₁.setTop (mkF m 0 #[.val (.long iv), .second, .unset] [])) t
    refine XS.sipush X0.here hx rfl (hb hby d_rm_vo_0) ?_
    show Steps p.tables e below (s₁.setTop (mkF m 3 #[.val (.long iv), .second, .unset] [(.int (128 : Int32))])) t
    refine XS.istoreN X0.here hx rfl (hb hby d_rm_vo_3) rfl (l' := #[.val (.long iv), .second, .val (.int (128 : Int32))]) rfl ?_
    show Steps p.tables e below (s₁.setTop (mkF m 4 #[.val (.long iv), .second, .val (.int (128 : Int32))] [])) t
    refine XS.lloadN X0.here hx rfl (hb hby d_rm_vo_4) rfl ?_
    show Steps p.tables e below (s₁.setTop (mkF m 5 #[.val (.long iv), .second, .val (.int (128 : Int32))] [(.long iv)])) t
    refine Jvm.Stand.ldc2J X0 hx hown (mvT hZ (wdOf hw 28 rfl)) rfl (hb hby d_rm_vo_5) ?_
    show Steps p.tables e below (s₁.setTop (mkF m 8 #[.val (.long iv), .second, .val (.int (128 : Int32))] [(.long (-128 : Int64)), (.long iv)])) t
    refine XT.lcmp X0.here hx rfl (hb hby d_rm_vo_8) rfl ?_
    exact kt
  by_cases ci : iv < (-128 : Int64)
  · -- iv < (-128 : Int64)
    refine Goes.go (U' := (s₁.setTop (mkF m 31 #[.val (.long iv), .second, .val (.int (128 : Int32))] []))) (fun t kt => ?_) ?_
    · show Steps p.tables e below (s₁.setTop (mkF m 9 #[.val (.long iv), .second, .val (.int (128 : Int32))] [(.int (XT.cmpL iv (-128 : Int64)))])) t
      refine XS.ifYes X0.here hx rfl (pc0 := 9) (pc' := 31) rfl (hb hby d_rm_vo_9) rfl (XT.ll_lt_t ci) (by decide) (by decide) ?_
      exact kt
    obtain ⟨T_1, h_1, X_1, e_1, E_1, A_1, D_1, -, st_1⟩ := newO X0 hx hZ hown (wdOf hw 95 rfl) (wdOf hw 96 rfl) (wdOf hw 26 rfl) e0 (g := (mkF m 31 #[.val (.long iv), .second, .val (.int (128 : Int32))] [])) rfl (hb hby d_rm_vo_31) (by decide) (by decide)
    obtain ⟨b_1, g_1⟩ : ∃ z, z = h0.size := ⟨_, rfl⟩
    rw [← g_1] at A_1 D_1 st_1
    have o_1 : n0 ≤ b_1 := Nat.le_trans Z0 (Nat.le_of_eq g_1.symm)
    have z_1 : h0.size ≤ b_1 := Nat.le_trans K0.1 (Nat.le_of_eq g_1.symm)
    have f_2 : Fld Z h_1 b_1 "java/lang/Long" "value" "J" (.long (0 : Int64)) := D_1 (Or.inr (wdOf hw 82 rfl)) (ty := .long) (by decide)
    have K_3 : Keep h0 h_1 [] := K0.ext E_1
    have y_3 : n0 ≤ h_1.size := Nat.le_trans Z0 K_3.1
    refine Goes.go (U' := (T_1.setTop (mkF m 34 #[.val (.long iv), .second, .val (.int (128 : Int32))] [(.ref b_1)]))) st_1 ?_
    refine Goes.go (U' := (T_1.setTop (mkF m 36 #[.val (.long iv), .second, .val (.int (128 : Int32))] [(.long iv), (.ref b_1), (.ref b_1)]))) (fun t kt => ?_) ?_
    · show Steps p.tables e below (T_1.setTop (mkF m 34 #[.val (.long iv), .second, .val (.int (128 : Int32))] [(.ref b_1)])) t
      refine XS.dup X_1.here hx rfl (hb hby d_rm_vo_34) rfl rfl ?_
      show Steps p.tables e below (T_1.setTop (mkF m 35 #[.val (.long iv), .second, .val (.int (128 : Int32))] [(.ref b_1), (.ref b_1)])) t
      refine XS.lloadN X_1.here hx rfl (hb hby d_rm_vo_35) rfl ?_
      exact kt
    obtain ⟨v_4, T_4, L_4, X_4, q_4, st_4⟩ := callInit X_1 hx hZ (y := (⟨"java/lang/Long", "<init>", "(J)V"⟩ : MethodName)) (W := 1) rfl hown (wdOf hw 97 rfl) (wdOf hw 98 rfl) (wdOf hw 26 rfl) (wdOf hw 100 rfl) (by decide) (rm_vo_init l Z a0 hw [] b_1 iv h_1 n0 y_3 o_1 A_1 f_2) (by decide) (by decide) (by decide) (by decide) e_1 (b := b_1) (g := (mkF m 36 #[.val (.long iv), .second, .val (.int (128 : Int32))] [(.long iv), (.ref b_1), (.ref b_1)])) rfl (by rw [hml]; rfl) (argsL := [(.long iv)]) (rest := [(.ref b_1)]) (lenOf pd_1 rfl) rfl rfl (Nat.le_refl _) (hb hby d_rm_vo_36)
    obtain ⟨rfl, n_4, K_4, E_4, F_4⟩ := q_4
    have N_4 := Fr.app N0 n_4
    have f_5 : Exa Z T_4.heap b_1 "java/lang/Long" := A_1.keep K_4
    have K_7 : Keep h0 T_4.heap [] := K_3.trans K_4 (allS (P := fun x => x ∈ [] ∨ h0.size ≤ x) (Or.inr z_1) all0)
    have y_7 : n0 ≤ T_4.heap.size := Nat.le_trans Z0 K_7.1
    refine Goes.go (U' := (T_4.setTop (mkF m 39 #[.val (.long iv), .second, .val (.int (128 : Int32))] [(.ref b_1)]))) st_4 ?_
    refine Goes.retA X_4 hx hlk hret rfl rfl (hb hby d_rm_vo_39) (by decide) (by decide) ?_
    try rw [(rfl : T_4.heap = T_4.heap)]
    exact ⟨_, rfl, N_4, Ext.of_keep K_7, f_5, F_4⟩
  · -- not iv < (-128 : Int64)
    refine Goes.go (U' := (s₁.setTop (mkF m 17 #[.val (.long iv), .second, .val (.int (128 : Int32))] [(.int (XT.cmpL iv (127 : Int64)))]))) (fun t kt => ?_) ?_
    · show Steps p.tables e below (s₁.setTop (mkF m 9 #[.val (.long iv), .second, .val (.int (128 : Int32))] [(.int (XT.cmpL iv (-128 : Int64)))])) t
      refine XS.ifNo X0.here hx rfl (hb hby d_rm_vo_9) rfl (XT.ll_lt_f ci) ?_
      show Steps p.tables e below (s₁.setTop (mkF m 12 #[.val (.long iv), .second, .val (.int (128 : Int32))] [])) t
      refine XS.lloadN X0.here hx rfl (hb hby d_rm_vo_12) rfl ?_
      show Steps p.tables e below (s₁.setTop (mkF m 13 #[.val (.long iv), .second, .val (.int (128 : Int32))] [(.long iv)])) t
      refine Jvm.Stand.ldc2J X0 hx hown (mvT hZ (wdOf hw 29 rfl)) rfl (hb hby d_rm_vo_13) ?_
      show Steps p.tables e below (s₁.setTop (mkF m 16 #[.val (.long iv), .second, .val (.int (128 : Int32))] [(.long (127 : Int64)), (.long iv)])) t
      refine XT.lcmp X0.here hx rfl (hb hby d_rm_vo_16) rfl ?_
      exact kt
    by_cases cj : (127 : Int64) < iv
    · -- (127 : Int64) < iv
      refine Goes.go (U' := (s₁.setTop (mkF m 31 #[.val (.long iv), .second, .val (.int (128 : Int32))] []))) (fun t kt => ?_) ?_
      · show Steps p.tables e below (s₁.setTop (mkF m 17 #[.val (.long iv), .second, .val (.int (128 : Int32))] [(.int (XT.cmpL iv (127 : Int64)))])) t
        refine XS.ifYes X0.here hx rfl (pc0 := 17) (pc' := 31) rfl (hb hby d_rm_vo_17) rfl (XT.ll_gt_t cj) (by decide) (by decide) ?_
        exact kt
      obtain ⟨T_8, h_8, X_8, e_8, E_8, A_8, D_8, -, st_8⟩ := newO X0 hx hZ hown (wdOf hw 95 rfl) (wdOf hw 96 rfl) (wdOf hw 26 rfl) e0 (g := (mkF m 31 #[.val (.long iv), .second, .val (.int (128 : Int32))] [])) rfl (hb hby d_rm_vo_31) (by decide) (by decide)
      obtain ⟨b_8, g_8⟩ : ∃ z, z = h0.size := ⟨_, rfl⟩
      rw [← g_8] at A_8 D_8 st_8
      have o_8 : n0 ≤ b_8 := Nat.le_trans Z0 (Nat.le_of_eq g_8.symm)
      have z_8 : h0.size ≤ b_8 := Nat.le_trans K0.1 (Nat.le_of_eq g_8.symm)
      have f_9 : Fld Z h_8 b_8 "java/lang/Long" "value" "J" (.long (0 : Int64)) := D_8 (Or.inr (wdOf hw 82 rfl)) (ty := .long) (by decide)
      have K_10 : Keep h0 h_8 [] := K0.ext E_8
      have y_10 : n0 ≤ h_8.size := Nat.le_trans Z0 K_10.1
      refine Goes.go (U' := (T_8.setTop (mkF m 34 #[.val (.long iv), .second, .val (.int (128 : Int32))] [(.ref b_8)]))) st_8 ?_
      refine Goes.go (U' := (T_8.setTop (mkF m 36 #[.val (.long iv), .second, .val (.int (128 : Int32))] [(.long iv), (.ref b_8), (.ref b_8)]))) (fun t kt => ?_) ?_
      · show Steps p.tables e below (T_8.setTop (mkF m 34 #[.val (.long iv), .second, .val (.int (128 : Int32))] [(.ref b_8)])) t
        refine XS.dup X_8.here hx rfl (hb hby d_rm_vo_34) rfl rfl ?_
        show Steps p.tables e below (T_8.setTop (mkF m 35 #[.val (.long iv), .second, .val (.int (128 : Int32))] [(.ref b_8), (.ref b_8)])) t
        refine XS.lloadN X_8.here hx rfl (hb hby d_rm_vo_35) rfl ?_
        exact kt
      obtain ⟨v_11, T_11, L_11, X_11, q_11, st_11⟩ := callInit X_8 hx hZ (y := (⟨"java/lang/Long", "<init>", "(J)V"⟩ : MethodName)) (W := 1) rfl hown (wdOf hw 97 rfl) (wdOf hw 98 rfl) (wdOf hw 26 rfl) (wdOf hw 100 rfl) (by decide) (rm_vo_init l Z a0 hw [] b_8 iv h_8 n0 y_10 o_8 A_8 f_9) (by decide) (by decide) (by decide) (by decide) e_8 (b := b_8) (g := (mkF m 36 #[.val (.long iv), .second, .val (.int (128 : Int32))] [(.long iv), (.ref b_8), (.ref b_8)])) rfl (by rw [hml]; rfl) (argsL := [(.long iv)]) (rest := [(.ref b_8)]) (lenOf pd_1 rfl) rfl rfl (Nat.le_refl _) (hb hby d_rm_vo_36)
      obtain ⟨rfl, n_11, K_11, E_11, F_11⟩ := q_11
      have N_11 := Fr.app N0 n_11
      have f_12 : Exa Z T_11.heap b_8 "java/lang/Long" := A_8.keep K_11
      have K_14 : Keep h0 T_11.heap [] := K_10.trans K_11 (allS (P := fun x => x ∈ [] ∨ h0.size ≤ x) (Or.inr z_8) all0)
      have y_14 : n0 ≤ T_11.heap.size := Nat.le_trans Z0 K_14.1
      refine Goes.go (U' := (T_11.setTop (mkF m 39 #[.val (.long iv), .second, .val (.int (128 : Int32))] [(.ref b_8)]))) st_11 ?_
      refine Goes.retA X_11 hx hlk hret rfl rfl (hb hby d_rm_vo_39) (by decide) (by decide) ?_
      try rw [(rfl : T_11.heap = T_11.heap)]
      exact ⟨_, rfl, N_11, Ext.of_keep K_14, f_12, F_11⟩
    · -- not (127 : Int64) < iv
      refine Goes.go (U' := (s₁.setTop (mkF m 20 #[.val (.long iv), .second, .val (.int (128 : Int32))] []))) (fun t kt => ?_) ?_
      · show Steps p.tables e below (s₁.setTop (mkF m 17 #[.val (.long iv), .second, .val (.int (128 : Int32))] [(.int (XT.cmpL iv (127 : Int64)))])) t
        refine XS.ifNo X0.here hx rfl (hb hby d_rm_vo_17) rfl (XT.ll_gt_f cj) ?_
        exact kt
      obtain ⟨ca, cl, Sc, Ac, hsz, hel⟩ := BC
      have A1 := Ac.ext O.2
      obtain ⟨hj0, hj1, hj2⟩ := own_ixL ci cj
      obtain ⟨rr, hat, Er, Fr1⟩ := hel _ hj1
      replace Fr1 := Eq.subst (motive := fun q => Fld Z Z.heap rr "java/lang/Long" "value" "J" q) hj2 Fr1
      obtain ⟨T_15, X_15, e_15, st_15⟩ := getS X0 hx hZ hown (host := "") (wdOf hw 30 rfl) Via.refl e0 (Sc.ext O.2) (g := (mkF m 20 #[.val (.long iv), .second, .val (.int (128 : Int32))] [])) rfl (hb hby d_rm_vo_20)
      refine Goes.go (U' := (T_15.setTop (mkF m 23 #[.val (.long iv), .second, .val (.int (128 : Int32))] [(.ref ca)]))) st_15 ?_
      refine Goes.go (U' := (T_15.setTop (mkF m 30 #[.val (.long iv), .second, .val (.int (128 : Int32))] [(.ref rr)]))) (fun t kt => ?_) ?_
      · show Steps p.tables e below (T_15.setTop (mkF m 23 #[.val (.long iv), .second, .val (.int (128 : Int32))] [(.ref ca)])) t
        refine XS.lloadN X_15.here hx rfl (hb hby d_rm_vo_23) rfl ?_
        show Steps p.tables e below (T_15.setTop (mkF m 24 #[.val (.long iv), .second, .val (.int (128 : Int32))] [(.long iv), (.ref ca)])) t
        refine XS.l2i X_15.here hx rfl (hb hby d_rm_vo_24) rfl ?_
        show Steps p.tables e below (T_15.setTop (mkF m 25 #[.val (.long iv), .second, .val (.int (128 : Int32))] [(.int (iv.toInt32)), (.ref ca)])) t
        refine XS.sipush X_15.here hx rfl (hb hby d_rm_vo_25) ?_
        show Steps p.tables e below (T_15.setTop (mkF m 28 #[.val (.long iv), .second, .val (.int (128 : Int32))] [(.int (128 : Int32)), (.int (iv.toInt32)), (.ref ca)])) t
        refine XS.iadd X_15.here hx rfl (hb hby d_rm_vo_28) rfl ?_
        show Steps p.tables e below (T_15.setTop (mkF m 29 #[.val (.long iv), .second, .val (.int (128 : Int32))] [(.int ((iv.toInt32) + (128 : Int32))), (.ref ca)])) t
        refine X_15.aaload hx (j := ((iv.toInt32) + (128 : Int32))) (v := (.ref rr)) (by rw [e_15]; exact A1.1) (State.isArrayOf_alike hZ.alike A1.2.1) rfl A1.2.2 (fun q => q.elim hj0 (fun q => absurd hj1 (Nat.not_lt.mpr (hsz ▸ q)))) hat (g := (mkF m 29 #[.val (.long iv), .second, .val (.int (128 : Int32))] [(.int ((iv.toInt32) + (128 : Int32))), (.ref ca)])) rfl rfl (hb hby d_rm_vo_29) _ ?_
        exact kt
      refine Goes.retA X_15 hx hlk hret rfl rfl (hb hby d_rm_vo_30) (by decide) (by decide) ?_
      try rw [e_15]
      exact ⟨_, rfl, N0, ⟨Nat.le_refl _, fun _ _ q => q⟩, Er.ext O.2, Fr1.ext O.2⟩
theorem d_rm_rec_0 : decode jdk_30_method_1_code 0 = .ok (.aload_n 0, 1) := by decide +kernel
theorem d_rm_rec_1 : decode jdk_30_method_1_code 1 = .ok (.invokespecial 1, 3) := by decide +kernel
theorem d_rm_rec_4 : decode jdk_30_method_1_code 4 = .ok (.return_, 1) := by decide +kernel
set_option maxHeartbeats 4000000 in
theorem ef_rm_rec (m : MethodId) (x0 : Addr)  : entryFrame m #[(.ref x0)] 1 = mkF m 0 #[.val (.ref x0)] [] := by first | (simp [entryFrame, mkF, argsToLocals, catR, catN, catI, catJ]; done) | rfl
set_option maxRecDepth 65536 in
set_option maxHeartbeats 40000000 in
theorem rm_rec (l : Launch) (Z : State) (a0 : Array Value) (hw : ∀ d ∈ tables_1, d.before a0 Z = true) (ws : List Jvm.Cond) (ax : Addr) (h0 : Heap) (n0 : Nat) (Z0 : n0 ≤ h0.size)  :
    Pays l Z (⟨"java/lang/Record", "<init>", "()V"⟩ : MethodName) jdk_30_method_1_code 1 none ws ({ frames := 1, cells := 0, slots := 0, locals := 12 } : Room) #[(.ref ax)] h0 (fun v h L => v = none ∧ Fr n0 L ∧ h = h0) := by
  refine Pays.of (plainFor_of_name (by first | (simp [plainName, overriddenIn]; done) | decide +kernel)) ?_
  intro p e s m below meth c s₁ hx hby hml hown hnm hret hlk hZ e0 X0
  have N0 := Fr.nil n0
  have K0 : Keep h0 h0 [] := Keep.refl _ _
  refine Goes.go (U' := (s₁.setTop (mkF m 0 #[.val (.ref ax)] []))) (fun t kt => castTop (ef_rm_rec m ax) kt) ?_
  refine Goes.go (U' := (s₁.setTop (mkF m 1 #[.val (.ref ax)] [(.ref ax)]))) (fun t kt => ?_) ?_
  · show Steps p.tables e below (s₁.setTop (mkF m 0 #[.val (.ref ax)] [])) t
    refine XS.aloadN X0.here hx rfl (hb hby d_rm_rec_0) rfl rfl ?_
    exact kt
  obtain ⟨T_1, X_1, e_1, st_1⟩ := initO X0 hx hZ hown (wdOf hw 40 rfl) (wdOf hw 7 rfl) (wdOf hw 8 rfl) e0 (g := (mkF m 1 #[.val (.ref ax)] [(.ref ax)])) rfl (by rw [hml]; rfl) rfl (hb hby d_rm_rec_1) (by decide) (W := 0) (Nat.le_refl _) (by decide)
  refine Goes.go (U' := (T_1.setTop (mkF m 4 #[.val (.ref ax)] []))) st_1 ?_
  refine Goes.retV X_1 hx hlk hret (hb hby d_rm_rec_4) (by decide) (by decide) ?_
  try rw [e_1]
  exact ⟨rfl, N0, rfl⟩
theorem d_rm_ca_0 : decode prog_11_method_1_code 0 = .ok (.aload_n 0, 1) := by decide +kernel
theorem d_rm_ca_1 : decode prog_11_method_1_code 1 = .ok (.invokespecial 1, 3) := by decide +kernel
theorem d_rm_ca_4 : decode prog_11_method_1_code 4 = .ok (.return_, 1) := by decide +kernel
set_option maxHeartbeats 4000000 in
theorem ef_rm_ca (m : MethodId) (x0 : Addr)  : entryFrame m #[(.ref x0)] 1 = mkF m 0 #[.val (.ref x0)] [] := by first | (simp [entryFrame, mkF, argsToLocals, catR, catN, catI, catJ]; done) | rfl
set_option maxRecDepth 65536 in
set_option maxHeartbeats 40000000 in
theorem rm_ca (l : Launch) (Z : State) (a0 : Array Value) (hw : ∀ d ∈ tables_1, d.before a0 Z = true) (ws : List Jvm.Cond) (ax : Addr) (h0 : Heap) (n0 : Nat) (Z0 : n0 ≤ h0.size)  :
    Pays l Z (⟨"com/example/dead_letter_replay/deadletterreplay/queue/Carries", "<init>", "()V"⟩ : MethodName) prog_11_method_1_code 1 none ws ({ frames := 1, cells := 0, slots := 0, locals := 12 } : Room) #[(.ref ax)] h0 (fun v h L => v = none ∧ Fr n0 L ∧ h = h0) := by
  refine Pays.of (plainFor_of_name (by first | (simp [plainName, overriddenIn]; done) | decide +kernel)) ?_
  intro p e s m below meth c s₁ hx hby hml hown hnm hret hlk hZ e0 X0
  have N0 := Fr.nil n0
  have K0 : Keep h0 h0 [] := Keep.refl _ _
  refine Goes.go (U' := (s₁.setTop (mkF m 0 #[.val (.ref ax)] []))) (fun t kt => castTop (ef_rm_ca m ax) kt) ?_
  refine Goes.go (U' := (s₁.setTop (mkF m 1 #[.val (.ref ax)] [(.ref ax)]))) (fun t kt => ?_) ?_
  · show Steps p.tables e below (s₁.setTop (mkF m 0 #[.val (.ref ax)] [])) t
    refine XS.aloadN X0.here hx rfl (hb hby d_rm_ca_0) rfl rfl ?_
    exact kt
  obtain ⟨T_1, X_1, e_1, st_1⟩ := initO X0 hx hZ hown (wdOf hw 6 rfl) (wdOf hw 7 rfl) (wdOf hw 8 rfl) e0 (g := (mkF m 1 #[.val (.ref ax)] [(.ref ax)])) rfl (by rw [hml]; rfl) rfl (hb hby d_rm_ca_1) (by decide) (W := 0) (Nat.le_refl _) (by decide)
  refine Goes.go (U' := (T_1.setTop (mkF m 4 #[.val (.ref ax)] []))) st_1 ?_
  refine Goes.retV X_1 hx hlk hret (hb hby d_rm_ca_4) (by decide) (by decide) ?_
  try rw [e_1]
  exact ⟨rfl, N0, rfl⟩
theorem d_rm_cd_0 : decode prog_12_method_1_code 0 = .ok (.aload_n 0, 1) := by decide +kernel
theorem d_rm_cd_1 : decode prog_12_method_1_code 1 = .ok (.invokespecial 1, 3) := by decide +kernel
theorem d_rm_cd_4 : decode prog_12_method_1_code 4 = .ok (.aload_n 0, 1) := by decide +kernel
theorem d_rm_cd_5 : decode prog_12_method_1_code 5 = .ok (.aload_n 1, 1) := by decide +kernel
theorem d_rm_cd_6 : decode prog_12_method_1_code 6 = .ok (.putfield 7, 3) := by decide +kernel
theorem d_rm_cd_9 : decode prog_12_method_1_code 9 = .ok (.aload_n 0, 1) := by decide +kernel
theorem d_rm_cd_10 : decode prog_12_method_1_code 10 = .ok (.lload_n 2, 1) := by decide +kernel
theorem d_rm_cd_11 : decode prog_12_method_1_code 11 = .ok (.putfield 13, 3) := by decide +kernel
theorem d_rm_cd_14 : decode prog_12_method_1_code 14 = .ok (.aload_n 0, 1) := by decide +kernel
theorem d_rm_cd_15 : decode prog_12_method_1_code 15 = .ok (.lload 4, 2) := by decide +kernel
theorem d_rm_cd_17 : decode prog_12_method_1_code 17 = .ok (.putfield 17, 3) := by decide +kernel
theorem d_rm_cd_20 : decode prog_12_method_1_code 20 = .ok (.aload_n 0, 1) := by decide +kernel
theorem d_rm_cd_21 : decode prog_12_method_1_code 21 = .ok (.iload 6, 2) := by decide +kernel
theorem d_rm_cd_23 : decode prog_12_method_1_code 23 = .ok (.putfield 20, 3) := by decide +kernel
theorem d_rm_cd_26 : decode prog_12_method_1_code 26 = .ok (.return_, 1) := by decide +kernel
set_option maxHeartbeats 4000000 in
theorem ef_rm_cd (m : MethodId) (x0 : Addr) (x1 : Value) (x2 : Int64) (x3 : Int64) (x4 : Int32) (rx1 : x1.isRef = true) : entryFrame m #[(.ref x0), x1, (.long x2), (.long x3), (.int x4)] 7 = mkF m 0 #[.val (.ref x0), .val x1, .val (.long x2), .second, .val (.long x3), .second, .val (.int x4)] [] := by simp [entryFrame, mkF, argsToLocals, catR, catN, catI, catJ, XT.cat1 rx1]
set_option maxRecDepth 65536 in
set_option maxHeartbeats 40000000 in
theorem rm_cd (l : Launch) (Z : State) (a0 : Array Value) (hw : ∀ d ∈ tables_1, d.before a0 Z = true) (ws : List Jvm.Cond) (ax : Addr) (xf : Value) (rxf : xf.isRef = true) (xe xt : Int64) (xb : Int32) (h0 : Heap) (n0 : Nat) (Z0 : n0 ≤ h0.size) (o0 : n0 ≤ ax) (E0 : Exa Z h0 ax "com/example/dead_letter_replay/deadletterreplay/queue/Carries$Carried") (F0_from : Fld Z h0 ax "com/example/dead_letter_replay/deadletterreplay/queue/Carries$Carried" "from" "Ljava/lang/Long;" .null) (F0_era : Fld Z h0 ax "com/example/dead_letter_replay/deadletterreplay/queue/Carries$Carried" "era" "J" (.long (0 : Int64))) (F0_transaction : Fld Z h0 ax "com/example/dead_letter_replay/deadletterreplay/queue/Carries$Carried" "transaction" "J" (.long (0 : Int64))) (F0_backend : Fld Z h0 ax "com/example/dead_letter_replay/deadletterreplay/queue/Carries$Carried" "backend" "I" (.int (0 : Int32))) :
    Pays l Z (⟨"com/example/dead_letter_replay/deadletterreplay/queue/Carries$Carried", "<init>", "(Ljava/lang/Long;JJI)V"⟩ : MethodName) prog_12_method_1_code 7 none ws ({ frames := 2, cells := 0, slots := 0, locals := 24 } : Room) #[(.ref ax), xf, (.long xe), (.long xt), (.int xb)] h0 (fun v h L => v = none ∧ Fr n0 L ∧ Keep h0 h [ax] ∧ Exa Z h ax "com/example/dead_letter_replay/deadletterreplay/queue/Carries$Carried" ∧ Fld Z h ax "com/example/dead_letter_replay/deadletterreplay/queue/Carries$Carried" "from" "Ljava/lang/Long;" xf ∧ Fld Z h ax "com/example/dead_letter_replay/deadletterreplay/queue/Carries$Carried" "era" "J" (.long xe) ∧ Fld Z h ax "com/example/dead_letter_replay/deadletterreplay/queue/Carries$Carried" "transaction" "J" (.long xt) ∧ Fld Z h ax "com/example/dead_letter_replay/deadletterreplay/queue/Carries$Carried" "backend" "I" (.int xb)) := by
  refine Pays.of (plainFor_of_name (by first | (simp [plainName, overriddenIn]; done) | decide +kernel)) ?_
  intro p e s m below meth c s₁ hx hby hml hown hnm hret hlk hZ e0 X0
  have N0 := Fr.nil n0
  have K0 : Keep h0 h0 [ax] := Keep.refl _ _
  refine Goes.go (U' := (s₁.setTop (mkF m 0 #[.val (.ref ax), .val xf, .val (.long xe), .second, .val (.long xt), .second, .val (.int xb)] []))) (fun t kt => castTop (ef_rm_cd m ax xf xe xt xb rxf) kt) ?_
  refine Goes.go (U' := (s₁.setTop (mkF m 1 #[.val (.ref ax), .val xf, .val (.long xe), .second, .val (.long xt), .second, .val (.int xb)] [(.ref ax)]))) (fun t kt => ?_) ?_
  · show Steps p.tables e below (s₁.setTop (mkF m 0 #[.val (.ref ax), .val xf, .val (.long xe), .second, .val (.long xt), .second, .val (.int xb)] [])) t
    refine XS.aloadN X0.here hx rfl (hb hby d_rm_cd_0) rfl rfl ?_
    exact kt
  obtain ⟨v_1, T_1, L_1, X_1, q_1, st_1⟩ := callInit X0 hx hZ (y := (⟨"java/lang/Record", "<init>", "()V"⟩ : MethodName)) (W := 0) rfl hown (wdOf hw 35 rfl) (wdOf hw 36 rfl) (wdOf hw 38 rfl) (wdOf hw 39 rfl) (by decide) (rm_rec l Z a0 hw [] ax h0 n0 Z0) (by decide) (by decide) (by decide) (by decide) e0 (b := ax) (g := (mkF m 1 #[.val (.ref ax), .val xf, .val (.long xe), .second, .val (.long xt), .second, .val (.int xb)] [(.ref ax)])) rfl (by rw [hml]; rfl) (argsL := []) (rest := []) (lenOf pd_0 rfl) rfl rfl (Nat.le_refl _) (hb hby d_rm_cd_1)
  obtain ⟨rfl, n_1, K_1⟩ := q_1
  have N_1 := Fr.app N0 n_1
  refine Goes.go (U' := (T_1.setTop (mkF m 4 #[.val (.ref ax), .val xf, .val (.long xe), .second, .val (.long xt), .second, .val (.int xb)] []))) st_1 ?_
  refine Goes.go (U' := (T_1.setTop (mkF m 6 #[.val (.ref ax), .val xf, .val (.long xe), .second, .val (.long xt), .second, .val (.int xb)] [xf, (.ref ax)]))) (fun t kt => ?_) ?_
  · show Steps p.tables e below (T_1.setTop (mkF m 4 #[.val (.ref ax), .val xf, .val (.long xe), .second, .val (.long xt), .second, .val (.int xb)] [])) t
    refine XS.aloadN X_1.here hx rfl (hb hby d_rm_cd_4) rfl rfl ?_
    show Steps p.tables e below (T_1.setTop (mkF m 5 #[.val (.ref ax), .val xf, .val (.long xe), .second, .val (.long xt), .second, .val (.int xb)] [(.ref ax)])) t
    refine XS.aloadN X_1.here hx rfl (hb hby d_rm_cd_5) rfl rxf ?_
    exact kt
  obtain ⟨T_2, h_2, X_2, e_2, W_2, st_2⟩ := putF X_1 hx hZ hown (host := "") (Or.inl (wdOf hw 41 rfl)) Via.refl K_1 F0_from E0 (Or.inr ⟨wdOf hw 42 rfl, rfl, hnm⟩) (wdOf hw 22 rfl) (ty := (.object "java/lang/Long")) (by decide) (ownNarrow rxf rfl) (ownFits rxf rfl) (g := (mkF m 6 #[.val (.ref ax), .val xf, .val (.long xe), .second, .val (.long xt), .second, .val (.int xb)] [xf, (.ref ax)])) rfl rfl (hb hby d_rm_cd_6)
  have N_2 := Fr.snoc X_2 N_1 o0
  have f_3 : Exa Z h_2 ax "com/example/dead_letter_replay/deadletterreplay/queue/Carries$Carried" := E0.wr W_2
  have f_4 : Fld Z h_2 ax "com/example/dead_letter_replay/deadletterreplay/queue/Carries$Carried" "from" "Ljava/lang/Long;" xf := F0_from.same W_2
  have f_5 : Fld Z h_2 ax "com/example/dead_letter_replay/deadletterreplay/queue/Carries$Carried" "era" "J" (.long (0 : Int64)) := F0_era.other W_2 (Or.inr (slot_ne (Or.inr (wdOf hw 44 rfl)) (Or.inr (wdOf hw 42 rfl)) (by decide) (t := .long) (t' := (.object "java/lang/Long")) (by decide) (by decide)))
  have f_6 : Fld Z h_2 ax "com/example/dead_letter_replay/deadletterreplay/queue/Carries$Carried" "transaction" "J" (.long (0 : Int64)) := F0_transaction.other W_2 (Or.inr (slot_ne (Or.inr (wdOf hw 46 rfl)) (Or.inr (wdOf hw 42 rfl)) (by decide) (t := .long) (t' := (.object "java/lang/Long")) (by decide) (by decide)))
  have f_7 : Fld Z h_2 ax "com/example/dead_letter_replay/deadletterreplay/queue/Carries$Carried" "backend" "I" (.int (0 : Int32)) := F0_backend.other W_2 (Or.inr (slot_ne (Or.inr (wdOf hw 48 rfl)) (Or.inr (wdOf hw 42 rfl)) (by decide) (t := .int) (t' := (.object "java/lang/Long")) (by decide) (by decide)))
  have K_8 : Keep h0 h_2 [ax] := K0.wr W_2 (Or.inl (List.mem_of_getElem? (i := 0) rfl))
  have y_8 : n0 ≤ h_2.size := Nat.le_trans Z0 K_8.1
  refine Goes.go (U' := (T_2.setTop (mkF m 9 #[.val (.ref ax), .val xf, .val (.long xe), .second, .val (.long xt), .second, .val (.int xb)] []))) st_2 ?_
  refine Goes.go (U' := (T_2.setTop (mkF m 11 #[.val (.ref ax), .val xf, .val (.long xe), .second, .val (.long xt), .second, .val (.int xb)] [(.long xe), (.ref ax)]))) (fun t kt => ?_) ?_
  · show Steps p.tables e below (T_2.setTop (mkF m 9 #[.val (.ref ax), .val xf, .val (.long xe), .second, .val (.long xt), .second, .val (.int xb)] [])) t
    refine XS.aloadN X_2.here hx rfl (hb hby d_rm_cd_9) rfl rfl ?_
    show Steps p.tables e below (T_2.setTop (mkF m 10 #[.val (.ref ax), .val xf, .val (.long xe), .second, .val (.long xt), .second, .val (.int xb)] [(.ref ax)])) t
    refine XS.lloadN X_2.here hx rfl (hb hby d_rm_cd_10) rfl ?_
    exact kt
  obtain ⟨T_9, h_9, X_9, e_9, W_9, st_9⟩ := putF X_2 hx hZ hown (host := "") (Or.inl (wdOf hw 43 rfl)) Via.refl e_2 f_5 f_3 (Or.inr ⟨wdOf hw 44 rfl, rfl, hnm⟩) (wdOf hw 22 rfl) (ty := .long) (by decide) rfl rfl (g := (mkF m 11 #[.val (.ref ax), .val xf, .val (.long xe), .second, .val (.long xt), .second, .val (.int xb)] [(.long xe), (.ref ax)])) rfl rfl (hb hby d_rm_cd_11)
  have N_9 := Fr.snoc X_9 N_2 o0
  have f_10 : Exa Z h_9 ax "com/example/dead_letter_replay/deadletterreplay/queue/Carries$Carried" := f_3.wr W_9
  have f_11 : Fld Z h_9 ax "com/example/dead_letter_replay/deadletterreplay/queue/Carries$Carried" "from" "Ljava/lang/Long;" xf := f_4.other W_9 (Or.inr (slot_ne (Or.inr (wdOf hw 42 rfl)) (Or.inr (wdOf hw 44 rfl)) (by decide) (t := (.object "java/lang/Long")) (t' := .long) (by decide) (by decide)))
  have f_12 : Fld Z h_9 ax "com/example/dead_letter_replay/deadletterreplay/queue/Carries$Carried" "era" "J" (.long xe) := f_5.same W_9
  have f_13 : Fld Z h_9 ax "com/example/dead_letter_replay/deadletterreplay/queue/Carries$Carried" "transaction" "J" (.long (0 : Int64)) := f_6.other W_9 (Or.inr (slot_ne (Or.inr (wdOf hw 46 rfl)) (Or.inr (wdOf hw 44 rfl)) (by decide) (t := .long) (t' := .long) (by decide) (by decide)))
  have f_14 : Fld Z h_9 ax "com/example/dead_letter_replay/deadletterreplay/queue/Carries$Carried" "backend" "I" (.int (0 : Int32)) := f_7.other W_9 (Or.inr (slot_ne (Or.inr (wdOf hw 48 rfl)) (Or.inr (wdOf hw 44 rfl)) (by decide) (t := .int) (t' := .long) (by decide) (by decide)))
  have K_15 : Keep h0 h_9 [ax] := K_8.wr W_9 (Or.inl (List.mem_of_getElem? (i := 0) rfl))
  have y_15 : n0 ≤ h_9.size := Nat.le_trans Z0 K_15.1
  refine Goes.go (U' := (T_9.setTop (mkF m 14 #[.val (.ref ax), .val xf, .val (.long xe), .second, .val (.long xt), .second, .val (.int xb)] []))) st_9 ?_
  refine Goes.go (U' := (T_9.setTop (mkF m 17 #[.val (.ref ax), .val xf, .val (.long xe), .second, .val (.long xt), .second, .val (.int xb)] [(.long xt), (.ref ax)]))) (fun t kt => ?_) ?_
  · show Steps p.tables e below (T_9.setTop (mkF m 14 #[.val (.ref ax), .val xf, .val (.long xe), .second, .val (.long xt), .second, .val (.int xb)] [])) t
    refine XS.aloadN X_9.here hx rfl (hb hby d_rm_cd_14) rfl rfl ?_
    show Steps p.tables e below (T_9.setTop (mkF m 15 #[.val (.ref ax), .val xf, .val (.long xe), .second, .val (.long xt), .second, .val (.int xb)] [(.ref ax)])) t
    refine XS.lload X_9.here hx rfl (hb hby d_rm_cd_15) rfl ?_
    exact kt
  obtain ⟨T_16, h_16, X_16, e_16, W_16, st_16⟩ := putF X_9 hx hZ hown (host := "") (Or.inl (wdOf hw 45 rfl)) Via.refl e_9 f_13 f_10 (Or.inr ⟨wdOf hw 46 rfl, rfl, hnm⟩) (wdOf hw 22 rfl) (ty := .long) (by decide) rfl rfl (g := (mkF m 17 #[.val (.ref ax), .val xf, .val (.long xe), .second, .val (.long xt), .second, .val (.int xb)] [(.long xt), (.ref ax)])) rfl rfl (hb hby d_rm_cd_17)
  have N_16 := Fr.snoc X_16 N_9 o0
  have f_17 : Exa Z h_16 ax "com/example/dead_letter_replay/deadletterreplay/queue/Carries$Carried" := f_10.wr W_16
  have f_18 : Fld Z h_16 ax "com/example/dead_letter_replay/deadletterreplay/queue/Carries$Carried" "from" "Ljava/lang/Long;" xf := f_11.other W_16 (Or.inr (slot_ne (Or.inr (wdOf hw 42 rfl)) (Or.inr (wdOf hw 46 rfl)) (by decide) (t := (.object "java/lang/Long")) (t' := .long) (by decide) (by decide)))
  have f_19 : Fld Z h_16 ax "com/example/dead_letter_replay/deadletterreplay/queue/Carries$Carried" "era" "J" (.long xe) := f_12.other W_16 (Or.inr (slot_ne (Or.inr (wdOf hw 44 rfl)) (Or.inr (wdOf hw 46 rfl)) (by decide) (t := .long) (t' := .long) (by decide) (by decide)))
  have f_20 : Fld Z h_16 ax "com/example/dead_letter_replay/deadletterreplay/queue/Carries$Carried" "transaction" "J" (.long xt) := f_13.same W_16
  have f_21 : Fld Z h_16 ax "com/example/dead_letter_replay/deadletterreplay/queue/Carries$Carried" "backend" "I" (.int (0 : Int32)) := f_14.other W_16 (Or.inr (slot_ne (Or.inr (wdOf hw 48 rfl)) (Or.inr (wdOf hw 46 rfl)) (by decide) (t := .int) (t' := .long) (by decide) (by decide)))
  have K_22 : Keep h0 h_16 [ax] := K_15.wr W_16 (Or.inl (List.mem_of_getElem? (i := 0) rfl))
  have y_22 : n0 ≤ h_16.size := Nat.le_trans Z0 K_22.1
  refine Goes.go (U' := (T_16.setTop (mkF m 20 #[.val (.ref ax), .val xf, .val (.long xe), .second, .val (.long xt), .second, .val (.int xb)] []))) st_16 ?_
  refine Goes.go (U' := (T_16.setTop (mkF m 23 #[.val (.ref ax), .val xf, .val (.long xe), .second, .val (.long xt), .second, .val (.int xb)] [(.int xb), (.ref ax)]))) (fun t kt => ?_) ?_
  · show Steps p.tables e below (T_16.setTop (mkF m 20 #[.val (.ref ax), .val xf, .val (.long xe), .second, .val (.long xt), .second, .val (.int xb)] [])) t
    refine XS.aloadN X_16.here hx rfl (hb hby d_rm_cd_20) rfl rfl ?_
    show Steps p.tables e below (T_16.setTop (mkF m 21 #[.val (.ref ax), .val xf, .val (.long xe), .second, .val (.long xt), .second, .val (.int xb)] [(.ref ax)])) t
    refine XS.iload X_16.here hx rfl (hb hby d_rm_cd_21) rfl ?_
    exact kt
  obtain ⟨T_23, h_23, X_23, e_23, W_23, st_23⟩ := putF X_16 hx hZ hown (host := "") (Or.inl (wdOf hw 47 rfl)) Via.refl e_16 f_21 f_17 (Or.inr ⟨wdOf hw 48 rfl, rfl, hnm⟩) (wdOf hw 22 rfl) (ty := .int) (by decide) rfl rfl (g := (mkF m 23 #[.val (.ref ax), .val xf, .val (.long xe), .second, .val (.long xt), .second, .val (.int xb)] [(.int xb), (.ref ax)])) rfl rfl (hb hby d_rm_cd_23)
  have N_23 := Fr.snoc X_23 N_16 o0
  have f_24 : Exa Z h_23 ax "com/example/dead_letter_replay/deadletterreplay/queue/Carries$Carried" := f_17.wr W_23
  have f_25 : Fld Z h_23 ax "com/example/dead_letter_replay/deadletterreplay/queue/Carries$Carried" "from" "Ljava/lang/Long;" xf := f_18.other W_23 (Or.inr (slot_ne (Or.inr (wdOf hw 42 rfl)) (Or.inr (wdOf hw 48 rfl)) (by decide) (t := (.object "java/lang/Long")) (t' := .int) (by decide) (by decide)))
  have f_26 : Fld Z h_23 ax "com/example/dead_letter_replay/deadletterreplay/queue/Carries$Carried" "era" "J" (.long xe) := f_19.other W_23 (Or.inr (slot_ne (Or.inr (wdOf hw 44 rfl)) (Or.inr (wdOf hw 48 rfl)) (by decide) (t := .long) (t' := .int) (by decide) (by decide)))
  have f_27 : Fld Z h_23 ax "com/example/dead_letter_replay/deadletterreplay/queue/Carries$Carried" "transaction" "J" (.long xt) := f_20.other W_23 (Or.inr (slot_ne (Or.inr (wdOf hw 46 rfl)) (Or.inr (wdOf hw 48 rfl)) (by decide) (t := .long) (t' := .int) (by decide) (by decide)))
  have f_28 : Fld Z h_23 ax "com/example/dead_letter_replay/deadletterreplay/queue/Carries$Carried" "backend" "I" (.int xb) := f_21.same W_23
  have K_29 : Keep h0 h_23 [ax] := K_22.wr W_23 (Or.inl (List.mem_of_getElem? (i := 0) rfl))
  have y_29 : n0 ≤ h_23.size := Nat.le_trans Z0 K_29.1
  refine Goes.go (U' := (T_23.setTop (mkF m 26 #[.val (.ref ax), .val xf, .val (.long xe), .second, .val (.long xt), .second, .val (.int xb)] []))) st_23 ?_
  refine Goes.retV X_23 hx hlk hret (hb hby d_rm_cd_26) (by decide) (by decide) ?_
  try rw [e_23]
  exact ⟨rfl, N_23, K_29, f_24, f_25, f_26, f_27, f_28⟩
theorem d_rm_min_0 : decode jdk_29_method_70_code 0 = .ok (.lload_n 0, 1) := by decide +kernel
theorem d_rm_min_1 : decode jdk_29_method_70_code 1 = .ok (.lload_n 2, 1) := by decide +kernel
theorem d_rm_min_2 : decode jdk_29_method_70_code 2 = .ok (.lcmp, 1) := by decide +kernel
theorem d_rm_min_3 : decode jdk_29_method_70_code 3 = .ok (.ifCond .gt 7, 3) := by decide +kernel
theorem d_rm_min_6 : decode jdk_29_method_70_code 6 = .ok (.lload_n 0, 1) := by decide +kernel
theorem d_rm_min_7 : decode jdk_29_method_70_code 7 = .ok (.goto 4, 3) := by decide +kernel
theorem d_rm_min_10 : decode jdk_29_method_70_code 10 = .ok (.lload_n 2, 1) := by decide +kernel
theorem d_rm_min_11 : decode jdk_29_method_70_code 11 = .ok (.lreturn, 1) := by decide +kernel
set_option maxHeartbeats 4000000 in
theorem ef_rm_min (m : MethodId) (x0 : Int64) (x1 : Int64)  : entryFrame m #[(.long x0), (.long x1)] 4 = mkF m 0 #[.val (.long x0), .second, .val (.long x1), .second] [] := by first | (simp [entryFrame, mkF, argsToLocals, catR, catN, catI, catJ]; done) | rfl
set_option maxRecDepth 65536 in
set_option maxHeartbeats 40000000 in
theorem rm_min (l : Launch) (Z : State) (a0 : Array Value) (hw : ∀ d ∈ tables_1, d.before a0 Z = true) (ws : List Jvm.Cond) (xa xb : Int64) (h0 : Heap) (n0 : Nat) (Z0 : n0 ≤ h0.size)  :
    Pays l Z (⟨"java/lang/Math", "min", "(JJ)J"⟩ : MethodName) jdk_29_method_70_code 4 (some .long) ws ({ frames := 0, cells := 0, slots := 0, locals := 0 } : Room) #[(.long xa), (.long xb)] h0 (fun v h L => ∃ z, v = some (.long z) ∧ Fr n0 L ∧ h = h0 ∧ ¬ xa < z ∧ ¬ xb < z ∧ (z = xa ∨ z = xb)) := by
  refine Pays.of (by decide +kernel) ?_
  intro p e s m below meth c s₁ hx hby hml hown hnm hret hlk hZ e0 X0
  have N0 := Fr.nil n0
  have K0 : Keep h0 h0 [] := Keep.refl _ _
  refine Goes.go (U' := (s₁.setTop (mkF m 0 #[.val (.long xa), .second, .val (.long xb), .second] []))) (fun t kt => castTop (ef_rm_min m xa xb) kt) ?_
  refine Goes.go (U' := (s₁.setTop (mkF m 3 #[.val (.long xa), .second, .val (.long xb), .second] [(.int (XT.cmpL xa xb))]))) (fun t kt => ?_) ?_
  · show Steps p.tables e below (s₁.setTop (mkF m 0 #[.val (.long xa), .second, .val (.long xb), .second] [])) t
    refine XS.lloadN X0.here hx rfl (hb hby d_rm_min_0) rfl ?_
    show Steps p.tables e below (s₁.setTop (mkF m 1 #[.val (.long xa), .second, .val (.long xb), .second] [(.long xa)])) t
    refine XS.lloadN X0.here hx rfl (hb hby d_rm_min_1) rfl ?_
    show Steps p.tables e below (s₁.setTop (mkF m 2 #[.val (.long xa), .second, .val (.long xb), .second] [(.long xb), (.long xa)])) t
    refine XT.lcmp X0.here hx rfl (hb hby d_rm_min_2) rfl ?_
    exact kt
  by_cases c_1 : xb < xa
  · -- xb < xa
    refine Goes.go (U' := (s₁.setTop (mkF m 11 #[.val (.long xa), .second, .val (.long xb), .second] [(.long xb)]))) (fun t kt => ?_) ?_
    · show Steps p.tables e below (s₁.setTop (mkF m 3 #[.val (.long xa), .second, .val (.long xb), .second] [(.int (XT.cmpL xa xb))])) t
      refine XS.ifYes X0.here hx rfl (pc0 := 3) (pc' := 10) rfl (hb hby d_rm_min_3) rfl (XT.ll_gt_t c_1) (by decide) (by decide) ?_
      show Steps p.tables e below (s₁.setTop (mkF m 10 #[.val (.long xa), .second, .val (.long xb), .second] [])) t
      refine XS.lloadN X0.here hx rfl (hb hby d_rm_min_10) rfl ?_
      exact kt
    refine Goes.retJ X0 hx hlk hret (hb hby d_rm_min_11) (by decide) (by decide) ?_
    try rw [e0]
    exact ⟨_, rfl, N0, rfl, by first | (refine ⟨?_, ?_, ?_⟩ <;> first | exact Int64.lt_irrefl | assumption | exact Or.inl rfl | exact Or.inr rfl | (intro q; exact absurd (Int64.lt_trans q c_1) Int64.lt_irrefl))⟩
  · -- not xb < xa
    refine Goes.go (U' := (s₁.setTop (mkF m 11 #[.val (.long xa), .second, .val (.long xb), .second] [(.long xa)]))) (fun t kt => ?_) ?_
    · show Steps p.tables e below (s₁.setTop (mkF m 3 #[.val (.long xa), .second, .val (.long xb), .second] [(.int (XT.cmpL xa xb))])) t
      refine XS.ifNo X0.here hx rfl (hb hby d_rm_min_3) rfl (XT.ll_gt_f c_1) ?_
      show Steps p.tables e below (s₁.setTop (mkF m 6 #[.val (.long xa), .second, .val (.long xb), .second] [])) t
      refine XS.lloadN X0.here hx rfl (hb hby d_rm_min_6) rfl ?_
      show Steps p.tables e below (s₁.setTop (mkF m 7 #[.val (.long xa), .second, .val (.long xb), .second] [(.long xa)])) t
      refine XS.goto X0.here hx rfl (pc0 := 7) (pc' := 11) rfl (hb hby d_rm_min_7) (by decide) (by decide) ?_
      exact kt
    refine Goes.retJ X0 hx hlk hret (hb hby d_rm_min_11) (by decide) (by decide) ?_
    try rw [e0]
    exact ⟨_, rfl, N0, rfl, by first | (refine ⟨?_, ?_, ?_⟩ <;> first | exact Int64.lt_irrefl | assumption | exact Or.inl rfl | exact Or.inr rfl | (intro q; exact absurd (Int64.lt_trans q c_1) Int64.lt_irrefl))⟩
def own_max (a b : Int32) : Int32 := if a < b then b else a
theorem d_rm_max_0 : decode jdk_29_method_65_code 0 = .ok (.iload_n 0, 1) := by decide +kernel
theorem d_rm_max_1 : decode jdk_29_method_65_code 1 = .ok (.iload_n 1, 1) := by decide +kernel
theorem d_rm_max_2 : decode jdk_29_method_65_code 2 = .ok (.if_icmp .lt 7, 3) := by decide +kernel
theorem d_rm_max_5 : decode jdk_29_method_65_code 5 = .ok (.iload_n 0, 1) := by decide +kernel
theorem d_rm_max_6 : decode jdk_29_method_65_code 6 = .ok (.goto 4, 3) := by decide +kernel
theorem d_rm_max_9 : decode jdk_29_method_65_code 9 = .ok (.iload_n 1, 1) := by decide +kernel
theorem d_rm_max_10 : decode jdk_29_method_65_code 10 = .ok (.ireturn, 1) := by decide +kernel
set_option maxHeartbeats 4000000 in
theorem ef_rm_max (m : MethodId) (x0 : Int32) (x1 : Int32)  : entryFrame m #[(.int x0), (.int x1)] 2 = mkF m 0 #[.val (.int x0), .val (.int x1)] [] := by first | (simp [entryFrame, mkF, argsToLocals, catR, catN, catI, catJ]; done) | rfl
set_option maxRecDepth 65536 in
set_option maxHeartbeats 40000000 in
theorem rm_max (l : Launch) (Z : State) (a0 : Array Value) (hw : ∀ d ∈ tables_1, d.before a0 Z = true) (ws : List Jvm.Cond) (xa xb : Int32) (h0 : Heap) (n0 : Nat) (Z0 : n0 ≤ h0.size)  :
    Pays l Z (⟨"java/lang/Math", "max", "(II)I"⟩ : MethodName) jdk_29_method_65_code 2 (some .int) ws ({ frames := 0, cells := 0, slots := 0, locals := 0 } : Room) #[(.int xa), (.int xb)] h0 (fun v h L => v = some (.int (own_max xa xb)) ∧ Fr n0 L ∧ h = h0) := by
  refine Pays.of (by decide +kernel) ?_
  intro p e s m below meth c s₁ hx hby hml hown hnm hret hlk hZ e0 X0
  have N0 := Fr.nil n0
  have K0 : Keep h0 h0 [] := Keep.refl _ _
  refine Goes.go (U' := (s₁.setTop (mkF m 0 #[.val (.int xa), .val (.int xb)] []))) (fun t kt => castTop (ef_rm_max m xa xb) kt) ?_
  refine Goes.go (U' := (s₁.setTop (mkF m 2 #[.val (.int xa), .val (.int xb)] [(.int xb), (.int xa)]))) (fun t kt => ?_) ?_
  · show Steps p.tables e below (s₁.setTop (mkF m 0 #[.val (.int xa), .val (.int xb)] [])) t
    refine XS.iloadN X0.here hx rfl (hb hby d_rm_max_0) rfl ?_
    show Steps p.tables e below (s₁.setTop (mkF m 1 #[.val (.int xa), .val (.int xb)] [(.int xa)])) t
    refine XS.iloadN X0.here hx rfl (hb hby d_rm_max_1) rfl ?_
    exact kt
  by_cases c_1 : xa < xb
  · -- xa < xb
    refine Goes.go (U' := (s₁.setTop (mkF m 10 #[.val (.int xa), .val (.int xb)] [(.int xb)]))) (fun t kt => ?_) ?_
    · show Steps p.tables e below (s₁.setTop (mkF m 2 #[.val (.int xa), .val (.int xb)] [(.int xb), (.int xa)])) t
      refine XS.icmpYes X0.here hx rfl (pc0 := 2) (pc' := 9) rfl (hb hby d_rm_max_2) rfl (XT.ii_lt_t c_1) (by decide) (by decide) ?_
      show Steps p.tables e below (s₁.setTop (mkF m 9 #[.val (.int xa), .val (.int xb)] [])) t
      refine XS.iloadN X0.here hx rfl (hb hby d_rm_max_9) rfl ?_
      exact kt
    refine Goes.retI X0 hx hlk hret (hb hby d_rm_max_10) (by decide) (by decide) ?_
    try rw [e0]
    exact ⟨by simp [own_max, c_1], N0, rfl⟩
  · -- not xa < xb
    refine Goes.go (U' := (s₁.setTop (mkF m 10 #[.val (.int xa), .val (.int xb)] [(.int xa)]))) (fun t kt => ?_) ?_
    · show Steps p.tables e below (s₁.setTop (mkF m 2 #[.val (.int xa), .val (.int xb)] [(.int xb), (.int xa)])) t
      refine XS.icmpNo X0.here hx rfl (hb hby d_rm_max_2) rfl (XT.ii_lt_f c_1) ?_
      show Steps p.tables e below (s₁.setTop (mkF m 5 #[.val (.int xa), .val (.int xb)] [])) t
      refine XS.iloadN X0.here hx rfl (hb hby d_rm_max_5) rfl ?_
      show Steps p.tables e below (s₁.setTop (mkF m 6 #[.val (.int xa), .val (.int xb)] [(.int xa)])) t
      refine XS.goto X0.here hx rfl (pc0 := 6) (pc' := 10) rfl (hb hby d_rm_max_6) (by decide) (by decide) ?_
      exact kt
    refine Goes.retI X0 hx hlk hret (hb hby d_rm_max_10) (by decide) (by decide) ?_
    try rw [e0]
    exact ⟨by simp [own_max, c_1], N0, rfl⟩
theorem d_rm_lv_0 : decode jdk_35_method_31_code 0 = .ok (.aload_n 0, 1) := by decide +kernel
theorem d_rm_lv_1 : decode jdk_35_method_31_code 1 = .ok (.getfield 273, 3) := by decide +kernel
theorem d_rm_lv_4 : decode jdk_35_method_31_code 4 = .ok (.lreturn, 1) := by decide +kernel
set_option maxHeartbeats 4000000 in
theorem ef_rm_lv (m : MethodId) (x0 : Addr)  : entryFrame m #[(.ref x0)] 1 = mkF m 0 #[.val (.ref x0)] [] := by first | (simp [entryFrame, mkF, argsToLocals, catR, catN, catI, catJ]; done) | rfl
set_option maxRecDepth 65536 in
set_option maxHeartbeats 40000000 in
theorem rm_lv (l : Launch) (Z : State) (a0 : Array Value) (hw : ∀ d ∈ tables_1, d.before a0 Z = true) (ws : List Jvm.Cond) (ax : Addr) (xv : Int64) (h0 : Heap) (n0 : Nat) (Z0 : n0 ≤ h0.size) (F0 : Fld Z h0 ax "java/lang/Long" "value" "J" (.long xv)) :
    Pays l Z (⟨"java/lang/Long", "longValue", "()J"⟩ : MethodName) jdk_35_method_31_code 1 (some .long) ws ({ frames := 0, cells := 0, slots := 0, locals := 0 } : Room) #[(.ref ax)] h0 (fun v h L => v = some (.long xv) ∧ Fr n0 L ∧ h = h0) := by
  refine Pays.of (plainFor_of_name (by first | (simp [plainName, overriddenIn]; done) | decide +kernel)) ?_
  intro p e s m below meth c s₁ hx hby hml hown hnm hret hlk hZ e0 X0
  have N0 := Fr.nil n0
  have K0 : Keep h0 h0 [] := Keep.refl _ _
  refine Goes.go (U' := (s₁.setTop (mkF m 0 #[.val (.ref ax)] []))) (fun t kt => castTop (ef_rm_lv m ax) kt) ?_
  refine Goes.go (U' := (s₁.setTop (mkF m 1 #[.val (.ref ax)] [(.ref ax)]))) (fun t kt => ?_) ?_
  · show Steps p.tables e below (s₁.setTop (mkF m 0 #[.val (.ref ax)] [])) t
    refine XS.aloadN X0.here hx rfl (hb hby d_rm_lv_0) rfl rfl ?_
    exact kt
  obtain ⟨T_1, X_1, e_1, st_1⟩ := getF X0 hx hZ hown (host := "") (Or.inl (wdOf hw 81 rfl)) Via.refl e0 F0 (g := (mkF m 1 #[.val (.ref ax)] [(.ref ax)])) rfl rfl (hb hby d_rm_lv_1)
  refine Goes.go (U' := (T_1.setTop (mkF m 4 #[.val (.ref ax)] [(.long xv)]))) st_1 ?_
  refine Goes.retJ X_1 hx hlk hret (hb hby d_rm_lv_4) (by decide) (by decide) ?_
  try rw [e_1]
  exact ⟨rfl, N0, rfl⟩
theorem d_rm_from_0 : decode prog_12_method_5_code 0 = .ok (.aload_n 0, 1) := by decide +kernel
theorem d_rm_from_1 : decode prog_12_method_5_code 1 = .ok (.getfield 7, 3) := by decide +kernel
theorem d_rm_from_4 : decode prog_12_method_5_code 4 = .ok (.areturn, 1) := by decide +kernel
set_option maxHeartbeats 4000000 in
theorem ef_rm_from (m : MethodId) (x0 : Addr)  : entryFrame m #[(.ref x0)] 1 = mkF m 0 #[.val (.ref x0)] [] := by first | (simp [entryFrame, mkF, argsToLocals, catR, catN, catI, catJ]; done) | rfl
set_option maxRecDepth 65536 in
set_option maxHeartbeats 40000000 in
theorem rm_from (l : Launch) (Z : State) (a0 : Array Value) (hw : ∀ d ∈ tables_1, d.before a0 Z = true) (ws : List Jvm.Cond) (ax : Addr) (xl : Addr) (h0 : Heap) (n0 : Nat) (Z0 : n0 ≤ h0.size) (F0 : Fld Z h0 ax "com/example/dead_letter_replay/deadletterreplay/queue/Carries$Carried" "from" "Ljava/lang/Long;" (.ref xl)) :
    Pays l Z (⟨"com/example/dead_letter_replay/deadletterreplay/queue/Carries$Carried", "from", "()Ljava/lang/Long;"⟩ : MethodName) prog_12_method_5_code 1 (some (.object "java/lang/Long")) ws ({ frames := 0, cells := 0, slots := 0, locals := 0 } : Room) #[(.ref ax)] h0 (fun v h L => v = some (.ref xl) ∧ Fr n0 L ∧ h = h0) := by
  refine Pays.of (plainFor_of_name (by first | (simp [plainName, overriddenIn]; done) | decide +kernel)) ?_
  intro p e s m below meth c s₁ hx hby hml hown hnm hret hlk hZ e0 X0
  have N0 := Fr.nil n0
  have K0 : Keep h0 h0 [] := Keep.refl _ _
  refine Goes.go (U' := (s₁.setTop (mkF m 0 #[.val (.ref ax)] []))) (fun t kt => castTop (ef_rm_from m ax) kt) ?_
  refine Goes.go (U' := (s₁.setTop (mkF m 1 #[.val (.ref ax)] [(.ref ax)]))) (fun t kt => ?_) ?_
  · show Steps p.tables e below (s₁.setTop (mkF m 0 #[.val (.ref ax)] [])) t
    refine XS.aloadN X0.here hx rfl (hb hby d_rm_from_0) rfl rfl ?_
    exact kt
  obtain ⟨T_1, X_1, e_1, st_1⟩ := getF X0 hx hZ hown (host := "") (Or.inl (wdOf hw 41 rfl)) Via.refl e0 F0 (g := (mkF m 1 #[.val (.ref ax)] [(.ref ax)])) rfl rfl (hb hby d_rm_from_1)
  refine Goes.go (U' := (T_1.setTop (mkF m 4 #[.val (.ref ax)] [(.ref xl)]))) st_1 ?_
  refine Goes.retA X_1 hx hlk hret rfl rfl (hb hby d_rm_from_4) (by decide) (by decide) ?_
  try rw [e_1]
  exact ⟨rfl, N0, rfl⟩
theorem d_rm_era_0 : decode prog_12_method_6_code 0 = .ok (.aload_n 0, 1) := by decide +kernel
theorem d_rm_era_1 : decode prog_12_method_6_code 1 = .ok (.getfield 13, 3) := by decide +kernel
theorem d_rm_era_4 : decode prog_12_method_6_code 4 = .ok (.lreturn, 1) := by decide +kernel
set_option maxHeartbeats 4000000 in
theorem ef_rm_era (m : MethodId) (x0 : Addr)  : entryFrame m #[(.ref x0)] 1 = mkF m 0 #[.val (.ref x0)] [] := by first | (simp [entryFrame, mkF, argsToLocals, catR, catN, catI, catJ]; done) | rfl
set_option maxRecDepth 65536 in
set_option maxHeartbeats 40000000 in
theorem rm_era (l : Launch) (Z : State) (a0 : Array Value) (hw : ∀ d ∈ tables_1, d.before a0 Z = true) (ws : List Jvm.Cond) (ax : Addr) (xe : Int64) (h0 : Heap) (n0 : Nat) (Z0 : n0 ≤ h0.size) (F0 : Fld Z h0 ax "com/example/dead_letter_replay/deadletterreplay/queue/Carries$Carried" "era" "J" (.long xe)) :
    Pays l Z (⟨"com/example/dead_letter_replay/deadletterreplay/queue/Carries$Carried", "era", "()J"⟩ : MethodName) prog_12_method_6_code 1 (some .long) ws ({ frames := 0, cells := 0, slots := 0, locals := 0 } : Room) #[(.ref ax)] h0 (fun v h L => v = some (.long xe) ∧ Fr n0 L ∧ h = h0) := by
  refine Pays.of (plainFor_of_name (by first | (simp [plainName, overriddenIn]; done) | decide +kernel)) ?_
  intro p e s m below meth c s₁ hx hby hml hown hnm hret hlk hZ e0 X0
  have N0 := Fr.nil n0
  have K0 : Keep h0 h0 [] := Keep.refl _ _
  refine Goes.go (U' := (s₁.setTop (mkF m 0 #[.val (.ref ax)] []))) (fun t kt => castTop (ef_rm_era m ax) kt) ?_
  refine Goes.go (U' := (s₁.setTop (mkF m 1 #[.val (.ref ax)] [(.ref ax)]))) (fun t kt => ?_) ?_
  · show Steps p.tables e below (s₁.setTop (mkF m 0 #[.val (.ref ax)] [])) t
    refine XS.aloadN X0.here hx rfl (hb hby d_rm_era_0) rfl rfl ?_
    exact kt
  obtain ⟨T_1, X_1, e_1, st_1⟩ := getF X0 hx hZ hown (host := "") (Or.inl (wdOf hw 43 rfl)) Via.refl e0 F0 (g := (mkF m 1 #[.val (.ref ax)] [(.ref ax)])) rfl rfl (hb hby d_rm_era_1)
  refine Goes.go (U' := (T_1.setTop (mkF m 4 #[.val (.ref ax)] [(.long xe)]))) st_1 ?_
  refine Goes.retJ X_1 hx hlk hret (hb hby d_rm_era_4) (by decide) (by decide) ?_
  try rw [e_1]
  exact ⟨rfl, N0, rfl⟩
theorem d_rm_cn_0 : decode prog_11_method_3_code 0 = .ok (.aload_n 0, 1) := by decide +kernel
theorem d_rm_cn_1 : decode prog_11_method_3_code 1 = .ok (.dup, 1) := by decide +kernel
theorem d_rm_cn_2 : decode prog_11_method_3_code 2 = .ok (.getfield 7, 3) := by decide +kernel
theorem d_rm_cn_5 : decode prog_11_method_3_code 5 = .ok (.iconst 1, 1) := by decide +kernel
theorem d_rm_cn_6 : decode prog_11_method_3_code 6 = .ok (.iadd, 1) := by decide +kernel
theorem d_rm_cn_7 : decode prog_11_method_3_code 7 = .ok (.putfield 7, 3) := by decide +kernel
theorem d_rm_cn_10 : decode prog_11_method_3_code 10 = .ok (.return_, 1) := by decide +kernel
set_option maxHeartbeats 4000000 in
theorem ef_rm_cn (m : MethodId) (x0 : Addr)  : entryFrame m #[(.ref x0)] 1 = mkF m 0 #[.val (.ref x0)] [] := by first | (simp [entryFrame, mkF, argsToLocals, catR, catN, catI, catJ]; done) | rfl
set_option maxRecDepth 65536 in
set_option maxHeartbeats 40000000 in
theorem rm_cn (l : Launch) (Z : State) (a0 : Array Value) (hw : ∀ d ∈ tables_1, d.before a0 Z = true) (ws : List Jvm.Cond) (ax : Addr) (sv rv hv : Int32) (lv fv : Value) (h0 : Heap) (n0 : Nat) (Z0 : n0 ≤ h0.size) (o0 : n0 ≤ ax) (E0 : Exa Z h0 ax "com/example/dead_letter_replay/deadletterreplay/queue/Carries") (F0_since : Fld Z h0 ax "com/example/dead_letter_replay/deadletterreplay/queue/Carries" "since" "I" (.int sv)) (F0_last : Fld Z h0 ax "com/example/dead_letter_replay/deadletterreplay/queue/Carries" "last" "Lcom/example/dead_letter_replay/deadletterreplay/queue/Carries$Carried;" lv) (F0_risk : Fld Z h0 ax "com/example/dead_letter_replay/deadletterreplay/queue/Carries" "risk" "I" (.int rv)) (F0_first : Fld Z h0 ax "com/example/dead_letter_replay/deadletterreplay/queue/Carries" "first" "Ljava/lang/Long;" fv) (F0_held : Fld Z h0 ax "com/example/dead_letter_replay/deadletterreplay/queue/Carries" "held" "Z" (.int hv)) :
    Pays l Z (⟨"com/example/dead_letter_replay/deadletterreplay/queue/Carries", "counted", "()V"⟩ : MethodName) prog_11_method_3_code 1 none ws ({ frames := 0, cells := 0, slots := 0, locals := 0 } : Room) #[(.ref ax)] h0 (fun v h L => v = none ∧ Fr n0 L ∧ Keep h0 h [ax] ∧ Exa Z h ax "com/example/dead_letter_replay/deadletterreplay/queue/Carries" ∧ Fld Z h ax "com/example/dead_letter_replay/deadletterreplay/queue/Carries" "since" "I" (.int (sv + (1 : Int32))) ∧ Fld Z h ax "com/example/dead_letter_replay/deadletterreplay/queue/Carries" "last" "Lcom/example/dead_letter_replay/deadletterreplay/queue/Carries$Carried;" lv ∧ Fld Z h ax "com/example/dead_letter_replay/deadletterreplay/queue/Carries" "risk" "I" (.int rv) ∧ Fld Z h ax "com/example/dead_letter_replay/deadletterreplay/queue/Carries" "first" "Ljava/lang/Long;" fv ∧ Fld Z h ax "com/example/dead_letter_replay/deadletterreplay/queue/Carries" "held" "Z" (.int hv)) := by
  refine Pays.of (plainFor_of_name (by first | (simp [plainName, overriddenIn]; done) | decide +kernel)) ?_
  intro p e s m below meth c s₁ hx hby hml hown hnm hret hlk hZ e0 X0
  have N0 := Fr.nil n0
  have K0 : Keep h0 h0 [ax] := Keep.refl _ _
  refine Goes.go (U' := (s₁.setTop (mkF m 0 #[.val (.ref ax)] []))) (fun t kt => castTop (ef_rm_cn m ax) kt) ?_
  refine Goes.go (U' := (s₁.setTop (mkF m 2 #[.val (.ref ax)] [(.ref ax), (.ref ax)]))) (fun t kt => ?_) ?_
  · show Steps p.tables e below (s₁.setTop (mkF m 0 #[.val (.ref ax)] [])) t
    refine XS.aloadN X0.here hx rfl (hb hby d_rm_cn_0) rfl rfl ?_
    show Steps p.tables e below (s₁.setTop (mkF m 1 #[.val (.ref ax)] [(.ref ax)])) t
    refine XS.dup X0.here hx rfl (hb hby d_rm_cn_1) rfl rfl ?_
    exact kt
  obtain ⟨T_1, X_1, e_1, st_1⟩ := getF X0 hx hZ hown (host := "") (Or.inl (wdOf hw 14 rfl)) Via.refl e0 F0_since (g := (mkF m 2 #[.val (.ref ax)] [(.ref ax), (.ref ax)])) rfl rfl (hb hby d_rm_cn_2)
  refine Goes.go (U' := (T_1.setTop (mkF m 5 #[.val (.ref ax)] [(.int sv), (.ref ax)]))) st_1 ?_
  refine Goes.go (U' := (T_1.setTop (mkF m 7 #[.val (.ref ax)] [(.int (sv + (1 : Int32))), (.ref ax)]))) (fun t kt => ?_) ?_
  · show Steps p.tables e below (T_1.setTop (mkF m 5 #[.val (.ref ax)] [(.int sv), (.ref ax)])) t
    refine XS.iconst X_1.here hx rfl (hb hby d_rm_cn_5) ?_
    show Steps p.tables e below (T_1.setTop (mkF m 6 #[.val (.ref ax)] [(.int (1 : Int32)), (.int sv), (.ref ax)])) t
    refine XS.iadd X_1.here hx rfl (hb hby d_rm_cn_6) rfl ?_
    exact kt
  obtain ⟨T_2, h_2, X_2, e_2, W_2, st_2⟩ := putF X_1 hx hZ hown (host := "") (Or.inl (wdOf hw 14 rfl)) Via.refl e_1 F0_since E0 (Or.inl (wdOf hw 15 rfl)) (wdOf hw 1 rfl) (ty := .int) (by decide) rfl rfl (g := (mkF m 7 #[.val (.ref ax)] [(.int (sv + (1 : Int32))), (.ref ax)])) rfl rfl (hb hby d_rm_cn_7)
  have N_2 := Fr.snoc X_2 N0 o0
  have f_3 : Exa Z h_2 ax "com/example/dead_letter_replay/deadletterreplay/queue/Carries" := E0.wr W_2
  have f_4 : Fld Z h_2 ax "com/example/dead_letter_replay/deadletterreplay/queue/Carries" "since" "I" (.int (sv + (1 : Int32))) := F0_since.same W_2
  have f_5 : Fld Z h_2 ax "com/example/dead_letter_replay/deadletterreplay/queue/Carries" "last" "Lcom/example/dead_letter_replay/deadletterreplay/queue/Carries$Carried;" lv := F0_last.other W_2 (Or.inr (slot_ne (Or.inl (wdOf hw 59 rfl)) (Or.inl (wdOf hw 15 rfl)) (by decide) (t := (.object "com/example/dead_letter_replay/deadletterreplay/queue/Carries$Carried")) (t' := .int) (by decide) (by decide)))
  have f_6 : Fld Z h_2 ax "com/example/dead_letter_replay/deadletterreplay/queue/Carries" "risk" "I" (.int rv) := F0_risk.other W_2 (Or.inr (slot_ne (Or.inl (wdOf hw 70 rfl)) (Or.inl (wdOf hw 15 rfl)) (by decide) (t := .int) (t' := .int) (by decide) (by decide)))
  have f_7 : Fld Z h_2 ax "com/example/dead_letter_replay/deadletterreplay/queue/Carries" "first" "Ljava/lang/Long;" fv := F0_first.other W_2 (Or.inr (slot_ne (Or.inl (wdOf hw 88 rfl)) (Or.inl (wdOf hw 15 rfl)) (by decide) (t := (.object "java/lang/Long")) (t' := .int) (by decide) (by decide)))
  have f_8 : Fld Z h_2 ax "com/example/dead_letter_replay/deadletterreplay/queue/Carries" "held" "Z" (.int hv) := F0_held.other W_2 (Or.inr (slot_ne (Or.inl (wdOf hw 109 rfl)) (Or.inl (wdOf hw 15 rfl)) (by decide) (t := .boolean) (t' := .int) (by decide) (by decide)))
  have K_9 : Keep h0 h_2 [ax] := K0.wr W_2 (Or.inl (List.mem_of_getElem? (i := 0) rfl))
  have y_9 : n0 ≤ h_2.size := Nat.le_trans Z0 K_9.1
  refine Goes.go (U' := (T_2.setTop (mkF m 10 #[.val (.ref ax)] []))) st_2 ?_
  refine Goes.retV X_2 hx hlk hret (hb hby d_rm_cn_10) (by decide) (by decide) ?_
  try rw [e_2]
  exact ⟨rfl, N_2, K_9, f_3, f_4, f_5, f_6, f_7, f_8⟩
theorem d_rm_cb_0 : decode prog_11_method_7_code 0 = .ok (.aload_n 0, 1) := by decide +kernel
theorem d_rm_cb_1 : decode prog_11_method_7_code 1 = .ok (.getfield 30, 3) := by decide +kernel
theorem d_rm_cb_4 : decode prog_11_method_7_code 4 = .ok (.ifnonnull 13, 3) := by decide +kernel
theorem d_rm_cb_7 : decode prog_11_method_7_code 7 = .ok (.aload_n 0, 1) := by decide +kernel
theorem d_rm_cb_8 : decode prog_11_method_7_code 8 = .ok (.getfield 19, 3) := by decide +kernel
theorem d_rm_cb_11 : decode prog_11_method_7_code 11 = .ok (.aload_n 0, 1) := by decide +kernel
theorem d_rm_cb_12 : decode prog_11_method_7_code 12 = .ok (.getfield 7, 3) := by decide +kernel
theorem d_rm_cb_15 : decode prog_11_method_7_code 15 = .ok (.iadd, 1) := by decide +kernel
theorem d_rm_cb_16 : decode prog_11_method_7_code 16 = .ok (.ireturn, 1) := by decide +kernel
set_option maxHeartbeats 4000000 in
theorem ef_rm_cb (m : MethodId) (x0 : Addr) (x1 : Addr)  : entryFrame m #[(.ref x0), (.ref x1)] 2 = mkF m 0 #[.val (.ref x0), .val (.ref x1)] [] := by first | (simp [entryFrame, mkF, argsToLocals, catR, catN, catI, catJ]; done) | rfl
set_option maxRecDepth 65536 in
set_option maxHeartbeats 40000000 in
theorem rm_cb (l : Launch) (Z : State) (a0 : Array Value) (hw : ∀ d ∈ tables_1, d.before a0 Z = true) (ws : List Jvm.Cond) (ax bx : Addr) (sv rv : Int32) (h0 : Heap) (n0 : Nat) (Z0 : n0 ≤ h0.size) (F0_since : Fld Z h0 ax "com/example/dead_letter_replay/deadletterreplay/queue/Carries" "since" "I" (.int sv)) (F0_last : Fld Z h0 ax "com/example/dead_letter_replay/deadletterreplay/queue/Carries" "last" "Lcom/example/dead_letter_replay/deadletterreplay/queue/Carries$Carried;" .null) (F0_risk : Fld Z h0 ax "com/example/dead_letter_replay/deadletterreplay/queue/Carries" "risk" "I" (.int rv)) :
    Pays l Z (⟨"com/example/dead_letter_replay/deadletterreplay/queue/Carries", "countedBefore", "(Lcom/example/dead_letter_replay/deadletterreplay/queue/Carries$Carried;)I"⟩ : MethodName) prog_11_method_7_code 2 (some .int) ws ({ frames := 0, cells := 0, slots := 0, locals := 0 } : Room) #[(.ref ax), (.ref bx)] h0 (fun v h L => v = some (.int (rv + sv)) ∧ Fr n0 L ∧ h = h0) := by
  refine Pays.of (plainFor_of_name (by first | (simp [plainName, overriddenIn]; done) | decide +kernel)) ?_
  intro p e s m below meth c s₁ hx hby hml hown hnm hret hlk hZ e0 X0
  have N0 := Fr.nil n0
  have K0 : Keep h0 h0 [] := Keep.refl _ _
  refine Goes.go (U' := (s₁.setTop (mkF m 0 #[.val (.ref ax), .val (.ref bx)] []))) (fun t kt => castTop (ef_rm_cb m ax bx) kt) ?_
  refine Goes.go (U' := (s₁.setTop (mkF m 1 #[.val (.ref ax), .val (.ref bx)] [(.ref ax)]))) (fun t kt => ?_) ?_
  · show Steps p.tables e below (s₁.setTop (mkF m 0 #[.val (.ref ax), .val (.ref bx)] [])) t
    refine XS.aloadN X0.here hx rfl (hb hby d_rm_cb_0) rfl rfl ?_
    exact kt
  obtain ⟨T_1, X_1, e_1, st_1⟩ := getF X0 hx hZ hown (host := "") (Or.inl (wdOf hw 58 rfl)) Via.refl e0 F0_last (g := (mkF m 1 #[.val (.ref ax), .val (.ref bx)] [(.ref ax)])) rfl rfl (hb hby d_rm_cb_1)
  refine Goes.go (U' := (T_1.setTop (mkF m 4 #[.val (.ref ax), .val (.ref bx)] [.null]))) st_1 ?_
  refine Goes.go (U' := (T_1.setTop (mkF m 8 #[.val (.ref ax), .val (.ref bx)] [(.ref ax)]))) (fun t kt => ?_) ?_
  · show Steps p.tables e below (T_1.setTop (mkF m 4 #[.val (.ref ax), .val (.ref bx)] [.null])) t
    refine XS.ifnonnullNo X_1.here hx rfl (hb hby d_rm_cb_4) rfl ?_
    show Steps p.tables e below (T_1.setTop (mkF m 7 #[.val (.ref ax), .val (.ref bx)] [])) t
    refine XS.aloadN X_1.here hx rfl (hb hby d_rm_cb_7) rfl rfl ?_
    exact kt
  obtain ⟨T_2, X_2, e_2, st_2⟩ := getF X_1 hx hZ hown (host := "") (Or.inl (wdOf hw 69 rfl)) Via.refl e_1 F0_risk (g := (mkF m 8 #[.val (.ref ax), .val (.ref bx)] [(.ref ax)])) rfl rfl (hb hby d_rm_cb_8)
  refine Goes.go (U' := (T_2.setTop (mkF m 11 #[.val (.ref ax), .val (.ref bx)] [(.int rv)]))) st_2 ?_
  refine Goes.go (U' := (T_2.setTop (mkF m 12 #[.val (.ref ax), .val (.ref bx)] [(.ref ax), (.int rv)]))) (fun t kt => ?_) ?_
  · show Steps p.tables e below (T_2.setTop (mkF m 11 #[.val (.ref ax), .val (.ref bx)] [(.int rv)])) t
    refine XS.aloadN X_2.here hx rfl (hb hby d_rm_cb_11) rfl rfl ?_
    exact kt
  obtain ⟨T_3, X_3, e_3, st_3⟩ := getF X_2 hx hZ hown (host := "") (Or.inl (wdOf hw 14 rfl)) Via.refl e_2 F0_since (g := (mkF m 12 #[.val (.ref ax), .val (.ref bx)] [(.ref ax), (.int rv)])) rfl rfl (hb hby d_rm_cb_12)
  refine Goes.go (U' := (T_3.setTop (mkF m 15 #[.val (.ref ax), .val (.ref bx)] [(.int sv), (.int rv)]))) st_3 ?_
  refine Goes.go (U' := (T_3.setTop (mkF m 16 #[.val (.ref ax), .val (.ref bx)] [(.int (rv + sv))]))) (fun t kt => ?_) ?_
  · show Steps p.tables e below (T_3.setTop (mkF m 15 #[.val (.ref ax), .val (.ref bx)] [(.int sv), (.int rv)])) t
    refine XS.iadd X_3.here hx rfl (hb hby d_rm_cb_15) rfl ?_
    exact kt
  refine Goes.retI X_3 hx hlk hret (hb hby d_rm_cb_16) (by decide) (by decide) ?_
  try rw [e_3]
  exact ⟨rfl, N0, rfl⟩
theorem d_rm_lu_0 : decode prog_11_method_6_code 0 = .ok (.aload_n 0, 1) := by decide +kernel
theorem d_rm_lu_1 : decode prog_11_method_6_code 1 = .ok (.getfield 30, 3) := by decide +kernel
theorem d_rm_lu_4 : decode prog_11_method_6_code 4 = .ok (.ifnull 37, 3) := by decide +kernel
theorem d_rm_lu_41 : decode prog_11_method_6_code 41 = .ok (.aload_n 1, 1) := by decide +kernel
theorem d_rm_lu_42 : decode prog_11_method_6_code 42 = .ok (.invokevirtual 57, 3) := by decide +kernel
theorem d_rm_lu_45 : decode prog_11_method_6_code 45 = .ok (.ifnull 10, 3) := by decide +kernel
theorem d_rm_lu_48 : decode prog_11_method_6_code 48 = .ok (.aload_n 1, 1) := by decide +kernel
theorem d_rm_lu_49 : decode prog_11_method_6_code 49 = .ok (.invokevirtual 57, 3) := by decide +kernel
theorem d_rm_lu_52 : decode prog_11_method_6_code 52 = .ok (.goto 7, 3) := by decide +kernel
theorem d_rm_lu_59 : decode prog_11_method_6_code 59 = .ok (.astore_n 2, 1) := by decide +kernel
theorem d_rm_lu_60 : decode prog_11_method_6_code 60 = .ok (.aload_n 0, 1) := by decide +kernel
theorem d_rm_lu_61 : decode prog_11_method_6_code 61 = .ok (.aload_n 1, 1) := by decide +kernel
theorem d_rm_lu_62 : decode prog_11_method_6_code 62 = .ok (.invokevirtual 64, 3) := by decide +kernel
theorem d_rm_lu_65 : decode prog_11_method_6_code 65 = .ok (.istore_n 3, 1) := by decide +kernel
theorem d_rm_lu_66 : decode prog_11_method_6_code 66 = .ok (.aload_n 2, 1) := by decide +kernel
theorem d_rm_lu_67 : decode prog_11_method_6_code 67 = .ok (.ifnonnull 7, 3) := by decide +kernel
theorem d_rm_lu_74 : decode prog_11_method_6_code 74 = .ok (.iload_n 3, 1) := by decide +kernel
theorem d_rm_lu_75 : decode prog_11_method_6_code 75 = .ok (.i2l, 1) := by decide +kernel
theorem d_rm_lu_76 : decode prog_11_method_6_code 76 = .ok (.aload_n 1, 1) := by decide +kernel
theorem d_rm_lu_77 : decode prog_11_method_6_code 77 = .ok (.invokevirtual 38, 3) := by decide +kernel
theorem d_rm_lu_80 : decode prog_11_method_6_code 80 = .ok (.aload_n 2, 1) := by decide +kernel
theorem d_rm_lu_81 : decode prog_11_method_6_code 81 = .ok (.invokevirtual 67, 3) := by decide +kernel
theorem d_rm_lu_84 : decode prog_11_method_6_code 84 = .ok (.lsub, 1) := by decide +kernel
theorem d_rm_lu_85 : decode prog_11_method_6_code 85 = .ok (.lconst 1, 1) := by decide +kernel
theorem d_rm_lu_86 : decode prog_11_method_6_code 86 = .ok (.ladd, 1) := by decide +kernel
theorem d_rm_lu_87 : decode prog_11_method_6_code 87 = .ok (.invokestatic 70, 3) := by decide +kernel
theorem d_rm_lu_90 : decode prog_11_method_6_code 90 = .ok (.l2i, 1) := by decide +kernel
theorem d_rm_lu_91 : decode prog_11_method_6_code 91 = .ok (.ireturn, 1) := by decide +kernel
set_option maxHeartbeats 4000000 in
theorem ef_rm_lu (m : MethodId) (x0 : Addr) (x1 : Addr)  : entryFrame m #[(.ref x0), (.ref x1)] 4 = mkF m 0 #[.val (.ref x0), .val (.ref x1), .unset, .unset] [] := by first | (simp [entryFrame, mkF, argsToLocals, catR, catN, catI, catJ]; done) | rfl
set_option maxRecDepth 65536 in
set_option maxHeartbeats 40000000 in
theorem rm_lu (l : Launch) (Z : State) (a0 : Array Value) (hw : ∀ d ∈ tables_1, d.before a0 Z = true) (ws : List Jvm.Cond) (ax bx xl : Addr) (sv rv : Int32) (xe xv : Int64) (h0 : Heap) (n0 : Nat) (Z0 : n0 ≤ h0.size) (E0 : Exa Z h0 ax "com/example/dead_letter_replay/deadletterreplay/queue/Carries") (F0_since : Fld Z h0 ax "com/example/dead_letter_replay/deadletterreplay/queue/Carries" "since" "I" (.int sv)) (F0_last : Fld Z h0 ax "com/example/dead_letter_replay/deadletterreplay/queue/Carries" "last" "Lcom/example/dead_letter_replay/deadletterreplay/queue/Carries$Carried;" .null) (F0_risk : Fld Z h0 ax "com/example/dead_letter_replay/deadletterreplay/queue/Carries" "risk" "I" (.int rv)) (Eb : Exa Z h0 bx "com/example/dead_letter_replay/deadletterreplay/queue/Carries$Carried") (Fb_from : Fld Z h0 bx "com/example/dead_letter_replay/deadletterreplay/queue/Carries$Carried" "from" "Ljava/lang/Long;" (.ref xl)) (Fb_era : Fld Z h0 bx "com/example/dead_letter_replay/deadletterreplay/queue/Carries$Carried" "era" "J" (.long xe)) (El : Exa Z h0 xl "java/lang/Long") (Fl : Fld Z h0 xl "java/lang/Long" "value" "J" (.long xv)) :
    Pays l Z (⟨"com/example/dead_letter_replay/deadletterreplay/queue/Carries", "leftIfUndone", "(Lcom/example/dead_letter_replay/deadletterreplay/queue/Carries$Carried;)I"⟩ : MethodName) prog_11_method_6_code 4 (some .int) ws ({ frames := 1, cells := 0, slots := 0, locals := 16 } : Room) #[(.ref ax), (.ref bx)] h0 (fun v h L => ∃ z : Int64, v = some (.int z.toInt32) ∧ Fr n0 L ∧ h = h0 ∧ ¬ (rv + sv).toInt64 < z ∧ ¬ ((xe - xv) + (1 : Int64)) < z ∧ (z = (rv + sv).toInt64 ∨ z = ((xe - xv) + (1 : Int64)))) := by
  refine Pays.of (plainFor_of_name (by first | (simp [plainName, overriddenIn]; done) | decide +kernel)) ?_
  intro p e s m below meth c s₁ hx hby hml hown hnm hret hlk hZ e0 X0
  have N0 := Fr.nil n0
  have K0 : Keep h0 h0 [] := Keep.refl _ _
  refine Goes.go (U' := (s₁.setTop (mkF m 0 #[.val (.ref ax), .val (.ref bx), .unset, .unset] []))) (fun t kt => castTop (ef_rm_lu m ax bx) kt) ?_
  refine Goes.go (U' := (s₁.setTop (mkF m 1 #[.val (.ref ax), .val (.ref bx), .unset, .unset] [(.ref ax)]))) (fun t kt => ?_) ?_
  · show Steps p.tables e below (s₁.setTop (mkF m 0 #[.val (.ref ax), .val (.ref bx), .unset, .unset] [])) t
    refine XS.aloadN X0.here hx rfl (hb hby d_rm_lu_0) rfl rfl ?_
    exact kt
  obtain ⟨T_1, X_1, e_1, st_1⟩ := getF X0 hx hZ hown (host := "") (Or.inl (wdOf hw 58 rfl)) Via.refl e0 F0_last (g := (mkF m 1 #[.val (.ref ax), .val (.ref bx), .unset, .unset] [(.ref ax)])) rfl rfl (hb hby d_rm_lu_1)
  refine Goes.go (U' := (T_1.setTop (mkF m 4 #[.val (.ref ax), .val (.ref bx), .unset, .unset] [.null]))) st_1 ?_
  refine Goes.go (U' := (T_1.setTop (mkF m 42 #[.val (.ref ax), .val (.ref bx), .unset, .unset] [(.ref bx)]))) (fun t kt => ?_) ?_
  · show Steps p.tables e below (T_1.setTop (mkF m 4 #[.val (.ref ax), .val (.ref bx), .unset, .unset] [.null])) t
    refine XS.ifnullYes X_1.here hx rfl (pc0 := 4) (pc' := 41) rfl (hb hby d_rm_lu_4) rfl (by decide) (by decide) ?_
    show Steps p.tables e below (T_1.setTop (mkF m 41 #[.val (.ref ax), .val (.ref bx), .unset, .unset] [])) t
    refine XS.aloadN X_1.here hx rfl (hb hby d_rm_lu_41) rfl rfl ?_
    exact kt
  obtain ⟨v_2, T_2, L_2, X_2, q_2, st_2⟩ := callVirtual X_1 hx hZ (y := (⟨"com/example/dead_letter_replay/deadletterreplay/queue/Carries$Carried", "from", "()Ljava/lang/Long;"⟩ : MethodName)) (z := (⟨"com/example/dead_letter_replay/deadletterreplay/queue/Carries$Carried", "from", "()Ljava/lang/Long;"⟩ : MethodName)) (W := 0) hown (wdOf hw 60 rfl) (wdOf hw 61 rfl) (notFace_of_selects (args := #[]) (mvT hZ (wdOf hw 63 rfl))) (wdOf hw 63 rfl) (wdOf hw 62 rfl) (wdOf hw 23 rfl) (wdOf hw 64 rfl) (by decide) (rm_from l Z a0 hw [] bx xl h0 n0 Z0 Fb_from) (by decide) (by decide) (by decide) (by decide) e_1 Eb (g := (mkF m 42 #[.val (.ref ax), .val (.ref bx), .unset, .unset] [(.ref bx)])) rfl (by rw [hml]; rfl) (argsL := []) (rest := []) (lenOf pd_2 rfl) rfl rfl (Nat.le_refl _) (hb hby d_rm_lu_42)
  obtain ⟨rfl, n_2, K_2⟩ := q_2
  have N_2 := Fr.app N0 n_2
  refine Goes.go (U' := (T_2.setTop (mkF m 45 #[.val (.ref ax), .val (.ref bx), .unset, .unset] [(.ref xl)]))) st_2 ?_
  refine Goes.go (U' := (T_2.setTop (mkF m 49 #[.val (.ref ax), .val (.ref bx), .unset, .unset] [(.ref bx)]))) (fun t kt => ?_) ?_
  · show Steps p.tables e below (T_2.setTop (mkF m 45 #[.val (.ref ax), .val (.ref bx), .unset, .unset] [(.ref xl)])) t
    refine XS.ifnullNo X_2.here hx rfl (hb hby d_rm_lu_45) rfl ?_
    show Steps p.tables e below (T_2.setTop (mkF m 48 #[.val (.ref ax), .val (.ref bx), .unset, .unset] [])) t
    refine XS.aloadN X_2.here hx rfl (hb hby d_rm_lu_48) rfl rfl ?_
    exact kt
  obtain ⟨v_3, T_3, L_3, X_3, q_3, st_3⟩ := callVirtual X_2 hx hZ (y := (⟨"com/example/dead_letter_replay/deadletterreplay/queue/Carries$Carried", "from", "()Ljava/lang/Long;"⟩ : MethodName)) (z := (⟨"com/example/dead_letter_replay/deadletterreplay/queue/Carries$Carried", "from", "()Ljava/lang/Long;"⟩ : MethodName)) (W := 0) hown (wdOf hw 60 rfl) (wdOf hw 61 rfl) (notFace_of_selects (args := #[]) (mvT hZ (wdOf hw 63 rfl))) (wdOf hw 63 rfl) (wdOf hw 62 rfl) (wdOf hw 23 rfl) (wdOf hw 64 rfl) (by decide) (rm_from l Z a0 hw [] bx xl h0 n0 Z0 Fb_from) (by decide) (by decide) (by decide) (by decide) K_2 Eb (g := (mkF m 49 #[.val (.ref ax), .val (.ref bx), .unset, .unset] [(.ref bx)])) rfl (by rw [hml]; rfl) (argsL := []) (rest := []) (lenOf pd_2 rfl) rfl rfl (Nat.le_refl _) (hb hby d_rm_lu_49)
  obtain ⟨rfl, n_3, K_3⟩ := q_3
  have N_3 := Fr.app N_2 n_3
  refine Goes.go (U' := (T_3.setTop (mkF m 52 #[.val (.ref ax), .val (.ref bx), .unset, .unset] [(.ref xl)]))) st_3 ?_
  refine Goes.go (U' := (T_3.setTop (mkF m 62 #[.val (.ref ax), .val (.ref bx), .val (.ref xl), .unset] [(.ref bx), (.ref ax)]))) (fun t kt => ?_) ?_
  · show Steps p.tables e below (T_3.setTop (mkF m 52 #[.val (.ref ax), .val (.ref bx), .unset, .unset] [(.ref xl)])) t
    refine XS.goto X_3.here hx rfl (pc0 := 52) (pc' := 59) rfl (hb hby d_rm_lu_52) (by decide) (by decide) ?_
    show Steps p.tables e below (T_3.setTop (mkF m 59 #[.val (.ref ax), .val (.ref bx), .unset, .unset] [(.ref xl)])) t
    refine XS.astoreN X_3.here hx rfl (hb hby d_rm_lu_59) rfl rfl (l' := #[.val (.ref ax), .val (.ref bx), .val (.ref xl), .unset]) rfl ?_
    show Steps p.tables e below (T_3.setTop (mkF m 60 #[.val (.ref ax), .val (.ref bx), .val (.ref xl), .unset] [])) t
    refine XS.aloadN X_3.here hx rfl (hb hby d_rm_lu_60) rfl rfl ?_
    show Steps p.tables e below (T_3.setTop (mkF m 61 #[.val (.ref ax), .val (.ref bx), .val (.ref xl), .unset] [(.ref ax)])) t
    refine XS.aloadN X_3.here hx rfl (hb hby d_rm_lu_61) rfl rfl ?_
    exact kt
  obtain ⟨v_4, T_4, L_4, X_4, q_4, st_4⟩ := callPrivate X_3 hx hZ (y := (⟨"com/example/dead_letter_replay/deadletterreplay/queue/Carries", "countedBefore", "(Lcom/example/dead_letter_replay/deadletterreplay/queue/Carries$Carried;)I"⟩ : MethodName)) (W := 0) hown (wdOf hw 65 rfl) (wdOf hw 66 rfl) (wdOf hw 67 rfl) (wdOf hw 1 rfl) (wdOf hw 2 rfl) (wdOf hw 68 rfl) (by decide) (rm_cb l Z a0 hw [] ax bx sv rv h0 n0 Z0 F0_since F0_last F0_risk) (by decide) (by decide) (by decide) (by decide) K_3 E0 (g := (mkF m 62 #[.val (.ref ax), .val (.ref bx), .val (.ref xl), .unset] [(.ref bx), (.ref ax)])) rfl (by rw [hml]; rfl) (argsL := [(.ref bx)]) (rest := []) (lenOf pd_3 rfl) rfl rfl (Nat.le_refl _) (hb hby d_rm_lu_62)
  obtain ⟨rfl, n_4, K_4⟩ := q_4
  have N_4 := Fr.app N_3 n_4
  refine Goes.go (U' := (T_4.setTop (mkF m 65 #[.val (.ref ax), .val (.ref bx), .val (.ref xl), .unset] [(.int (rv + sv))]))) st_4 ?_
  refine Goes.go (U' := (T_4.setTop (mkF m 77 #[.val (.ref ax), .val (.ref bx), .val (.ref xl), .val (.int (rv + sv))] [(.ref bx), (.long ((rv + sv).toInt64))]))) (fun t kt => ?_) ?_
  · show Steps p.tables e below (T_4.setTop (mkF m 65 #[.val (.ref ax), .val (.ref bx), .val (.ref xl), .unset] [(.int (rv + sv))])) t
    refine XS.istoreN X_4.here hx rfl (hb hby d_rm_lu_65) rfl (l' := #[.val (.ref ax), .val (.ref bx), .val (.ref xl), .val (.int (rv + sv))]) rfl ?_
    show Steps p.tables e below (T_4.setTop (mkF m 66 #[.val (.ref ax), .val (.ref bx), .val (.ref xl), .val (.int (rv + sv))] [])) t
    refine XS.aloadN X_4.here hx rfl (hb hby d_rm_lu_66) rfl rfl ?_
    show Steps p.tables e below (T_4.setTop (mkF m 67 #[.val (.ref ax), .val (.ref bx), .val (.ref xl), .val (.int (rv + sv))] [(.ref xl)])) t
    refine XS.ifnonnullYes X_4.here hx rfl (pc0 := 67) (pc' := 74) rfl (hb hby d_rm_lu_67) rfl (by decide) (by decide) ?_
    show Steps p.tables e below (T_4.setTop (mkF m 74 #[.val (.ref ax), .val (.ref bx), .val (.ref xl), .val (.int (rv + sv))] [])) t
    refine XS.iloadN X_4.here hx rfl (hb hby d_rm_lu_74) rfl ?_
    show Steps p.tables e below (T_4.setTop (mkF m 75 #[.val (.ref ax), .val (.ref bx), .val (.ref xl), .val (.int (rv + sv))] [(.int (rv + sv))])) t
    refine XS.i2l X_4.here hx rfl (hb hby d_rm_lu_75) rfl ?_
    show Steps p.tables e below (T_4.setTop (mkF m 76 #[.val (.ref ax), .val (.ref bx), .val (.ref xl), .val (.int (rv + sv))] [(.long ((rv + sv).toInt64))])) t
    refine XS.aloadN X_4.here hx rfl (hb hby d_rm_lu_76) rfl rfl ?_
    exact kt
  obtain ⟨v_5, T_5, L_5, X_5, q_5, st_5⟩ := callVirtual X_4 hx hZ (y := (⟨"com/example/dead_letter_replay/deadletterreplay/queue/Carries$Carried", "era", "()J"⟩ : MethodName)) (z := (⟨"com/example/dead_letter_replay/deadletterreplay/queue/Carries$Carried", "era", "()J"⟩ : MethodName)) (W := 2) hown (wdOf hw 71 rfl) (wdOf hw 72 rfl) (notFace_of_selects (args := #[]) (mvT hZ (wdOf hw 74 rfl))) (wdOf hw 74 rfl) (wdOf hw 73 rfl) (wdOf hw 23 rfl) (wdOf hw 75 rfl) (by decide) (rm_era l Z a0 hw [] bx xe h0 n0 Z0 Fb_era) (by decide) (by decide) (by decide) (by decide) K_4 Eb (g := (mkF m 77 #[.val (.ref ax), .val (.ref bx), .val (.ref xl), .val (.int (rv + sv))] [(.ref bx), (.long ((rv + sv).toInt64))])) rfl (by rw [hml]; rfl) (argsL := []) (rest := [(.long ((rv + sv).toInt64))]) (lenOf pd_4 rfl) rfl rfl (Nat.le_refl _) (hb hby d_rm_lu_77)
  obtain ⟨rfl, n_5, K_5⟩ := q_5
  have N_5 := Fr.app N_4 n_5
  refine Goes.go (U' := (T_5.setTop (mkF m 80 #[.val (.ref ax), .val (.ref bx), .val (.ref xl), .val (.int (rv + sv))] [(.long xe), (.long ((rv + sv).toInt64))]))) st_5 ?_
  refine Goes.go (U' := (T_5.setTop (mkF m 81 #[.val (.ref ax), .val (.ref bx), .val (.ref xl), .val (.int (rv + sv))] [(.ref xl), (.long xe), (.long ((rv + sv).toInt64))]))) (fun t kt => ?_) ?_
  · show Steps p.tables e below (T_5.setTop (mkF m 80 #[.val (.ref ax), .val (.ref bx), .val (.ref xl), .val (.int (rv + sv))] [(.long xe), (.long ((rv + sv).toInt64))])) t
    refine XS.aloadN X_5.here hx rfl (hb hby d_rm_lu_80) rfl rfl ?_
    exact kt
  obtain ⟨v_6, T_6, L_6, X_6, q_6, st_6⟩ := callVirtual X_5 hx hZ (y := (⟨"java/lang/Long", "longValue", "()J"⟩ : MethodName)) (z := (⟨"java/lang/Long", "longValue", "()J"⟩ : MethodName)) (W := 4) hown (wdOf hw 76 rfl) (wdOf hw 77 rfl) (notFace_of_selects (args := #[]) (mvT hZ (wdOf hw 79 rfl))) (wdOf hw 79 rfl) (wdOf hw 78 rfl) (wdOf hw 26 rfl) (wdOf hw 80 rfl) (by decide) (rm_lv l Z a0 hw [] xl xv h0 n0 Z0 Fl) (by decide) (by decide) (by decide) (by decide) K_5 El (g := (mkF m 81 #[.val (.ref ax), .val (.ref bx), .val (.ref xl), .val (.int (rv + sv))] [(.ref xl), (.long xe), (.long ((rv + sv).toInt64))])) rfl (by rw [hml]; rfl) (argsL := []) (rest := [(.long xe), (.long ((rv + sv).toInt64))]) (lenOf pd_4 rfl) rfl rfl (Nat.le_refl _) (hb hby d_rm_lu_81)
  obtain ⟨rfl, n_6, K_6⟩ := q_6
  have N_6 := Fr.app N_5 n_6
  refine Goes.go (U' := (T_6.setTop (mkF m 84 #[.val (.ref ax), .val (.ref bx), .val (.ref xl), .val (.int (rv + sv))] [(.long xv), (.long xe), (.long ((rv + sv).toInt64))]))) st_6 ?_
  refine Goes.go (U' := (T_6.setTop (mkF m 87 #[.val (.ref ax), .val (.ref bx), .val (.ref xl), .val (.int (rv + sv))] [(.long ((xe - xv) + (1 : Int64))), (.long ((rv + sv).toInt64))]))) (fun t kt => ?_) ?_
  · show Steps p.tables e below (T_6.setTop (mkF m 84 #[.val (.ref ax), .val (.ref bx), .val (.ref xl), .val (.int (rv + sv))] [(.long xv), (.long xe), (.long ((rv + sv).toInt64))])) t
    refine XS.lsub X_6.here hx rfl (hb hby d_rm_lu_84) rfl ?_
    show Steps p.tables e below (T_6.setTop (mkF m 85 #[.val (.ref ax), .val (.ref bx), .val (.ref xl), .val (.int (rv + sv))] [(.long (xe - xv)), (.long ((rv + sv).toInt64))])) t
    refine XS.lconst X_6.here hx rfl (hb hby d_rm_lu_85) ?_
    show Steps p.tables e below (T_6.setTop (mkF m 86 #[.val (.ref ax), .val (.ref bx), .val (.ref xl), .val (.int (rv + sv))] [(.long (1 : Int64)), (.long (xe - xv)), (.long ((rv + sv).toInt64))])) t
    refine XS.ladd X_6.here hx rfl (hb hby d_rm_lu_86) rfl ?_
    exact kt
  obtain ⟨v_7, T_7, L_7, X_7, q_7, st_7⟩ := callStatic X_6 hx hZ (y := (⟨"java/lang/Math", "min", "(JJ)J"⟩ : MethodName)) (W := 0) hown (wdOf hw 83 rfl) (wdOf hw 84 rfl) (wdOf hw 85 rfl) (wdOf hw 86 rfl) (by decide) (rm_min l Z a0 hw [] ((rv + sv).toInt64) ((xe - xv) + (1 : Int64)) h0 n0 Z0) (by decide) (by decide) (by decide) (by decide) K_6 (g := (mkF m 87 #[.val (.ref ax), .val (.ref bx), .val (.ref xl), .val (.int (rv + sv))] [(.long ((xe - xv) + (1 : Int64))), (.long ((rv + sv).toInt64))])) rfl (by rw [hml]; rfl) (argsL := [(.long ((rv + sv).toInt64)), (.long ((xe - xv) + (1 : Int64)))]) (rest := []) (lenOf pd_5 rfl) rfl rfl (Nat.le_refl _) (hb hby d_rm_lu_87)
  obtain ⟨z_7, rfl, n_7, K_7, R_7⟩ := q_7
  have N_7 := Fr.app N_6 n_7
  refine Goes.go (U' := (T_7.setTop (mkF m 90 #[.val (.ref ax), .val (.ref bx), .val (.ref xl), .val (.int (rv + sv))] [(.long z_7)]))) st_7 ?_
  refine Goes.go (U' := (T_7.setTop (mkF m 91 #[.val (.ref ax), .val (.ref bx), .val (.ref xl), .val (.int (rv + sv))] [(.int (z_7.toInt32))]))) (fun t kt => ?_) ?_
  · show Steps p.tables e below (T_7.setTop (mkF m 90 #[.val (.ref ax), .val (.ref bx), .val (.ref xl), .val (.int (rv + sv))] [(.long z_7)])) t
    refine XS.l2i X_7.here hx rfl (hb hby d_rm_lu_90) rfl ?_
    exact kt
  refine Goes.retI X_7 hx hlk hret (hb hby d_rm_lu_91) (by decide) (by decide) ?_
  try rw [K_7]
  exact ⟨_, rfl, N_7, rfl, R_7⟩
theorem d_rm_cr_0 : decode prog_11_method_5_code 0 = .ok (.aload_n 1, 1) := by decide +kernel
theorem d_rm_cr_1 : decode prog_11_method_5_code 1 = .ok (.ifnonnull 16, 3) := by decide +kernel
theorem d_rm_cr_17 : decode prog_11_method_5_code 17 = .ok (.aload_n 0, 1) := by decide +kernel
theorem d_rm_cr_18 : decode prog_11_method_5_code 18 = .ok (.aload_n 0, 1) := by decide +kernel
theorem d_rm_cr_19 : decode prog_11_method_5_code 19 = .ok (.aload_n 1, 1) := by decide +kernel
theorem d_rm_cr_20 : decode prog_11_method_5_code 20 = .ok (.invokevirtual 34, 3) := by decide +kernel
theorem d_rm_cr_23 : decode prog_11_method_5_code 23 = .ok (.putfield 19, 3) := by decide +kernel
theorem d_rm_cr_26 : decode prog_11_method_5_code 26 = .ok (.aload_n 0, 1) := by decide +kernel
theorem d_rm_cr_27 : decode prog_11_method_5_code 27 = .ok (.aload_n 1, 1) := by decide +kernel
theorem d_rm_cr_28 : decode prog_11_method_5_code 28 = .ok (.putfield 30, 3) := by decide +kernel
theorem d_rm_cr_31 : decode prog_11_method_5_code 31 = .ok (.aload_n 0, 1) := by decide +kernel
theorem d_rm_cr_32 : decode prog_11_method_5_code 32 = .ok (.getfield 26, 3) := by decide +kernel
theorem d_rm_cr_35 : decode prog_11_method_5_code 35 = .ok (.ifnonnull 14, 3) := by decide +kernel
theorem d_rm_cr_38 : decode prog_11_method_5_code 38 = .ok (.aload_n 0, 1) := by decide +kernel
theorem d_rm_cr_39 : decode prog_11_method_5_code 39 = .ok (.aload_n 1, 1) := by decide +kernel
theorem d_rm_cr_40 : decode prog_11_method_5_code 40 = .ok (.invokevirtual 38, 3) := by decide +kernel
theorem d_rm_cr_43 : decode prog_11_method_5_code 43 = .ok (.invokestatic 44, 3) := by decide +kernel
theorem d_rm_cr_46 : decode prog_11_method_5_code 46 = .ok (.putfield 26, 3) := by decide +kernel
theorem d_rm_cr_49 : decode prog_11_method_5_code 49 = .ok (.aload_n 0, 1) := by decide +kernel
theorem d_rm_cr_50 : decode prog_11_method_5_code 50 = .ok (.iconst 1, 1) := by decide +kernel
theorem d_rm_cr_51 : decode prog_11_method_5_code 51 = .ok (.putfield 7, 3) := by decide +kernel
theorem d_rm_cr_54 : decode prog_11_method_5_code 54 = .ok (.return_, 1) := by decide +kernel
set_option maxHeartbeats 4000000 in
theorem ef_rm_cr (m : MethodId) (x0 : Addr) (x1 : Addr)  : entryFrame m #[(.ref x0), (.ref x1)] 2 = mkF m 0 #[.val (.ref x0), .val (.ref x1)] [] := by first | (simp [entryFrame, mkF, argsToLocals, catR, catN, catI, catJ]; done) | rfl
set_option maxRecDepth 65536 in
set_option maxHeartbeats 40000000 in
theorem rm_cr (l : Launch) (Z : State) (a0 : Array Value) (hw : ∀ d ∈ tables_1, d.before a0 Z = true) (ws : List Jvm.Cond) (ax bx xl : Addr) (sv rv hv : Int32) (xe xv : Int64) (h0 : Heap) (n0 : Nat) (Z0 : n0 ≤ h0.size) (O : Old Z n0 h0) (BC : BoxC Z "java/lang/Long$LongCache" "[Ljava/lang/Long;" "java/lang/Long" "J" (fun i => .long (i.toInt32 - 128).toInt64)) (o0 : n0 ≤ ax) (nb : bx ≠ ax) (nl : xl ≠ ax) (E0 : Exa Z h0 ax "com/example/dead_letter_replay/deadletterreplay/queue/Carries") (F0_since : Fld Z h0 ax "com/example/dead_letter_replay/deadletterreplay/queue/Carries" "since" "I" (.int sv)) (F0_last : Fld Z h0 ax "com/example/dead_letter_replay/deadletterreplay/queue/Carries" "last" "Lcom/example/dead_letter_replay/deadletterreplay/queue/Carries$Carried;" .null) (F0_risk : Fld Z h0 ax "com/example/dead_letter_replay/deadletterreplay/queue/Carries" "risk" "I" (.int rv)) (F0_first : Fld Z h0 ax "com/example/dead_letter_replay/deadletterreplay/queue/Carries" "first" "Ljava/lang/Long;" .null) (F0_held : Fld Z h0 ax "com/example/dead_letter_replay/deadletterreplay/queue/Carries" "held" "Z" (.int hv)) (Eb : Exa Z h0 bx "com/example/dead_letter_replay/deadletterreplay/queue/Carries$Carried") (Fb_from : Fld Z h0 bx "com/example/dead_letter_replay/deadletterreplay/queue/Carries$Carried" "from" "Ljava/lang/Long;" (.ref xl)) (Fb_era : Fld Z h0 bx "com/example/dead_letter_replay/deadletterreplay/queue/Carries$Carried" "era" "J" (.long xe)) (El : Exa Z h0 xl "java/lang/Long") (Fl : Fld Z h0 xl "java/lang/Long" "value" "J" (.long xv)) :
    Pays l Z (⟨"com/example/dead_letter_replay/deadletterreplay/queue/Carries", "carried", "(Lcom/example/dead_letter_replay/deadletterreplay/queue/Carries$Carried;)V"⟩ : MethodName) prog_11_method_5_code 2 none ws ({ frames := 4, cells := 1, slots := 1, locals := 54 } : Room) #[(.ref ax), (.ref bx)] h0 (fun v h L => ∃ (z : Int64) (fr : Addr), v = none ∧ Fr n0 L ∧ Keep h0 h [ax] ∧ (¬ (rv + sv).toInt64 < z ∧ ¬ ((xe - xv) + (1 : Int64)) < z ∧ (z = (rv + sv).toInt64 ∨ z = ((xe - xv) + (1 : Int64)))) ∧ Exa Z h ax "com/example/dead_letter_replay/deadletterreplay/queue/Carries" ∧ Fld Z h ax "com/example/dead_letter_replay/deadletterreplay/queue/Carries" "since" "I" (.int (1 : Int32)) ∧ Fld Z h ax "com/example/dead_letter_replay/deadletterreplay/queue/Carries" "last" "Lcom/example/dead_letter_replay/deadletterreplay/queue/Carries$Carried;" (.ref bx) ∧ Fld Z h ax "com/example/dead_letter_replay/deadletterreplay/queue/Carries" "risk" "I" (.int z.toInt32) ∧ Fld Z h ax "com/example/dead_letter_replay/deadletterreplay/queue/Carries" "first" "Ljava/lang/Long;" (.ref fr) ∧ Fld Z h ax "com/example/dead_letter_replay/deadletterreplay/queue/Carries" "held" "Z" (.int hv)) := by
  refine Pays.of (plainFor_of_name (by first | (simp [plainName, overriddenIn]; done) | decide +kernel)) ?_
  intro p e s m below meth c s₁ hx hby hml hown hnm hret hlk hZ e0 X0
  have N0 := Fr.nil n0
  have K0 : Keep h0 h0 [ax] := Keep.refl _ _
  refine Goes.go (U' := (s₁.setTop (mkF m 0 #[.val (.ref ax), .val (.ref bx)] []))) (fun t kt => castTop (ef_rm_cr m ax bx) kt) ?_
  refine Goes.go (U' := (s₁.setTop (mkF m 20 #[.val (.ref ax), .val (.ref bx)] [(.ref bx), (.ref ax), (.ref ax)]))) (fun t kt => ?_) ?_
  · show Steps p.tables e below (s₁.setTop (mkF m 0 #[.val (.ref ax), .val (.ref bx)] [])) t
    refine XS.aloadN X0.here hx rfl (hb hby d_rm_cr_0) rfl rfl ?_
    show Steps p.tables e below (s₁.setTop (mkF m 1 #[.val (.ref ax), .val (.ref bx)] [(.ref bx)])) t
    refine XS.ifnonnullYes X0.here hx rfl (pc0 := 1) (pc' := 17) rfl (hb hby d_rm_cr_1) rfl (by decide) (by decide) ?_
    show Steps p.tables e below (s₁.setTop (mkF m 17 #[.val (.ref ax), .val (.ref bx)] [])) t
    refine XS.aloadN X0.here hx rfl (hb hby d_rm_cr_17) rfl rfl ?_
    show Steps p.tables e below (s₁.setTop (mkF m 18 #[.val (.ref ax), .val (.ref bx)] [(.ref ax)])) t
    refine XS.aloadN X0.here hx rfl (hb hby d_rm_cr_18) rfl rfl ?_
    show Steps p.tables e below (s₁.setTop (mkF m 19 #[.val (.ref ax), .val (.ref bx)] [(.ref ax), (.ref ax)])) t
    refine XS.aloadN X0.here hx rfl (hb hby d_rm_cr_19) rfl rfl ?_
    exact kt
  obtain ⟨v_1, T_1, L_1, X_1, q_1, st_1⟩ := callPrivate X0 hx hZ (y := (⟨"com/example/dead_letter_replay/deadletterreplay/queue/Carries", "leftIfUndone", "(Lcom/example/dead_letter_replay/deadletterreplay/queue/Carries$Carried;)I"⟩ : MethodName)) (W := 1) hown (wdOf hw 54 rfl) (wdOf hw 55 rfl) (wdOf hw 56 rfl) (wdOf hw 1 rfl) (wdOf hw 2 rfl) (wdOf hw 57 rfl) (by decide) (rm_lu l Z a0 hw [] ax bx xl sv rv xe xv h0 n0 Z0 E0 F0_since F0_last F0_risk Eb Fb_from Fb_era El Fl) (by decide) (by decide) (by decide) (by decide) e0 E0 (g := (mkF m 20 #[.val (.ref ax), .val (.ref bx)] [(.ref bx), (.ref ax), (.ref ax)])) rfl (by rw [hml]; rfl) (argsL := [(.ref bx)]) (rest := [(.ref ax)]) (lenOf pd_3 rfl) rfl rfl (Nat.le_refl _) (hb hby d_rm_cr_20)
  obtain ⟨z_1, rfl, n_1, K_1, R_1⟩ := q_1
  have N_1 := Fr.app N0 n_1
  refine Goes.go (U' := (T_1.setTop (mkF m 23 #[.val (.ref ax), .val (.ref bx)] [(.int z_1.toInt32), (.ref ax)]))) st_1 ?_
  obtain ⟨T_2, h_2, X_2, e_2, W_2, st_2⟩ := putF X_1 hx hZ hown (host := "") (Or.inl (wdOf hw 69 rfl)) Via.refl K_1 F0_risk E0 (Or.inl (wdOf hw 70 rfl)) (wdOf hw 1 rfl) (ty := .int) (by decide) rfl rfl (g := (mkF m 23 #[.val (.ref ax), .val (.ref bx)] [(.int z_1.toInt32), (.ref ax)])) rfl rfl (hb hby d_rm_cr_23)
  have N_2 := Fr.snoc X_2 N_1 o0
  have f_3 : Exa Z h_2 ax "com/example/dead_letter_replay/deadletterreplay/queue/Carries" := E0.wr W_2
  have f_4 : Fld Z h_2 ax "com/example/dead_letter_replay/deadletterreplay/queue/Carries" "since" "I" (.int sv) := F0_since.other W_2 (Or.inr (slot_ne (Or.inl (wdOf hw 15 rfl)) (Or.inl (wdOf hw 70 rfl)) (by decide) (t := .int) (t' := .int) (by decide) (by decide)))
  have f_5 : Fld Z h_2 ax "com/example/dead_letter_replay/deadletterreplay/queue/Carries" "last" "Lcom/example/dead_letter_replay/deadletterreplay/queue/Carries$Carried;" .null := F0_last.other W_2 (Or.inr (slot_ne (Or.inl (wdOf hw 59 rfl)) (Or.inl (wdOf hw 70 rfl)) (by decide) (t := (.object "com/example/dead_letter_replay/deadletterreplay/queue/Carries$Carried")) (t' := .int) (by decide) (by decide)))
  have f_6 : Fld Z h_2 ax "com/example/dead_letter_replay/deadletterreplay/queue/Carries" "risk" "I" (.int z_1.toInt32) := F0_risk.same W_2
  have f_7 : Fld Z h_2 ax "com/example/dead_letter_replay/deadletterreplay/queue/Carries" "first" "Ljava/lang/Long;" .null := F0_first.other W_2 (Or.inr (slot_ne (Or.inl (wdOf hw 88 rfl)) (Or.inl (wdOf hw 70 rfl)) (by decide) (t := (.object "java/lang/Long")) (t' := .int) (by decide) (by decide)))
  have f_8 : Fld Z h_2 ax "com/example/dead_letter_replay/deadletterreplay/queue/Carries" "held" "Z" (.int hv) := F0_held.other W_2 (Or.inr (slot_ne (Or.inl (wdOf hw 109 rfl)) (Or.inl (wdOf hw 70 rfl)) (by decide) (t := .boolean) (t' := .int) (by decide) (by decide)))
  have f_9 : Exa Z h_2 bx "com/example/dead_letter_replay/deadletterreplay/queue/Carries$Carried" := Eb.wr W_2
  have f_10 : Fld Z h_2 bx "com/example/dead_letter_replay/deadletterreplay/queue/Carries$Carried" "from" "Ljava/lang/Long;" (.ref xl) := Fb_from.other W_2 (Or.inl nb)
  have f_11 : Fld Z h_2 bx "com/example/dead_letter_replay/deadletterreplay/queue/Carries$Carried" "era" "J" (.long xe) := Fb_era.other W_2 (Or.inl nb)
  have f_12 : Exa Z h_2 xl "java/lang/Long" := El.wr W_2
  have f_13 : Fld Z h_2 xl "java/lang/Long" "value" "J" (.long xv) := Fl.other W_2 (Or.inl nl)
  have f_14 : Old Z n0 h_2 := O.wr W_2 o0
  have K_15 : Keep h0 h_2 [ax] := K0.wr W_2 (Or.inl (List.mem_of_getElem? (i := 0) rfl))
  have y_15 : n0 ≤ h_2.size := Nat.le_trans Z0 K_15.1
  refine Goes.go (U' := (T_2.setTop (mkF m 26 #[.val (.ref ax), .val (.ref bx)] []))) st_2 ?_
  refine Goes.go (U' := (T_2.setTop (mkF m 28 #[.val (.ref ax), .val (.ref bx)] [(.ref bx), (.ref ax)]))) (fun t kt => ?_) ?_
  · show Steps p.tables e below (T_2.setTop (mkF m 26 #[.val (.ref ax), .val (.ref bx)] [])) t
    refine XS.aloadN X_2.here hx rfl (hb hby d_rm_cr_26) rfl rfl ?_
    show Steps p.tables e below (T_2.setTop (mkF m 27 #[.val (.ref ax), .val (.ref bx)] [(.ref ax)])) t
    refine XS.aloadN X_2.here hx rfl (hb hby d_rm_cr_27) rfl rfl ?_
    exact kt
  obtain ⟨T_16, h_16, X_16, e_16, W_16, st_16⟩ := putF X_2 hx hZ hown (host := "") (Or.inl (wdOf hw 58 rfl)) Via.refl e_2 f_5 f_3 (Or.inl (wdOf hw 59 rfl)) (wdOf hw 1 rfl) (ty := (.object "com/example/dead_letter_replay/deadletterreplay/queue/Carries$Carried")) (by decide) rfl rfl (g := (mkF m 28 #[.val (.ref ax), .val (.ref bx)] [(.ref bx), (.ref ax)])) rfl rfl (hb hby d_rm_cr_28)
  have N_16 := Fr.snoc X_16 N_2 o0
  have f_17 : Exa Z h_16 ax "com/example/dead_letter_replay/deadletterreplay/queue/Carries" := f_3.wr W_16
  have f_18 : Fld Z h_16 ax "com/example/dead_letter_replay/deadletterreplay/queue/Carries" "since" "I" (.int sv) := f_4.other W_16 (Or.inr (slot_ne (Or.inl (wdOf hw 15 rfl)) (Or.inl (wdOf hw 59 rfl)) (by decide) (t := .int) (t' := (.object "com/example/dead_letter_replay/deadletterreplay/queue/Carries$Carried")) (by decide) (by decide)))
  have f_19 : Fld Z h_16 ax "com/example/dead_letter_replay/deadletterreplay/queue/Carries" "last" "Lcom/example/dead_letter_replay/deadletterreplay/queue/Carries$Carried;" (.ref bx) := f_5.same W_16
  have f_20 : Fld Z h_16 ax "com/example/dead_letter_replay/deadletterreplay/queue/Carries" "risk" "I" (.int z_1.toInt32) := f_6.other W_16 (Or.inr (slot_ne (Or.inl (wdOf hw 70 rfl)) (Or.inl (wdOf hw 59 rfl)) (by decide) (t := .int) (t' := (.object "com/example/dead_letter_replay/deadletterreplay/queue/Carries$Carried")) (by decide) (by decide)))
  have f_21 : Fld Z h_16 ax "com/example/dead_letter_replay/deadletterreplay/queue/Carries" "first" "Ljava/lang/Long;" .null := f_7.other W_16 (Or.inr (slot_ne (Or.inl (wdOf hw 88 rfl)) (Or.inl (wdOf hw 59 rfl)) (by decide) (t := (.object "java/lang/Long")) (t' := (.object "com/example/dead_letter_replay/deadletterreplay/queue/Carries$Carried")) (by decide) (by decide)))
  have f_22 : Fld Z h_16 ax "com/example/dead_letter_replay/deadletterreplay/queue/Carries" "held" "Z" (.int hv) := f_8.other W_16 (Or.inr (slot_ne (Or.inl (wdOf hw 109 rfl)) (Or.inl (wdOf hw 59 rfl)) (by decide) (t := .boolean) (t' := (.object "com/example/dead_letter_replay/deadletterreplay/queue/Carries$Carried")) (by decide) (by decide)))
  have f_23 : Exa Z h_16 bx "com/example/dead_letter_replay/deadletterreplay/queue/Carries$Carried" := f_9.wr W_16
  have f_24 : Fld Z h_16 bx "com/example/dead_letter_replay/deadletterreplay/queue/Carries$Carried" "from" "Ljava/lang/Long;" (.ref xl) := f_10.other W_16 (Or.inl nb)
  have f_25 : Fld Z h_16 bx "com/example/dead_letter_replay/deadletterreplay/queue/Carries$Carried" "era" "J" (.long xe) := f_11.other W_16 (Or.inl nb)
  have f_26 : Exa Z h_16 xl "java/lang/Long" := f_12.wr W_16
  have f_27 : Fld Z h_16 xl "java/lang/Long" "value" "J" (.long xv) := f_13.other W_16 (Or.inl nl)
  have f_28 : Old Z n0 h_16 := f_14.wr W_16 o0
  have K_29 : Keep h0 h_16 [ax] := K_15.wr W_16 (Or.inl (List.mem_of_getElem? (i := 0) rfl))
  have y_29 : n0 ≤ h_16.size := Nat.le_trans Z0 K_29.1
  refine Goes.go (U' := (T_16.setTop (mkF m 31 #[.val (.ref ax), .val (.ref bx)] []))) st_16 ?_
  refine Goes.go (U' := (T_16.setTop (mkF m 32 #[.val (.ref ax), .val (.ref bx)] [(.ref ax)]))) (fun t kt => ?_) ?_
  · show Steps p.tables e below (T_16.setTop (mkF m 31 #[.val (.ref ax), .val (.ref bx)] [])) t
    refine XS.aloadN X_16.here hx rfl (hb hby d_rm_cr_31) rfl rfl ?_
    exact kt
  obtain ⟨T_30, X_30, e_30, st_30⟩ := getF X_16 hx hZ hown (host := "") (Or.inl (wdOf hw 87 rfl)) Via.refl e_16 f_21 (g := (mkF m 32 #[.val (.ref ax), .val (.ref bx)] [(.ref ax)])) rfl rfl (hb hby d_rm_cr_32)
  refine Goes.go (U' := (T_30.setTop (mkF m 35 #[.val (.ref ax), .val (.ref bx)] [.null]))) st_30 ?_
  refine Goes.go (U' := (T_30.setTop (mkF m 40 #[.val (.ref ax), .val (.ref bx)] [(.ref bx), (.ref ax)]))) (fun t kt => ?_) ?_
  · show Steps p.tables e below (T_30.setTop (mkF m 35 #[.val (.ref ax), .val (.ref bx)] [.null])) t
    refine XS.ifnonnullNo X_30.here hx rfl (hb hby d_rm_cr_35) rfl ?_
    show Steps p.tables e below (T_30.setTop (mkF m 38 #[.val (.ref ax), .val (.ref bx)] [])) t
    refine XS.aloadN X_30.here hx rfl (hb hby d_rm_cr_38) rfl rfl ?_
    show Steps p.tables e below (T_30.setTop (mkF m 39 #[.val (.ref ax), .val (.ref bx)] [(.ref ax)])) t
    refine XS.aloadN X_30.here hx rfl (hb hby d_rm_cr_39) rfl rfl ?_
    exact kt
  obtain ⟨v_31, T_31, L_31, X_31, q_31, st_31⟩ := callVirtual X_30 hx hZ (y := (⟨"com/example/dead_letter_replay/deadletterreplay/queue/Carries$Carried", "era", "()J"⟩ : MethodName)) (z := (⟨"com/example/dead_letter_replay/deadletterreplay/queue/Carries$Carried", "era", "()J"⟩ : MethodName)) (W := 1) hown (wdOf hw 71 rfl) (wdOf hw 72 rfl) (notFace_of_selects (args := #[]) (mvT hZ (wdOf hw 74 rfl))) (wdOf hw 74 rfl) (wdOf hw 73 rfl) (wdOf hw 23 rfl) (wdOf hw 75 rfl) (by decide) (rm_era l Z a0 hw [] bx xe h_16 n0 y_29 f_25) (by decide) (by decide) (by decide) (by decide) e_30 f_23 (g := (mkF m 40 #[.val (.ref ax), .val (.ref bx)] [(.ref bx), (.ref ax)])) rfl (by rw [hml]; rfl) (argsL := []) (rest := [(.ref ax)]) (lenOf pd_4 rfl) rfl rfl (Nat.le_refl _) (hb hby d_rm_cr_40)
  obtain ⟨rfl, n_31, K_31⟩ := q_31
  have N_31 := Fr.app N_16 n_31
  refine Goes.go (U' := (T_31.setTop (mkF m 43 #[.val (.ref ax), .val (.ref bx)] [(.long xe), (.ref ax)]))) st_31 ?_
  obtain ⟨v_32, T_32, L_32, X_32, q_32, st_32⟩ := callStatic X_31 hx hZ (y := (⟨"java/lang/Long", "valueOf", "(J)Ljava/lang/Long;"⟩ : MethodName)) (W := 1) hown (wdOf hw 89 rfl) (wdOf hw 25 rfl) (wdOf hw 26 rfl) (wdOf hw 27 rfl) (by decide) (rm_vo l Z a0 hw [] xe h_16 n0 y_29 f_28 BC) (by decide) (by decide) (by decide) (by decide) K_31 (g := (mkF m 43 #[.val (.ref ax), .val (.ref bx)] [(.long xe), (.ref ax)])) rfl (by rw [hml]; rfl) (argsL := [(.long xe)]) (rest := [(.ref ax)]) (lenOf pd_6 rfl) rfl rfl (Nat.le_refl _) (hb hby d_rm_cr_43)
  obtain ⟨r_32, rfl, n_32, K_32, Ev_32, Fv_32⟩ := q_32
  have N_32 := Fr.app N_31 n_32
  have f_33 : Exa Z T_32.heap ax "com/example/dead_letter_replay/deadletterreplay/queue/Carries" := f_17.ext K_32
  have f_34 : Fld Z T_32.heap ax "com/example/dead_letter_replay/deadletterreplay/queue/Carries" "since" "I" (.int sv) := f_18.ext K_32
  have f_35 : Fld Z T_32.heap ax "com/example/dead_letter_replay/deadletterreplay/queue/Carries" "last" "Lcom/example/dead_letter_replay/deadletterreplay/queue/Carries$Carried;" (.ref bx) := f_19.ext K_32
  have f_36 : Fld Z T_32.heap ax "com/example/dead_letter_replay/deadletterreplay/queue/Carries" "risk" "I" (.int z_1.toInt32) := f_20.ext K_32
  have f_37 : Fld Z T_32.heap ax "com/example/dead_letter_replay/deadletterreplay/queue/Carries" "first" "Ljava/lang/Long;" .null := f_21.ext K_32
  have f_38 : Fld Z T_32.heap ax "com/example/dead_letter_replay/deadletterreplay/queue/Carries" "held" "Z" (.int hv) := f_22.ext K_32
  have f_39 : Exa Z T_32.heap bx "com/example/dead_letter_replay/deadletterreplay/queue/Carries$Carried" := f_23.ext K_32
  have f_40 : Fld Z T_32.heap bx "com/example/dead_letter_replay/deadletterreplay/queue/Carries$Carried" "from" "Ljava/lang/Long;" (.ref xl) := f_24.ext K_32
  have f_41 : Fld Z T_32.heap bx "com/example/dead_letter_replay/deadletterreplay/queue/Carries$Carried" "era" "J" (.long xe) := f_25.ext K_32
  have f_42 : Exa Z T_32.heap xl "java/lang/Long" := f_26.ext K_32
  have f_43 : Fld Z T_32.heap xl "java/lang/Long" "value" "J" (.long xv) := f_27.ext K_32
  have f_44 : Old Z n0 T_32.heap := f_28.ext K_32
  have K_45 : Keep h0 T_32.heap [ax] := K_29.ext K_32
  have y_45 : n0 ≤ T_32.heap.size := Nat.le_trans Z0 K_45.1
  refine Goes.go (U' := (T_32.setTop (mkF m 46 #[.val (.ref ax), .val (.ref bx)] [(.ref r_32), (.ref ax)]))) st_32 ?_
  obtain ⟨T_46, h_46, X_46, e_46, W_46, st_46⟩ := putF X_32 hx hZ hown (host := "") (Or.inl (wdOf hw 87 rfl)) Via.refl (rfl : T_32.heap = T_32.heap) f_37 f_33 (Or.inl (wdOf hw 88 rfl)) (wdOf hw 1 rfl) (ty := (.object "java/lang/Long")) (by decide) rfl rfl (g := (mkF m 46 #[.val (.ref ax), .val (.ref bx)] [(.ref r_32), (.ref ax)])) rfl rfl (hb hby d_rm_cr_46)
  have N_46 := Fr.snoc X_46 N_32 o0
  have f_47 : Exa Z h_46 ax "com/example/dead_letter_replay/deadletterreplay/queue/Carries" := f_33.wr W_46
  have f_48 : Fld Z h_46 ax "com/example/dead_letter_replay/deadletterreplay/queue/Carries" "since" "I" (.int sv) := f_34.other W_46 (Or.inr (slot_ne (Or.inl (wdOf hw 15 rfl)) (Or.inl (wdOf hw 88 rfl)) (by decide) (t := .int) (t' := (.object "java/lang/Long")) (by decide) (by decide)))
  have f_49 : Fld Z h_46 ax "com/example/dead_letter_replay/deadletterreplay/queue/Carries" "last" "Lcom/example/dead_letter_replay/deadletterreplay/queue/Carries$Carried;" (.ref bx) := f_35.other W_46 (Or.inr (slot_ne (Or.inl (wdOf hw 59 rfl)) (Or.inl (wdOf hw 88 rfl)) (by decide) (t := (.object "com/example/dead_letter_replay/deadletterreplay/queue/Carries$Carried")) (t' := (.object "java/lang/Long")) (by decide) (by decide)))
  have f_50 : Fld Z h_46 ax "com/example/dead_letter_replay/deadletterreplay/queue/Carries" "risk" "I" (.int z_1.toInt32) := f_36.other W_46 (Or.inr (slot_ne (Or.inl (wdOf hw 70 rfl)) (Or.inl (wdOf hw 88 rfl)) (by decide) (t := .int) (t' := (.object "java/lang/Long")) (by decide) (by decide)))
  have f_51 : Fld Z h_46 ax "com/example/dead_letter_replay/deadletterreplay/queue/Carries" "first" "Ljava/lang/Long;" (.ref r_32) := f_37.same W_46
  have f_52 : Fld Z h_46 ax "com/example/dead_letter_replay/deadletterreplay/queue/Carries" "held" "Z" (.int hv) := f_38.other W_46 (Or.inr (slot_ne (Or.inl (wdOf hw 109 rfl)) (Or.inl (wdOf hw 88 rfl)) (by decide) (t := .boolean) (t' := (.object "java/lang/Long")) (by decide) (by decide)))
  have f_53 : Exa Z h_46 bx "com/example/dead_letter_replay/deadletterreplay/queue/Carries$Carried" := f_39.wr W_46
  have f_54 : Fld Z h_46 bx "com/example/dead_letter_replay/deadletterreplay/queue/Carries$Carried" "from" "Ljava/lang/Long;" (.ref xl) := f_40.other W_46 (Or.inl nb)
  have f_55 : Fld Z h_46 bx "com/example/dead_letter_replay/deadletterreplay/queue/Carries$Carried" "era" "J" (.long xe) := f_41.other W_46 (Or.inl nb)
  have f_56 : Exa Z h_46 xl "java/lang/Long" := f_42.wr W_46
  have f_57 : Fld Z h_46 xl "java/lang/Long" "value" "J" (.long xv) := f_43.other W_46 (Or.inl nl)
  have f_58 : Old Z n0 h_46 := f_44.wr W_46 o0
  have K_59 : Keep h0 h_46 [ax] := K_45.wr W_46 (Or.inl (List.mem_of_getElem? (i := 0) rfl))
  have y_59 : n0 ≤ h_46.size := Nat.le_trans Z0 K_59.1
  refine Goes.go (U' := (T_46.setTop (mkF m 49 #[.val (.ref ax), .val (.ref bx)] []))) st_46 ?_
  refine Goes.go (U' := (T_46.setTop (mkF m 51 #[.val (.ref ax), .val (.ref bx)] [(.int (1 : Int32)), (.ref ax)]))) (fun t kt => ?_) ?_
  · show Steps p.tables e below (T_46.setTop (mkF m 49 #[.val (.ref ax), .val (.ref bx)] [])) t
    refine XS.aloadN X_46.here hx rfl (hb hby d_rm_cr_49) rfl rfl ?_
    show Steps p.tables e below (T_46.setTop (mkF m 50 #[.val (.ref ax), .val (.ref bx)] [(.ref ax)])) t
    refine XS.iconst X_46.here hx rfl (hb hby d_rm_cr_50) ?_
    exact kt
  obtain ⟨T_60, h_60, X_60, e_60, W_60, st_60⟩ := putF X_46 hx hZ hown (host := "") (Or.inl (wdOf hw 14 rfl)) Via.refl e_46 f_48 f_47 (Or.inl (wdOf hw 15 rfl)) (wdOf hw 1 rfl) (ty := .int) (by decide) rfl rfl (g := (mkF m 51 #[.val (.ref ax), .val (.ref bx)] [(.int (1 : Int32)), (.ref ax)])) rfl rfl (hb hby d_rm_cr_51)
  have N_60 := Fr.snoc X_60 N_46 o0
  have f_61 : Exa Z h_60 ax "com/example/dead_letter_replay/deadletterreplay/queue/Carries" := f_47.wr W_60
  have f_62 : Fld Z h_60 ax "com/example/dead_letter_replay/deadletterreplay/queue/Carries" "since" "I" (.int (1 : Int32)) := f_48.same W_60
  have f_63 : Fld Z h_60 ax "com/example/dead_letter_replay/deadletterreplay/queue/Carries" "last" "Lcom/example/dead_letter_replay/deadletterreplay/queue/Carries$Carried;" (.ref bx) := f_49.other W_60 (Or.inr (slot_ne (Or.inl (wdOf hw 59 rfl)) (Or.inl (wdOf hw 15 rfl)) (by decide) (t := (.object "com/example/dead_letter_replay/deadletterreplay/queue/Carries$Carried")) (t' := .int) (by decide) (by decide)))
  have f_64 : Fld Z h_60 ax "com/example/dead_letter_replay/deadletterreplay/queue/Carries" "risk" "I" (.int z_1.toInt32) := f_50.other W_60 (Or.inr (slot_ne (Or.inl (wdOf hw 70 rfl)) (Or.inl (wdOf hw 15 rfl)) (by decide) (t := .int) (t' := .int) (by decide) (by decide)))
  have f_65 : Fld Z h_60 ax "com/example/dead_letter_replay/deadletterreplay/queue/Carries" "first" "Ljava/lang/Long;" (.ref r_32) := f_51.other W_60 (Or.inr (slot_ne (Or.inl (wdOf hw 88 rfl)) (Or.inl (wdOf hw 15 rfl)) (by decide) (t := (.object "java/lang/Long")) (t' := .int) (by decide) (by decide)))
  have f_66 : Fld Z h_60 ax "com/example/dead_letter_replay/deadletterreplay/queue/Carries" "held" "Z" (.int hv) := f_52.other W_60 (Or.inr (slot_ne (Or.inl (wdOf hw 109 rfl)) (Or.inl (wdOf hw 15 rfl)) (by decide) (t := .boolean) (t' := .int) (by decide) (by decide)))
  have f_67 : Exa Z h_60 bx "com/example/dead_letter_replay/deadletterreplay/queue/Carries$Carried" := f_53.wr W_60
  have f_68 : Fld Z h_60 bx "com/example/dead_letter_replay/deadletterreplay/queue/Carries$Carried" "from" "Ljava/lang/Long;" (.ref xl) := f_54.other W_60 (Or.inl nb)
  have f_69 : Fld Z h_60 bx "com/example/dead_letter_replay/deadletterreplay/queue/Carries$Carried" "era" "J" (.long xe) := f_55.other W_60 (Or.inl nb)
  have f_70 : Exa Z h_60 xl "java/lang/Long" := f_56.wr W_60
  have f_71 : Fld Z h_60 xl "java/lang/Long" "value" "J" (.long xv) := f_57.other W_60 (Or.inl nl)
  have f_72 : Old Z n0 h_60 := f_58.wr W_60 o0
  have K_73 : Keep h0 h_60 [ax] := K_59.wr W_60 (Or.inl (List.mem_of_getElem? (i := 0) rfl))
  have y_73 : n0 ≤ h_60.size := Nat.le_trans Z0 K_73.1
  refine Goes.go (U' := (T_60.setTop (mkF m 54 #[.val (.ref ax), .val (.ref bx)] []))) st_60 ?_
  refine Goes.retV X_60 hx hlk hret (hb hby d_rm_cr_54) (by decide) (by decide) ?_
  try rw [e_60]
  exact ⟨_, _, rfl, N_60, K_73, R_1, f_61, f_62, f_63, f_64, f_65, f_66⟩
theorem d_rm_due_0 : decode prog_11_method_2_code 0 = .ok (.aload_n 0, 1) := by decide +kernel
theorem d_rm_due_1 : decode prog_11_method_2_code 1 = .ok (.getfield 7, 3) := by decide +kernel
theorem d_rm_due_4 : decode prog_11_method_2_code 4 = .ok (.ifCond .eq 30, 3) := by decide +kernel
theorem d_rm_due_7 : decode prog_11_method_2_code 7 = .ok (.aload_n 0, 1) := by decide +kernel
theorem d_rm_due_8 : decode prog_11_method_2_code 8 = .ok (.getfield 7, 3) := by decide +kernel
theorem d_rm_due_11 : decode prog_11_method_2_code 11 = .ok (.iconst 1, 1) := by decide +kernel
theorem d_rm_due_12 : decode prog_11_method_2_code 12 = .ok (.iload_n 1, 1) := by decide +kernel
theorem d_rm_due_13 : decode prog_11_method_2_code 13 = .ok (.iconst 2, 1) := by decide +kernel
theorem d_rm_due_14 : decode prog_11_method_2_code 14 = .ok (.idiv, 1) := by decide +kernel
theorem d_rm_due_15 : decode prog_11_method_2_code 15 = .ok (.invokestatic 13, 3) := by decide +kernel
theorem d_rm_due_18 : decode prog_11_method_2_code 18 = .ok (.if_icmp .ge 16, 3) := by decide +kernel
theorem d_rm_due_21 : decode prog_11_method_2_code 21 = .ok (.aload_n 0, 1) := by decide +kernel
theorem d_rm_due_22 : decode prog_11_method_2_code 22 = .ok (.getfield 19, 3) := by decide +kernel
theorem d_rm_due_25 : decode prog_11_method_2_code 25 = .ok (.aload_n 0, 1) := by decide +kernel
theorem d_rm_due_26 : decode prog_11_method_2_code 26 = .ok (.getfield 7, 3) := by decide +kernel
theorem d_rm_due_29 : decode prog_11_method_2_code 29 = .ok (.iadd, 1) := by decide +kernel
theorem d_rm_due_30 : decode prog_11_method_2_code 30 = .ok (.iload_n 1, 1) := by decide +kernel
theorem d_rm_due_31 : decode prog_11_method_2_code 31 = .ok (.if_icmp .lt 7, 3) := by decide +kernel
theorem d_rm_due_34 : decode prog_11_method_2_code 34 = .ok (.iconst 1, 1) := by decide +kernel
theorem d_rm_due_35 : decode prog_11_method_2_code 35 = .ok (.goto 4, 3) := by decide +kernel
theorem d_rm_due_38 : decode prog_11_method_2_code 38 = .ok (.iconst 0, 1) := by decide +kernel
theorem d_rm_due_39 : decode prog_11_method_2_code 39 = .ok (.ireturn, 1) := by decide +kernel
set_option maxHeartbeats 4000000 in
theorem ef_rm_due (m : MethodId) (x0 : Addr) (x1 : Int32)  : entryFrame m #[(.ref x0), (.int x1)] 2 = mkF m 0 #[.val (.ref x0), .val (.int x1)] [] := by first | (simp [entryFrame, mkF, argsToLocals, catR, catN, catI, catJ]; done) | rfl
set_option maxRecDepth 65536 in
set_option maxHeartbeats 40000000 in
theorem rm_due (l : Launch) (Z : State) (a0 : Array Value) (hw : ∀ d ∈ tables_1, d.before a0 Z = true) (ws : List Jvm.Cond) (ax : Addr) (mo sv rv z : Int32) (h0 : Heap) (n0 : Nat) (Z0 : n0 ≤ h0.size) (F0_since : Fld Z h0 ax "com/example/dead_letter_replay/deadletterreplay/queue/Carries" "since" "I" (.int sv)) (F0_risk : Fld Z h0 ax "com/example/dead_letter_replay/deadletterreplay/queue/Carries" "risk" "I" (.int rv)) (hz : z = if sv = 0 ∨ ¬ sv < own_max (1 : Int32) (mo / (2 : Int32)) ∨ ¬ (rv + sv) < mo then 1 else 0) :
    Pays l Z (⟨"com/example/dead_letter_replay/deadletterreplay/queue/Carries", "due", "(I)Z"⟩ : MethodName) prog_11_method_2_code 2 (some .boolean) ws ({ frames := 1, cells := 0, slots := 0, locals := 14 } : Room) #[(.ref ax), (.int mo)] h0 (fun v h L => v = some (.int z) ∧ Fr n0 L ∧ h = h0) := by
  refine Pays.of (plainFor_of_name (by first | (simp [plainName, overriddenIn]; done) | decide +kernel)) ?_
  intro p e s m below meth c s₁ hx hby hml hown hnm hret hlk hZ e0 X0
  have N0 := Fr.nil n0
  have K0 : Keep h0 h0 [] := Keep.refl _ _
  refine Goes.go (U' := (s₁.setTop (mkF m 0 #[.val (.ref ax), .val (.int mo)] []))) (fun t kt => castTop (ef_rm_due m ax mo) kt) ?_
  refine Goes.go (U' := (s₁.setTop (mkF m 1 #[.val (.ref ax), .val (.int mo)] [(.ref ax)]))) (fun t kt => ?_) ?_
  · show Steps p.tables e below (s₁.setTop (mkF m 0 #[.val (.ref ax), .val (.int mo)] [])) t
    refine XS.aloadN X0.here hx rfl (hb hby d_rm_due_0) rfl rfl ?_
    exact kt
  obtain ⟨T_1, X_1, e_1, st_1⟩ := getF X0 hx hZ hown (host := "") (Or.inl (wdOf hw 14 rfl)) Via.refl e0 F0_since (g := (mkF m 1 #[.val (.ref ax), .val (.int mo)] [(.ref ax)])) rfl rfl (hb hby d_rm_due_1)
  refine Goes.go (U' := (T_1.setTop (mkF m 4 #[.val (.ref ax), .val (.int mo)] [(.int sv)]))) st_1 ?_
  by_cases c_2 : sv = 0
  · -- sv = 0
    refine Goes.go (U' := (T_1.setTop (mkF m 39 #[.val (.ref ax), .val (.int mo)] [(.int (1 : Int32))]))) (fun t kt => ?_) ?_
    · show Steps p.tables e below (T_1.setTop (mkF m 4 #[.val (.ref ax), .val (.int mo)] [(.int sv)])) t
      refine XS.ifYes X_1.here hx rfl (pc0 := 4) (pc' := 34) rfl (hb hby d_rm_due_4) rfl (XT.i0_eq_t c_2) (by decide) (by decide) ?_
      show Steps p.tables e below (T_1.setTop (mkF m 34 #[.val (.ref ax), .val (.int mo)] [])) t
      refine XS.iconst X_1.here hx rfl (hb hby d_rm_due_34) ?_
      show Steps p.tables e below (T_1.setTop (mkF m 35 #[.val (.ref ax), .val (.int mo)] [(.int (1 : Int32))])) t
      refine XS.goto X_1.here hx rfl (pc0 := 35) (pc' := 39) rfl (hb hby d_rm_due_35) (by decide) (by decide) ?_
      exact kt
    refine Goes.retB X_1 hx hlk hret (hb hby d_rm_due_39) (by decide) (by decide) ?_
    try rw [e_1]
    exact ⟨by subst hz; first | (rw [if_pos (by simp [c_2])]; rfl) | (rw [if_neg (by simp [c_2])]; rfl), N0, rfl⟩
  · -- not sv = 0
    refine Goes.go (U' := (T_1.setTop (mkF m 8 #[.val (.ref ax), .val (.int mo)] [(.ref ax)]))) (fun t kt => ?_) ?_
    · show Steps p.tables e below (T_1.setTop (mkF m 4 #[.val (.ref ax), .val (.int mo)] [(.int sv)])) t
      refine XS.ifNo X_1.here hx rfl (hb hby d_rm_due_4) rfl (XT.i0_eq_f c_2) ?_
      show Steps p.tables e below (T_1.setTop (mkF m 7 #[.val (.ref ax), .val (.int mo)] [])) t
      refine XS.aloadN X_1.here hx rfl (hb hby d_rm_due_7) rfl rfl ?_
      exact kt
    obtain ⟨T_3, X_3, e_3, st_3⟩ := getF X_1 hx hZ hown (host := "") (Or.inl (wdOf hw 14 rfl)) Via.refl e_1 F0_since (g := (mkF m 8 #[.val (.ref ax), .val (.int mo)] [(.ref ax)])) rfl rfl (hb hby d_rm_due_8)
    refine Goes.go (U' := (T_3.setTop (mkF m 11 #[.val (.ref ax), .val (.int mo)] [(.int sv)]))) st_3 ?_
    refine Goes.go (U' := (T_3.setTop (mkF m 15 #[.val (.ref ax), .val (.int mo)] [(.int (mo / (2 : Int32))), (.int (1 : Int32)), (.int sv)]))) (fun t kt => ?_) ?_
    · show Steps p.tables e below (T_3.setTop (mkF m 11 #[.val (.ref ax), .val (.int mo)] [(.int sv)])) t
      refine XS.iconst X_3.here hx rfl (hb hby d_rm_due_11) ?_
      show Steps p.tables e below (T_3.setTop (mkF m 12 #[.val (.ref ax), .val (.int mo)] [(.int (1 : Int32)), (.int sv)])) t
      refine XS.iloadN X_3.here hx rfl (hb hby d_rm_due_12) rfl ?_
      show Steps p.tables e below (T_3.setTop (mkF m 13 #[.val (.ref ax), .val (.int mo)] [(.int mo), (.int (1 : Int32)), (.int sv)])) t
      refine XS.iconst X_3.here hx rfl (hb hby d_rm_due_13) ?_
      show Steps p.tables e below (T_3.setTop (mkF m 14 #[.val (.ref ax), .val (.int mo)] [(.int (2 : Int32)), (.int mo), (.int (1 : Int32)), (.int sv)])) t
      refine XS.idiv X_3.here hx rfl (hb hby d_rm_due_14) rfl (by decide) ?_
      exact kt
    obtain ⟨v_4, T_4, L_4, X_4, q_4, st_4⟩ := callStatic X_3 hx hZ (y := (⟨"java/lang/Math", "max", "(II)I"⟩ : MethodName)) (W := 1) hown (wdOf hw 92 rfl) (wdOf hw 93 rfl) (wdOf hw 85 rfl) (wdOf hw 94 rfl) (by decide) (rm_max l Z a0 hw [] (1 : Int32) (mo / (2 : Int32)) h0 n0 Z0) (by decide) (by decide) (by decide) (by decide) e_3 (g := (mkF m 15 #[.val (.ref ax), .val (.int mo)] [(.int (mo / (2 : Int32))), (.int (1 : Int32)), (.int sv)])) rfl (by rw [hml]; rfl) (argsL := [(.int (1 : Int32)), (.int (mo / (2 : Int32)))]) (rest := [(.int sv)]) (lenOf pd_7 rfl) rfl rfl (Nat.le_refl _) (hb hby d_rm_due_15)
    obtain ⟨rfl, n_4, K_4⟩ := q_4
    have N_4 := Fr.app N0 n_4
    refine Goes.go (U' := (T_4.setTop (mkF m 18 #[.val (.ref ax), .val (.int mo)] [(.int (own_max (1 : Int32) (mo / (2 : Int32)))), (.int sv)]))) st_4 ?_
    by_cases c_5 : sv < (own_max (1 : Int32) (mo / (2 : Int32)))
    · -- sv < (own_max (1 : Int32) (mo / (2 : Int32)))
      refine Goes.go (U' := (T_4.setTop (mkF m 22 #[.val (.ref ax), .val (.int mo)] [(.ref ax)]))) (fun t kt => ?_) ?_
      · show Steps p.tables e below (T_4.setTop (mkF m 18 #[.val (.ref ax), .val (.int mo)] [(.int (own_max (1 : Int32) (mo / (2 : Int32)))), (.int sv)])) t
        refine XS.icmpNo X_4.here hx rfl (hb hby d_rm_due_18) rfl (XT.ii_ge_f c_5) ?_
        show Steps p.tables e below (T_4.setTop (mkF m 21 #[.val (.ref ax), .val (.int mo)] [])) t
        refine XS.aloadN X_4.here hx rfl (hb hby d_rm_due_21) rfl rfl ?_
        exact kt
      obtain ⟨T_6, X_6, e_6, st_6⟩ := getF X_4 hx hZ hown (host := "") (Or.inl (wdOf hw 69 rfl)) Via.refl K_4 F0_risk (g := (mkF m 22 #[.val (.ref ax), .val (.int mo)] [(.ref ax)])) rfl rfl (hb hby d_rm_due_22)
      refine Goes.go (U' := (T_6.setTop (mkF m 25 #[.val (.ref ax), .val (.int mo)] [(.int rv)]))) st_6 ?_
      refine Goes.go (U' := (T_6.setTop (mkF m 26 #[.val (.ref ax), .val (.int mo)] [(.ref ax), (.int rv)]))) (fun t kt => ?_) ?_
      · show Steps p.tables e below (T_6.setTop (mkF m 25 #[.val (.ref ax), .val (.int mo)] [(.int rv)])) t
        refine XS.aloadN X_6.here hx rfl (hb hby d_rm_due_25) rfl rfl ?_
        exact kt
      obtain ⟨T_7, X_7, e_7, st_7⟩ := getF X_6 hx hZ hown (host := "") (Or.inl (wdOf hw 14 rfl)) Via.refl e_6 F0_since (g := (mkF m 26 #[.val (.ref ax), .val (.int mo)] [(.ref ax), (.int rv)])) rfl rfl (hb hby d_rm_due_26)
      refine Goes.go (U' := (T_7.setTop (mkF m 29 #[.val (.ref ax), .val (.int mo)] [(.int sv), (.int rv)]))) st_7 ?_
      refine Goes.go (U' := (T_7.setTop (mkF m 31 #[.val (.ref ax), .val (.int mo)] [(.int mo), (.int (rv + sv))]))) (fun t kt => ?_) ?_
      · show Steps p.tables e below (T_7.setTop (mkF m 29 #[.val (.ref ax), .val (.int mo)] [(.int sv), (.int rv)])) t
        refine XS.iadd X_7.here hx rfl (hb hby d_rm_due_29) rfl ?_
        show Steps p.tables e below (T_7.setTop (mkF m 30 #[.val (.ref ax), .val (.int mo)] [(.int (rv + sv))])) t
        refine XS.iloadN X_7.here hx rfl (hb hby d_rm_due_30) rfl ?_
        exact kt
      by_cases c_8 : (rv + sv) < mo
      · -- (rv + sv) < mo
        refine Goes.go (U' := (T_7.setTop (mkF m 39 #[.val (.ref ax), .val (.int mo)] [(.int (0 : Int32))]))) (fun t kt => ?_) ?_
        · show Steps p.tables e below (T_7.setTop (mkF m 31 #[.val (.ref ax), .val (.int mo)] [(.int mo), (.int (rv + sv))])) t
          refine XS.icmpYes X_7.here hx rfl (pc0 := 31) (pc' := 38) rfl (hb hby d_rm_due_31) rfl (XT.ii_lt_t c_8) (by decide) (by decide) ?_
          show Steps p.tables e below (T_7.setTop (mkF m 38 #[.val (.ref ax), .val (.int mo)] [])) t
          refine XS.iconst X_7.here hx rfl (hb hby d_rm_due_38) ?_
          exact kt
        refine Goes.retB X_7 hx hlk hret (hb hby d_rm_due_39) (by decide) (by decide) ?_
        try rw [e_7]
        exact ⟨by subst hz; first | (rw [if_pos (by simp [c_2, c_5, c_8])]; rfl) | (rw [if_neg (by simp [c_2, c_5, c_8])]; rfl), N_4, rfl⟩
      · -- not (rv + sv) < mo
        refine Goes.go (U' := (T_7.setTop (mkF m 39 #[.val (.ref ax), .val (.int mo)] [(.int (1 : Int32))]))) (fun t kt => ?_) ?_
        · show Steps p.tables e below (T_7.setTop (mkF m 31 #[.val (.ref ax), .val (.int mo)] [(.int mo), (.int (rv + sv))])) t
          refine XS.icmpNo X_7.here hx rfl (hb hby d_rm_due_31) rfl (XT.ii_lt_f c_8) ?_
          show Steps p.tables e below (T_7.setTop (mkF m 34 #[.val (.ref ax), .val (.int mo)] [])) t
          refine XS.iconst X_7.here hx rfl (hb hby d_rm_due_34) ?_
          show Steps p.tables e below (T_7.setTop (mkF m 35 #[.val (.ref ax), .val (.int mo)] [(.int (1 : Int32))])) t
          refine XS.goto X_7.here hx rfl (pc0 := 35) (pc' := 39) rfl (hb hby d_rm_due_35) (by decide) (by decide) ?_
          exact kt
        refine Goes.retB X_7 hx hlk hret (hb hby d_rm_due_39) (by decide) (by decide) ?_
        try rw [e_7]
        exact ⟨by subst hz; first | (rw [if_pos (by simp [c_2, c_5, c_8])]; rfl) | (rw [if_neg (by simp [c_2, c_5, c_8])]; rfl), N_4, rfl⟩
    · -- not sv < (own_max (1 : Int32) (mo / (2 : Int32)))
      refine Goes.go (U' := (T_4.setTop (mkF m 39 #[.val (.ref ax), .val (.int mo)] [(.int (1 : Int32))]))) (fun t kt => ?_) ?_
      · show Steps p.tables e below (T_4.setTop (mkF m 18 #[.val (.ref ax), .val (.int mo)] [(.int (own_max (1 : Int32) (mo / (2 : Int32)))), (.int sv)])) t
        refine XS.icmpYes X_4.here hx rfl (pc0 := 18) (pc' := 34) rfl (hb hby d_rm_due_18) rfl (XT.ii_ge_t c_5) (by decide) (by decide) ?_
        show Steps p.tables e below (T_4.setTop (mkF m 34 #[.val (.ref ax), .val (.int mo)] [])) t
        refine XS.iconst X_4.here hx rfl (hb hby d_rm_due_34) ?_
        show Steps p.tables e below (T_4.setTop (mkF m 35 #[.val (.ref ax), .val (.int mo)] [(.int (1 : Int32))])) t
        refine XS.goto X_4.here hx rfl (pc0 := 35) (pc' := 39) rfl (hb hby d_rm_due_35) (by decide) (by decide) ?_
        exact kt
      refine Goes.retB X_4 hx hlk hret (hb hby d_rm_due_39) (by decide) (by decide) ?_
      try rw [K_4]
      exact ⟨by subst hz; first | (rw [if_pos (by simp [c_2, c_5])]; rfl) | (rw [if_neg (by simp [c_2, c_5])]; rfl), N_4, rfl⟩
theorem own_s1 {x : Int32} (h : 1 ≤ x.toInt) : ¬ x < (1 : Int32) := by
  rw [Int32.lt_iff_toInt_lt]; show ¬ _ < (1 : Int); omega
theorem own_mx {mo sx : Int32} (h1 : 1 ≤ sx.toInt) (h2 : sx.toInt ≤ 4) : (¬ sx < own_max (1 : Int32) (mo / (2 : Int32))) ↔ mo.toInt ≤ 2 * sx.toInt + 1 := by
  obtain ⟨d1, d2⟩ := c_idiv mo 2 2 rfl (by decide)
  have e1 : (1 : Int32).toInt = 1 := rfl
  simp only [own_max, Int32.lt_iff_toInt_lt]
  split
  · rename_i h
    rw [e1] at h
    by_cases hm : 0 ≤ mo.toInt
    · have := d1 hm; omega
    · have := d2 (by omega); omega
  · rename_i h
    rw [e1] at h
    by_cases hm : 0 ≤ mo.toInt
    · have := d1 hm; rw [e1]; omega
    · have := d2 (by omega); rw [e1]; omega
theorem own_half {mo sx : Int32} (h1 : 1 ≤ sx.toInt) (h2 : sx.toInt ≤ 4) : (((2 : Int64) * sx.toInt64) + (1 : Int64)) < mo.toInt64 ↔ 2 * sx.toInt + 1 < mo.toInt := by
  have e2 : (2 : Int64).toInt = 2 := rfl
  have e1 : (1 : Int64).toInt = 1 := rfl
  have q1 := c_lmul 2 sx.toInt64
  have q2 := c_ladd ((2 : Int64) * sx.toInt64) 1
  rw [c_i2l] at q1
  have r1 := rng64 ((2 : Int64) * sx.toInt64)
  have r2 := rng64 (((2 : Int64) * sx.toInt64) + 1)
  rw [Int64.lt_iff_toInt_lt, c_i2l]
  have r3 := rng32 mo
  rw [e2] at q1
  rw [e1] at q2
  have h3 : ((2 : Int64) * sx.toInt64).toInt = 2 * sx.toInt := by omega
  have h4 : (((2 : Int64) * sx.toInt64) + 1).toInt = 2 * sx.toInt + 1 := by omega
  omega
theorem own_risk {kk pr : Int32} {z1 z2 : Int64} (hk1 : 0 ≤ kk.toInt) (hk2 : kk.toInt ≤ 3)
    (rz : ¬ ((0 : Int32) + kk).toInt64 < z1 ∧ ¬ ((((pr.toInt64) - (1 : Int64)) - (0 : Int64)) + (1 : Int64)) < z1 ∧ (z1 = ((0 : Int32) + kk).toInt64 ∨ z1 = ((((pr.toInt64) - (1 : Int64)) - (0 : Int64)) + (1 : Int64))))
    (rq : ¬ kk.toInt64 < z2 ∧ ¬ pr.toInt64 < z2 ∧ (z2 = kk.toInt64 ∨ z2 = pr.toInt64)) : z1 = z2 ∧ z1.toInt32.toInt = z2.toInt ∧ -2147483648 ≤ z2.toInt ∧ z2.toInt ≤ 3 := by
  have e0 : (0 : Int32) + kk = kk := by simp
  have e1 : ((((pr.toInt64) - (1 : Int64)) - (0 : Int64)) + (1 : Int64)) = pr.toInt64 := by simp
  rw [e0, e1] at rz
  obtain ⟨a1, a2, a3⟩ := rz
  obtain ⟨b1, b2, b3⟩ := rq
  rw [Int64.lt_iff_toInt_lt, c_i2l] at a1 a2 b1 b2
  have r1 := rng32 pr
  have r2 := rng32 kk
  have e : z1.toInt = z2.toInt := by
    rcases a3 with rfl | rfl <;> rcases b3 with rfl | rfl <;> simp only [c_i2l] at * <;> omega
  have f1 : -2147483648 ≤ z2.toInt ∧ z2.toInt ≤ 3 := by
    rcases b3 with rfl | rfl <;> simp only [c_i2l] at * <;> omega
  have q := c_l2i z1
  have r3 := rng32 z1.toInt32
  exact ⟨Int64.toInt_inj.mp e, by omega, f1.1, f1.2⟩
theorem own_due1 {mo sx : Int32} (h1 : 1 ≤ sx.toInt) (h2 : sx.toInt ≤ 4) (c : ¬ (((2 : Int64) * sx.toInt64) + (1 : Int64)) < mo.toInt64) : ¬ sx < own_max (1 : Int32) (mo / (2 : Int32)) := by
  rw [own_half h1 h2] at c
  exact (own_mx h1 h2).mpr (by omega)
theorem own_full {mo sx : Int32} {z1 z2 : Int64} (h1 : 1 ≤ sx.toInt) (h2 : sx.toInt ≤ 4) (e : z1.toInt32.toInt = z2.toInt) (f1 : -2147483648 ≤ z2.toInt) (f2 : z2.toInt ≤ 3) : ((z2 + sx.toInt64) < mo.toInt64 ↔ z2.toInt + sx.toInt < mo.toInt) ∧ ((z1.toInt32 + sx) < mo ↔ z2.toInt + sx.toInt < mo.toInt) := by
  have q1 := c_ladd z2 sx.toInt64
  rw [c_i2l] at q1
  have r1 := rng64 (z2 + sx.toInt64)
  have q2 := c_iadd z1.toInt32 sx
  have r2 := rng32 (z1.toInt32 + sx)
  rw [Int64.lt_iff_toInt_lt, Int32.lt_iff_toInt_lt, c_i2l]
  constructor <;> omega
theorem own_due2 {kk pr mo sx : Int32} {z1 z2 : Int64} (h1 : 1 ≤ sx.toInt) (h2 : sx.toInt ≤ 4) (hk1 : 0 ≤ kk.toInt) (hk2 : kk.toInt ≤ 3)
    (rz : ¬ ((0 : Int32) + kk).toInt64 < z1 ∧ ¬ ((((pr.toInt64) - (1 : Int64)) - (0 : Int64)) + (1 : Int64)) < z1 ∧ (z1 = ((0 : Int32) + kk).toInt64 ∨ z1 = ((((pr.toInt64) - (1 : Int64)) - (0 : Int64)) + (1 : Int64))))
    (rq : ¬ kk.toInt64 < z2 ∧ ¬ pr.toInt64 < z2 ∧ (z2 = kk.toInt64 ∨ z2 = pr.toInt64)) (c : ¬ (z2 + sx.toInt64) < mo.toInt64) : ¬ (z1.toInt32 + sx) < mo := by
  obtain ⟨-, e, f1, f2⟩ := own_risk hk1 hk2 rz rq
  obtain ⟨g1, g2⟩ := own_full (mo := mo) h1 h2 e f1 f2
  rw [g1] at c; rw [g2]; exact c
theorem own_due3 {kk pr mo sx : Int32} {z1 z2 : Int64} (h1 : 1 ≤ sx.toInt) (h2 : sx.toInt ≤ 4) (hk1 : 0 ≤ kk.toInt) (hk2 : kk.toInt ≤ 3)
    (rz : ¬ ((0 : Int32) + kk).toInt64 < z1 ∧ ¬ ((((pr.toInt64) - (1 : Int64)) - (0 : Int64)) + (1 : Int64)) < z1 ∧ (z1 = ((0 : Int32) + kk).toInt64 ∨ z1 = ((((pr.toInt64) - (1 : Int64)) - (0 : Int64)) + (1 : Int64))))
    (rq : ¬ kk.toInt64 < z2 ∧ ¬ pr.toInt64 < z2 ∧ (z2 = kk.toInt64 ∨ z2 = pr.toInt64)) (c1 : (((2 : Int64) * sx.toInt64) + (1 : Int64)) < mo.toInt64) (c2 : (z2 + sx.toInt64) < mo.toInt64) : ¬ (sx = 0 ∨ ¬ sx < own_max (1 : Int32) (mo / (2 : Int32)) ∨ ¬ (z1.toInt32 + sx) < mo) := by
  obtain ⟨-, e, f1, f2⟩ := own_risk hk1 hk2 rz rq
  obtain ⟨g1, g2⟩ := own_full (mo := mo) h1 h2 e f1 f2
  rw [g1] at c2
  rw [own_half h1 h2] at c1
  rintro (q | q | q)
  · subst q; revert h1; decide
  · have := (own_mx h1 h2).mp q; omega
  · rw [g2] at q; exact q c2
set_option maxRecDepth 65536 in
set_option maxHeartbeats 40000000 in
theorem law_135 (l : Launch) (Z : State) (a0 : Array Value) (hw : ∀ d ∈ tables_1, d.before a0 Z = true) (pm pr pk pj po : Int32) (ax : Addr) (kk sx : Int32) (z1 : Int64) (h0 : Heap) (n0 : Nat) (Z0 : n0 ≤ h0.size) (p : Program) (e : Env) (s : State) (m : MethodId) (below : List Frame) (meth : Method) (c : Code) (hx : p.tables.exec = Jvm.exec) (hby : c.code = code) (hml : c.maxLocals = maxLocals) (hown : s.vm.findClass "com/example/dead_letter_replay/deadletterreplay/queue/CarriesDuePinLaw" = some m.cls) (hnm : meth.name = "law") (hret : meth.sig.returnType = ret) (hlk : meth.locks = false) (hZ : Z.Warmed39 s.vm) (h : Heap) (T : State) (locs : List Loc) (X : Stand p l e room_1 s m #[(.int pm), (.int pr), (.int pk), (.int pj), (.int po)] below meth c T locs 4 11) (eT : T.heap = h) (N : Fr n0 locs) (K0 : Keep h0 h []) (hs1 : 1 ≤ sx.toInt) (hs2 : sx.toInt ≤ 4) (hk1 : 0 ≤ kk.toInt) (hk2 : kk.toInt ≤ 3) (rz : ¬ ((0 : Int32) + kk).toInt64 < z1 ∧ ¬ ((((pr.toInt64) - (1 : Int64)) - (0 : Int64)) + (1 : Int64)) < z1 ∧ (z1 = ((0 : Int32) + kk).toInt64 ∨ z1 = ((((pr.toInt64) - (1 : Int64)) - (0 : Int64)) + (1 : Int64)))) (E0 : Exa Z h ax "com/example/dead_letter_replay/deadletterreplay/queue/Carries") (F0_since : Fld Z h ax "com/example/dead_letter_replay/deadletterreplay/queue/Carries" "since" "I" (.int sx)) (F0_risk : Fld Z h ax "com/example/dead_letter_replay/deadletterreplay/queue/Carries" "risk" "I" (.int z1.toInt32)) :
    Goes p e s below (fun v h L => v = some (.int 1) ∧ Fr n0 L) room_1.cells room_1.slots (T.setTop (mkF m 135 #[.val (.int pm), .val (.int pr), .val (.int pk), .val (.int pj), .val (.int po), .val (.ref ax), .val (.int kk), .val (.int sx), .unset, .unset, .unset, .unset, .unset] [])) := by
  have sz0 : n0 ≤ h.size := Nat.le_trans Z0 K0.1
  refine Goes.go (U' := (T.setTop (mkF m 140 #[.val (.int pm), .val (.int pr), .val (.int pk), .val (.int pj), .val (.int po), .val (.ref ax), .val (.int kk), .val (.int sx), .unset, .unset, .unset, .unset, .unset] [(.long (pr.toInt64)), (.long (kk.toInt64))]))) (fun t kt => ?_) ?_
  · show Steps p.tables e below (T.setTop (mkF m 135 #[.val (.int pm), .val (.int pr), .val (.int pk), .val (.int pj), .val (.int po), .val (.ref ax), .val (.int kk), .val (.int sx), .unset, .unset, .unset, .unset, .unset] [])) t
    refine XS.iload X.here hx rfl (hb hby at_135) rfl ?_
    show Steps p.tables e below (T.setTop (mkF m 137 #[.val (.int pm), .val (.int pr), .val (.int pk), .val (.int pj), .val (.int po), .val (.ref ax), .val (.int kk), .val (.int sx), .unset, .unset, .unset, .unset, .unset] [(.int kk)])) t
    refine XS.i2l X.here hx rfl (hb hby at_137) rfl ?_
    show Steps p.tables e below (T.setTop (mkF m 138 #[.val (.int pm), .val (.int pr), .val (.int pk), .val (.int pj), .val (.int po), .val (.ref ax), .val (.int kk), .val (.int sx), .unset, .unset, .unset, .unset, .unset] [(.long (kk.toInt64))])) t
    refine XS.iloadN X.here hx rfl (hb hby at_138) rfl ?_
    show Steps p.tables e below (T.setTop (mkF m 139 #[.val (.int pm), .val (.int pr), .val (.int pk), .val (.int pj), .val (.int po), .val (.ref ax), .val (.int kk), .val (.int sx), .unset, .unset, .unset, .unset, .unset] [(.int pr), (.long (kk.toInt64))])) t
    refine XS.i2l X.here hx rfl (hb hby at_139) rfl ?_
    exact kt
  obtain ⟨v_1, T_1, L_1, X_1, q_1, st_1⟩ := callStatic X hx hZ (y := (⟨"java/lang/Math", "min", "(JJ)J"⟩ : MethodName)) (W := 0) hown (wdOf hw 90 rfl) (wdOf hw 84 rfl) (wdOf hw 85 rfl) (wdOf hw 86 rfl) (by decide) (rm_min l Z a0 hw [] (kk.toInt64) (pr.toInt64) h n0 sz0) (by decide) (by decide) (by decide) (by decide) eT (g := (mkF m 140 #[.val (.int pm), .val (.int pr), .val (.int pk), .val (.int pj), .val (.int po), .val (.ref ax), .val (.int kk), .val (.int sx), .unset, .unset, .unset, .unset, .unset] [(.long (pr.toInt64)), (.long (kk.toInt64))])) rfl (by rw [hml]; rfl) (argsL := [(.long (kk.toInt64)), (.long (pr.toInt64))]) (rest := []) (lenOf pd_5 rfl) rfl rfl (Nat.le_refl _) (hb hby at_140)
  obtain ⟨z2, rfl, n_1, K_1, R_1⟩ := q_1
  have N_1 := Fr.app N n_1
  refine Goes.go (U' := (T_1.setTop (mkF m 143 #[.val (.int pm), .val (.int pr), .val (.int pk), .val (.int pj), .val (.int po), .val (.ref ax), .val (.int kk), .val (.int sx), .unset, .unset, .unset, .unset, .unset] [(.long z2)]))) st_1 ?_
  refine Goes.go (U' := (T_1.setTop (mkF m 163 #[.val (.int pm), .val (.int pr), .val (.int pk), .val (.int pj), .val (.int po), .val (.ref ax), .val (.int kk), .val (.int sx), .val (.long z2), .second, .unset, .unset, .unset] [(.int (XT.cmpL (((2 : Int64) * (sx.toInt64)) + (1 : Int64)) (pm.toInt64)))]))) (fun t kt => ?_) ?_
  · show Steps p.tables e below (T_1.setTop (mkF m 143 #[.val (.int pm), .val (.int pr), .val (.int pk), .val (.int pj), .val (.int po), .val (.ref ax), .val (.int kk), .val (.int sx), .unset, .unset, .unset, .unset, .unset] [(.long z2)])) t
    refine XS.lstore X_1.here hx rfl (hb hby at_143) rfl (l' := #[.val (.int pm), .val (.int pr), .val (.int pk), .val (.int pj), .val (.int po), .val (.ref ax), .val (.int kk), .val (.int sx), .val (.long z2), .second, .unset, .unset, .unset]) rfl ?_
    show Steps p.tables e below (T_1.setTop (mkF m 145 #[.val (.int pm), .val (.int pr), .val (.int pk), .val (.int pj), .val (.int po), .val (.ref ax), .val (.int kk), .val (.int sx), .val (.long z2), .second, .unset, .unset, .unset] [])) t
    refine XS.iload X_1.here hx rfl (hb hby at_145) rfl ?_
    show Steps p.tables e below (T_1.setTop (mkF m 147 #[.val (.int pm), .val (.int pr), .val (.int pk), .val (.int pj), .val (.int po), .val (.ref ax), .val (.int kk), .val (.int sx), .val (.long z2), .second, .unset, .unset, .unset] [(.int sx)])) t
    refine XS.iconst X_1.here hx rfl (hb hby at_147) ?_
    show Steps p.tables e below (T_1.setTop (mkF m 148 #[.val (.int pm), .val (.int pr), .val (.int pk), .val (.int pj), .val (.int po), .val (.ref ax), .val (.int kk), .val (.int sx), .val (.long z2), .second, .unset, .unset, .unset] [(.int (1 : Int32)), (.int sx)])) t
    refine XS.icmpNo X_1.here hx rfl (hb hby at_148) rfl (XT.ii_lt_f (own_s1 hs1)) ?_
    show Steps p.tables e below (T_1.setTop (mkF m 151 #[.val (.int pm), .val (.int pr), .val (.int pk), .val (.int pj), .val (.int po), .val (.ref ax), .val (.int kk), .val (.int sx), .val (.long z2), .second, .unset, .unset, .unset] [])) t
    refine Jvm.Stand.ldc2J X_1 hx hown (mvT hZ (wdOf hw 91 rfl)) rfl (hb hby at_151) ?_
    show Steps p.tables e below (T_1.setTop (mkF m 154 #[.val (.int pm), .val (.int pr), .val (.int pk), .val (.int pj), .val (.int po), .val (.ref ax), .val (.int kk), .val (.int sx), .val (.long z2), .second, .unset, .unset, .unset] [(.long (2 : Int64))])) t
    refine XS.iload X_1.here hx rfl (hb hby at_154) rfl ?_
    show Steps p.tables e below (T_1.setTop (mkF m 156 #[.val (.int pm), .val (.int pr), .val (.int pk), .val (.int pj), .val (.int po), .val (.ref ax), .val (.int kk), .val (.int sx), .val (.long z2), .second, .unset, .unset, .unset] [(.int sx), (.long (2 : Int64))])) t
    refine XS.i2l X_1.here hx rfl (hb hby at_156) rfl ?_
    show Steps p.tables e below (T_1.setTop (mkF m 157 #[.val (.int pm), .val (.int pr), .val (.int pk), .val (.int pj), .val (.int po), .val (.ref ax), .val (.int kk), .val (.int sx), .val (.long z2), .second, .unset, .unset, .unset] [(.long (sx.toInt64)), (.long (2 : Int64))])) t
    refine XS.lmul X_1.here hx rfl (hb hby at_157) rfl ?_
    show Steps p.tables e below (T_1.setTop (mkF m 158 #[.val (.int pm), .val (.int pr), .val (.int pk), .val (.int pj), .val (.int po), .val (.ref ax), .val (.int kk), .val (.int sx), .val (.long z2), .second, .unset, .unset, .unset] [(.long ((2 : Int64) * (sx.toInt64)))])) t
    refine XS.lconst X_1.here hx rfl (hb hby at_158) ?_
    show Steps p.tables e below (T_1.setTop (mkF m 159 #[.val (.int pm), .val (.int pr), .val (.int pk), .val (.int pj), .val (.int po), .val (.ref ax), .val (.int kk), .val (.int sx), .val (.long z2), .second, .unset, .unset, .unset] [(.long (1 : Int64)), (.long ((2 : Int64) * (sx.toInt64)))])) t
    refine XS.ladd X_1.here hx rfl (hb hby at_159) rfl ?_
    show Steps p.tables e below (T_1.setTop (mkF m 160 #[.val (.int pm), .val (.int pr), .val (.int pk), .val (.int pj), .val (.int po), .val (.ref ax), .val (.int kk), .val (.int sx), .val (.long z2), .second, .unset, .unset, .unset] [(.long (((2 : Int64) * (sx.toInt64)) + (1 : Int64)))])) t
    refine XS.iloadN X_1.here hx rfl (hb hby at_160) rfl ?_
    show Steps p.tables e below (T_1.setTop (mkF m 161 #[.val (.int pm), .val (.int pr), .val (.int pk), .val (.int pj), .val (.int po), .val (.ref ax), .val (.int kk), .val (.int sx), .val (.long z2), .second, .unset, .unset, .unset] [(.int pm), (.long (((2 : Int64) * (sx.toInt64)) + (1 : Int64)))])) t
    refine XS.i2l X_1.here hx rfl (hb hby at_161) rfl ?_
    show Steps p.tables e below (T_1.setTop (mkF m 162 #[.val (.int pm), .val (.int pr), .val (.int pk), .val (.int pj), .val (.int po), .val (.ref ax), .val (.int kk), .val (.int sx), .val (.long z2), .second, .unset, .unset, .unset] [(.long (pm.toInt64)), (.long (((2 : Int64) * (sx.toInt64)) + (1 : Int64)))])) t
    refine XT.lcmp X_1.here hx rfl (hb hby at_162) rfl ?_
    exact kt
  by_cases c_2 : (((2 : Int64) * (sx.toInt64)) + (1 : Int64)) < (pm.toInt64)
  · -- (((2 : Int64) * (sx.toInt64)) + (1 : Int64)) < (pm.toInt64)
    refine Goes.go (U' := (T_1.setTop (mkF m 182 #[.val (.int pm), .val (.int pr), .val (.int pk), .val (.int pj), .val (.int po), .val (.ref ax), .val (.int kk), .val (.int sx), .val (.long z2), .second, .val (.int (0 : Int32)), .unset, .unset] [(.int (XT.cmpL (z2 + (sx.toInt64)) (pm.toInt64)))]))) (fun t kt => ?_) ?_
    · show Steps p.tables e below (T_1.setTop (mkF m 163 #[.val (.int pm), .val (.int pr), .val (.int pk), .val (.int pj), .val (.int po), .val (.ref ax), .val (.int kk), .val (.int sx), .val (.long z2), .second, .unset, .unset, .unset] [(.int (XT.cmpL (((2 : Int64) * (sx.toInt64)) + (1 : Int64)) (pm.toInt64)))])) t
      refine XS.ifYes X_1.here hx rfl (pc0 := 163) (pc' := 170) rfl (hb hby at_163) rfl (XT.ll_lt_t c_2) (by decide) (by decide) ?_
      show Steps p.tables e below (T_1.setTop (mkF m 170 #[.val (.int pm), .val (.int pr), .val (.int pk), .val (.int pj), .val (.int po), .val (.ref ax), .val (.int kk), .val (.int sx), .val (.long z2), .second, .unset, .unset, .unset] [])) t
      refine XS.iconst X_1.here hx rfl (hb hby at_170) ?_
      show Steps p.tables e below (T_1.setTop (mkF m 171 #[.val (.int pm), .val (.int pr), .val (.int pk), .val (.int pj), .val (.int po), .val (.ref ax), .val (.int kk), .val (.int sx), .val (.long z2), .second, .unset, .unset, .unset] [(.int (0 : Int32))])) t
      refine XS.istore X_1.here hx rfl (hb hby at_171) rfl (l' := #[.val (.int pm), .val (.int pr), .val (.int pk), .val (.int pj), .val (.int po), .val (.ref ax), .val (.int kk), .val (.int sx), .val (.long z2), .second, .val (.int (0 : Int32)), .unset, .unset]) rfl ?_
      show Steps p.tables e below (T_1.setTop (mkF m 173 #[.val (.int pm), .val (.int pr), .val (.int pk), .val (.int pj), .val (.int po), .val (.ref ax), .val (.int kk), .val (.int sx), .val (.long z2), .second, .val (.int (0 : Int32)), .unset, .unset] [])) t
      refine XS.lload X_1.here hx rfl (hb hby at_173) rfl ?_
      show Steps p.tables e below (T_1.setTop (mkF m 175 #[.val (.int pm), .val (.int pr), .val (.int pk), .val (.int pj), .val (.int po), .val (.ref ax), .val (.int kk), .val (.int sx), .val (.long z2), .second, .val (.int (0 : Int32)), .unset, .unset] [(.long z2)])) t
      refine XS.iload X_1.here hx rfl (hb hby at_175) rfl ?_
      show Steps p.tables e below (T_1.setTop (mkF m 177 #[.val (.int pm), .val (.int pr), .val (.int pk), .val (.int pj), .val (.int po), .val (.ref ax), .val (.int kk), .val (.int sx), .val (.long z2), .second, .val (.int (0 : Int32)), .unset, .unset] [(.int sx), (.long z2)])) t
      refine XS.i2l X_1.here hx rfl (hb hby at_177) rfl ?_
      show Steps p.tables e below (T_1.setTop (mkF m 178 #[.val (.int pm), .val (.int pr), .val (.int pk), .val (.int pj), .val (.int po), .val (.ref ax), .val (.int kk), .val (.int sx), .val (.long z2), .second, .val (.int (0 : Int32)), .unset, .unset] [(.long (sx.toInt64)), (.long z2)])) t
      refine XS.ladd X_1.here hx rfl (hb hby at_178) rfl ?_
      show Steps p.tables e below (T_1.setTop (mkF m 179 #[.val (.int pm), .val (.int pr), .val (.int pk), .val (.int pj), .val (.int po), .val (.ref ax), .val (.int kk), .val (.int sx), .val (.long z2), .second, .val (.int (0 : Int32)), .unset, .unset] [(.long (z2 + (sx.toInt64)))])) t
      refine XS.iloadN X_1.here hx rfl (hb hby at_179) rfl ?_
      show Steps p.tables e below (T_1.setTop (mkF m 180 #[.val (.int pm), .val (.int pr), .val (.int pk), .val (.int pj), .val (.int po), .val (.ref ax), .val (.int kk), .val (.int sx), .val (.long z2), .second, .val (.int (0 : Int32)), .unset, .unset] [(.int pm), (.long (z2 + (sx.toInt64)))])) t
      refine XS.i2l X_1.here hx rfl (hb hby at_180) rfl ?_
      show Steps p.tables e below (T_1.setTop (mkF m 181 #[.val (.int pm), .val (.int pr), .val (.int pk), .val (.int pj), .val (.int po), .val (.ref ax), .val (.int kk), .val (.int sx), .val (.long z2), .second, .val (.int (0 : Int32)), .unset, .unset] [(.long (pm.toInt64)), (.long (z2 + (sx.toInt64)))])) t
      refine XT.lcmp X_1.here hx rfl (hb hby at_181) rfl ?_
      exact kt
    by_cases c_3 : (z2 + (sx.toInt64)) < (pm.toInt64)
    · -- (z2 + (sx.toInt64)) < (pm.toInt64)
      refine Goes.go (U' := (T_1.setTop (mkF m 212 #[.val (.int pm), .val (.int pr), .val (.int pk), .val (.int pj), .val (.int po), .val (.ref ax), .val (.int kk), .val (.int sx), .val (.long z2), .second, .val (.int (0 : Int32)), .val (.int (0 : Int32)), .val (.int (0 : Int32))] [(.int pm), (.ref ax)]))) (fun t kt => ?_) ?_
      · show Steps p.tables e below (T_1.setTop (mkF m 182 #[.val (.int pm), .val (.int pr), .val (.int pk), .val (.int pj), .val (.int po), .val (.ref ax), .val (.int kk), .val (.int sx), .val (.long z2), .second, .val (.int (0 : Int32)), .unset, .unset] [(.int (XT.cmpL (z2 + (sx.toInt64)) (pm.toInt64)))])) t
        refine XS.ifYes X_1.here hx rfl (pc0 := 182) (pc' := 189) rfl (hb hby at_182) rfl (XT.ll_lt_t c_3) (by decide) (by decide) ?_
        show Steps p.tables e below (T_1.setTop (mkF m 189 #[.val (.int pm), .val (.int pr), .val (.int pk), .val (.int pj), .val (.int po), .val (.ref ax), .val (.int kk), .val (.int sx), .val (.long z2), .second, .val (.int (0 : Int32)), .unset, .unset] [])) t
        refine XS.iconst X_1.here hx rfl (hb hby at_189) ?_
        show Steps p.tables e below (T_1.setTop (mkF m 190 #[.val (.int pm), .val (.int pr), .val (.int pk), .val (.int pj), .val (.int po), .val (.ref ax), .val (.int kk), .val (.int sx), .val (.long z2), .second, .val (.int (0 : Int32)), .unset, .unset] [(.int (0 : Int32))])) t
        refine XS.istore X_1.here hx rfl (hb hby at_190) rfl (l' := #[.val (.int pm), .val (.int pr), .val (.int pk), .val (.int pj), .val (.int po), .val (.ref ax), .val (.int kk), .val (.int sx), .val (.long z2), .second, .val (.int (0 : Int32)), .val (.int (0 : Int32)), .unset]) rfl ?_
        show Steps p.tables e below (T_1.setTop (mkF m 192 #[.val (.int pm), .val (.int pr), .val (.int pk), .val (.int pj), .val (.int po), .val (.ref ax), .val (.int kk), .val (.int sx), .val (.long z2), .second, .val (.int (0 : Int32)), .val (.int (0 : Int32)), .unset] [])) t
        refine XS.iload X_1.here hx rfl (hb hby at_192) rfl ?_
        show Steps p.tables e below (T_1.setTop (mkF m 194 #[.val (.int pm), .val (.int pr), .val (.int pk), .val (.int pj), .val (.int po), .val (.ref ax), .val (.int kk), .val (.int sx), .val (.long z2), .second, .val (.int (0 : Int32)), .val (.int (0 : Int32)), .unset] [(.int (0 : Int32))])) t
        refine XS.ifNo X_1.here hx rfl (hb hby at_194) rfl (XT.i0_ne_f (by decide)) ?_
        show Steps p.tables e below (T_1.setTop (mkF m 197 #[.val (.int pm), .val (.int pr), .val (.int pk), .val (.int pj), .val (.int po), .val (.ref ax), .val (.int kk), .val (.int sx), .val (.long z2), .second, .val (.int (0 : Int32)), .val (.int (0 : Int32)), .unset] [])) t
        refine XS.iload X_1.here hx rfl (hb hby at_197) rfl ?_
        show Steps p.tables e below (T_1.setTop (mkF m 199 #[.val (.int pm), .val (.int pr), .val (.int pk), .val (.int pj), .val (.int po), .val (.ref ax), .val (.int kk), .val (.int sx), .val (.long z2), .second, .val (.int (0 : Int32)), .val (.int (0 : Int32)), .unset] [(.int (0 : Int32))])) t
        refine XS.ifYes X_1.here hx rfl (pc0 := 199) (pc' := 206) rfl (hb hby at_199) rfl (XT.i0_eq_t (by decide)) (by decide) (by decide) ?_
        show Steps p.tables e below (T_1.setTop (mkF m 206 #[.val (.int pm), .val (.int pr), .val (.int pk), .val (.int pj), .val (.int po), .val (.ref ax), .val (.int kk), .val (.int sx), .val (.long z2), .second, .val (.int (0 : Int32)), .val (.int (0 : Int32)), .unset] [])) t
        refine XS.iconst X_1.here hx rfl (hb hby at_206) ?_
        show Steps p.tables e below (T_1.setTop (mkF m 207 #[.val (.int pm), .val (.int pr), .val (.int pk), .val (.int pj), .val (.int po), .val (.ref ax), .val (.int kk), .val (.int sx), .val (.long z2), .second, .val (.int (0 : Int32)), .val (.int (0 : Int32)), .unset] [(.int (0 : Int32))])) t
        refine XS.istore X_1.here hx rfl (hb hby at_207) rfl (l' := #[.val (.int pm), .val (.int pr), .val (.int pk), .val (.int pj), .val (.int po), .val (.ref ax), .val (.int kk), .val (.int sx), .val (.long z2), .second, .val (.int (0 : Int32)), .val (.int (0 : Int32)), .val (.int (0 : Int32))]) rfl ?_
        show Steps p.tables e below (T_1.setTop (mkF m 209 #[.val (.int pm), .val (.int pr), .val (.int pk), .val (.int pj), .val (.int po), .val (.ref ax), .val (.int kk), .val (.int sx), .val (.long z2), .second, .val (.int (0 : Int32)), .val (.int (0 : Int32)), .val (.int (0 : Int32))] [])) t
        refine XS.aload X_1.here hx rfl (hb hby at_209) rfl rfl ?_
        show Steps p.tables e below (T_1.setTop (mkF m 211 #[.val (.int pm), .val (.int pr), .val (.int pk), .val (.int pj), .val (.int po), .val (.ref ax), .val (.int kk), .val (.int sx), .val (.long z2), .second, .val (.int (0 : Int32)), .val (.int (0 : Int32)), .val (.int (0 : Int32))] [(.ref ax)])) t
        refine XS.iloadN X_1.here hx rfl (hb hby at_211) rfl ?_
        exact kt
      obtain ⟨v_4, T_4, L_4, X_4, q_4, st_4⟩ := callVirtual X_1 hx hZ (y := (⟨"com/example/dead_letter_replay/deadletterreplay/queue/Carries", "due", "(I)Z"⟩ : MethodName)) (z := (⟨"com/example/dead_letter_replay/deadletterreplay/queue/Carries", "due", "(I)Z"⟩ : MethodName)) (W := 0) hown (wdOf hw 9 rfl) (wdOf hw 10 rfl) (notFace_of_selects (args := #[]) (mvT hZ (wdOf hw 12 rfl))) (wdOf hw 12 rfl) (wdOf hw 11 rfl) (wdOf hw 2 rfl) (wdOf hw 13 rfl) (by decide) (rm_due l Z a0 hw [] ax pm sx z1.toInt32 (0 : Int32) h n0 sz0 F0_since F0_risk (by rw [if_neg (own_due3 hs1 hs2 hk1 hk2 rz R_1 c_2 c_3)])) (by decide) (by decide) (by decide) (by decide) K_1 E0 (g := (mkF m 212 #[.val (.int pm), .val (.int pr), .val (.int pk), .val (.int pj), .val (.int po), .val (.ref ax), .val (.int kk), .val (.int sx), .val (.long z2), .second, .val (.int (0 : Int32)), .val (.int (0 : Int32)), .val (.int (0 : Int32))] [(.int pm), (.ref ax)])) rfl (by rw [hml]; rfl) (argsL := [(.int pm)]) (rest := []) (lenOf pd_8 rfl) rfl rfl (Nat.le_refl _) (hb hby at_212)
      obtain ⟨rfl, n_4, K_4⟩ := q_4
      have N_4 := Fr.app N_1 n_4
      refine Goes.go (U' := (T_4.setTop (mkF m 215 #[.val (.int pm), .val (.int pr), .val (.int pk), .val (.int pj), .val (.int po), .val (.ref ax), .val (.int kk), .val (.int sx), .val (.long z2), .second, .val (.int (0 : Int32)), .val (.int (0 : Int32)), .val (.int (0 : Int32))] [(.int (0 : Int32))]))) st_4 ?_
      refine Goes.go (U' := (T_4.setTop (mkF m 225 #[.val (.int pm), .val (.int pr), .val (.int pk), .val (.int pj), .val (.int po), .val (.ref ax), .val (.int kk), .val (.int sx), .val (.long z2), .second, .val (.int (0 : Int32)), .val (.int (0 : Int32)), .val (.int (0 : Int32))] [(.int (1 : Int32))]))) (fun t kt => ?_) ?_
      · show Steps p.tables e below (T_4.setTop (mkF m 215 #[.val (.int pm), .val (.int pr), .val (.int pk), .val (.int pj), .val (.int po), .val (.ref ax), .val (.int kk), .val (.int sx), .val (.long z2), .second, .val (.int (0 : Int32)), .val (.int (0 : Int32)), .val (.int (0 : Int32))] [(.int (0 : Int32))])) t
        refine XS.iload X_4.here hx rfl (hb hby at_215) rfl ?_
        show Steps p.tables e below (T_4.setTop (mkF m 217 #[.val (.int pm), .val (.int pr), .val (.int pk), .val (.int pj), .val (.int po), .val (.ref ax), .val (.int kk), .val (.int sx), .val (.long z2), .second, .val (.int (0 : Int32)), .val (.int (0 : Int32)), .val (.int (0 : Int32))] [(.int (0 : Int32)), (.int (0 : Int32))])) t
        refine XS.icmpNo X_4.here hx rfl (hb hby at_217) rfl (XT.ii_ne_f (by decide)) ?_
        show Steps p.tables e below (T_4.setTop (mkF m 220 #[.val (.int pm), .val (.int pr), .val (.int pk), .val (.int pj), .val (.int po), .val (.ref ax), .val (.int kk), .val (.int sx), .val (.long z2), .second, .val (.int (0 : Int32)), .val (.int (0 : Int32)), .val (.int (0 : Int32))] [])) t
        refine XS.iconst X_4.here hx rfl (hb hby at_220) ?_
        show Steps p.tables e below (T_4.setTop (mkF m 221 #[.val (.int pm), .val (.int pr), .val (.int pk), .val (.int pj), .val (.int po), .val (.ref ax), .val (.int kk), .val (.int sx), .val (.long z2), .second, .val (.int (0 : Int32)), .val (.int (0 : Int32)), .val (.int (0 : Int32))] [(.int (1 : Int32))])) t
        refine XS.goto X_4.here hx rfl (pc0 := 221) (pc' := 225) rfl (hb hby at_221) (by decide) (by decide) ?_
        exact kt
      refine Goes.retB X_4 hx hlk hret (hb hby at_225) (by decide) (by decide) ?_
      try rw [K_4]
      exact ⟨rfl, N_4⟩
    · -- not (z2 + (sx.toInt64)) < (pm.toInt64)
      refine Goes.go (U' := (T_1.setTop (mkF m 212 #[.val (.int pm), .val (.int pr), .val (.int pk), .val (.int pj), .val (.int po), .val (.ref ax), .val (.int kk), .val (.int sx), .val (.long z2), .second, .val (.int (0 : Int32)), .val (.int (1 : Int32)), .val (.int (1 : Int32))] [(.int pm), (.ref ax)]))) (fun t kt => ?_) ?_
      · show Steps p.tables e below (T_1.setTop (mkF m 182 #[.val (.int pm), .val (.int pr), .val (.int pk), .val (.int pj), .val (.int po), .val (.ref ax), .val (.int kk), .val (.int sx), .val (.long z2), .second, .val (.int (0 : Int32)), .unset, .unset] [(.int (XT.cmpL (z2 + (sx.toInt64)) (pm.toInt64)))])) t
        refine XS.ifNo X_1.here hx rfl (hb hby at_182) rfl (XT.ll_lt_f c_3) ?_
        show Steps p.tables e below (T_1.setTop (mkF m 185 #[.val (.int pm), .val (.int pr), .val (.int pk), .val (.int pj), .val (.int po), .val (.ref ax), .val (.int kk), .val (.int sx), .val (.long z2), .second, .val (.int (0 : Int32)), .unset, .unset] [])) t
        refine XS.iconst X_1.here hx rfl (hb hby at_185) ?_
        show Steps p.tables e below (T_1.setTop (mkF m 186 #[.val (.int pm), .val (.int pr), .val (.int pk), .val (.int pj), .val (.int po), .val (.ref ax), .val (.int kk), .val (.int sx), .val (.long z2), .second, .val (.int (0 : Int32)), .unset, .unset] [(.int (1 : Int32))])) t
        refine XS.goto X_1.here hx rfl (pc0 := 186) (pc' := 190) rfl (hb hby at_186) (by decide) (by decide) ?_
        show Steps p.tables e below (T_1.setTop (mkF m 190 #[.val (.int pm), .val (.int pr), .val (.int pk), .val (.int pj), .val (.int po), .val (.ref ax), .val (.int kk), .val (.int sx), .val (.long z2), .second, .val (.int (0 : Int32)), .unset, .unset] [(.int (1 : Int32))])) t
        refine XS.istore X_1.here hx rfl (hb hby at_190) rfl (l' := #[.val (.int pm), .val (.int pr), .val (.int pk), .val (.int pj), .val (.int po), .val (.ref ax), .val (.int kk), .val (.int sx), .val (.long z2), .second, .val (.int (0 : Int32)), .val (.int (1 : Int32)), .unset]) rfl ?_
        show Steps p.tables e below (T_1.setTop (mkF m 192 #[.val (.int pm), .val (.int pr), .val (.int pk), .val (.int pj), .val (.int po), .val (.ref ax), .val (.int kk), .val (.int sx), .val (.long z2), .second, .val (.int (0 : Int32)), .val (.int (1 : Int32)), .unset] [])) t
        refine XS.iload X_1.here hx rfl (hb hby at_192) rfl ?_
        show Steps p.tables e below (T_1.setTop (mkF m 194 #[.val (.int pm), .val (.int pr), .val (.int pk), .val (.int pj), .val (.int po), .val (.ref ax), .val (.int kk), .val (.int sx), .val (.long z2), .second, .val (.int (0 : Int32)), .val (.int (1 : Int32)), .unset] [(.int (0 : Int32))])) t
        refine XS.ifNo X_1.here hx rfl (hb hby at_194) rfl (XT.i0_ne_f (by decide)) ?_
        show Steps p.tables e below (T_1.setTop (mkF m 197 #[.val (.int pm), .val (.int pr), .val (.int pk), .val (.int pj), .val (.int po), .val (.ref ax), .val (.int kk), .val (.int sx), .val (.long z2), .second, .val (.int (0 : Int32)), .val (.int (1 : Int32)), .unset] [])) t
        refine XS.iload X_1.here hx rfl (hb hby at_197) rfl ?_
        show Steps p.tables e below (T_1.setTop (mkF m 199 #[.val (.int pm), .val (.int pr), .val (.int pk), .val (.int pj), .val (.int po), .val (.ref ax), .val (.int kk), .val (.int sx), .val (.long z2), .second, .val (.int (0 : Int32)), .val (.int (1 : Int32)), .unset] [(.int (1 : Int32))])) t
        refine XS.ifNo X_1.here hx rfl (hb hby at_199) rfl (XT.i0_eq_f (by decide)) ?_
        show Steps p.tables e below (T_1.setTop (mkF m 202 #[.val (.int pm), .val (.int pr), .val (.int pk), .val (.int pj), .val (.int po), .val (.ref ax), .val (.int kk), .val (.int sx), .val (.long z2), .second, .val (.int (0 : Int32)), .val (.int (1 : Int32)), .unset] [])) t
        refine XS.iconst X_1.here hx rfl (hb hby at_202) ?_
        show Steps p.tables e below (T_1.setTop (mkF m 203 #[.val (.int pm), .val (.int pr), .val (.int pk), .val (.int pj), .val (.int po), .val (.ref ax), .val (.int kk), .val (.int sx), .val (.long z2), .second, .val (.int (0 : Int32)), .val (.int (1 : Int32)), .unset] [(.int (1 : Int32))])) t
        refine XS.goto X_1.here hx rfl (pc0 := 203) (pc' := 207) rfl (hb hby at_203) (by decide) (by decide) ?_
        show Steps p.tables e below (T_1.setTop (mkF m 207 #[.val (.int pm), .val (.int pr), .val (.int pk), .val (.int pj), .val (.int po), .val (.ref ax), .val (.int kk), .val (.int sx), .val (.long z2), .second, .val (.int (0 : Int32)), .val (.int (1 : Int32)), .unset] [(.int (1 : Int32))])) t
        refine XS.istore X_1.here hx rfl (hb hby at_207) rfl (l' := #[.val (.int pm), .val (.int pr), .val (.int pk), .val (.int pj), .val (.int po), .val (.ref ax), .val (.int kk), .val (.int sx), .val (.long z2), .second, .val (.int (0 : Int32)), .val (.int (1 : Int32)), .val (.int (1 : Int32))]) rfl ?_
        show Steps p.tables e below (T_1.setTop (mkF m 209 #[.val (.int pm), .val (.int pr), .val (.int pk), .val (.int pj), .val (.int po), .val (.ref ax), .val (.int kk), .val (.int sx), .val (.long z2), .second, .val (.int (0 : Int32)), .val (.int (1 : Int32)), .val (.int (1 : Int32))] [])) t
        refine XS.aload X_1.here hx rfl (hb hby at_209) rfl rfl ?_
        show Steps p.tables e below (T_1.setTop (mkF m 211 #[.val (.int pm), .val (.int pr), .val (.int pk), .val (.int pj), .val (.int po), .val (.ref ax), .val (.int kk), .val (.int sx), .val (.long z2), .second, .val (.int (0 : Int32)), .val (.int (1 : Int32)), .val (.int (1 : Int32))] [(.ref ax)])) t
        refine XS.iloadN X_1.here hx rfl (hb hby at_211) rfl ?_
        exact kt
      obtain ⟨v_5, T_5, L_5, X_5, q_5, st_5⟩ := callVirtual X_1 hx hZ (y := (⟨"com/example/dead_letter_replay/deadletterreplay/queue/Carries", "due", "(I)Z"⟩ : MethodName)) (z := (⟨"com/example/dead_letter_replay/deadletterreplay/queue/Carries", "due", "(I)Z"⟩ : MethodName)) (W := 0) hown (wdOf hw 9 rfl) (wdOf hw 10 rfl) (notFace_of_selects (args := #[]) (mvT hZ (wdOf hw 12 rfl))) (wdOf hw 12 rfl) (wdOf hw 11 rfl) (wdOf hw 2 rfl) (wdOf hw 13 rfl) (by decide) (rm_due l Z a0 hw [] ax pm sx z1.toInt32 (1 : Int32) h n0 sz0 F0_since F0_risk (by rw [if_pos (Or.inr (Or.inr (own_due2 hs1 hs2 hk1 hk2 rz R_1 c_3)))])) (by decide) (by decide) (by decide) (by decide) K_1 E0 (g := (mkF m 212 #[.val (.int pm), .val (.int pr), .val (.int pk), .val (.int pj), .val (.int po), .val (.ref ax), .val (.int kk), .val (.int sx), .val (.long z2), .second, .val (.int (0 : Int32)), .val (.int (1 : Int32)), .val (.int (1 : Int32))] [(.int pm), (.ref ax)])) rfl (by rw [hml]; rfl) (argsL := [(.int pm)]) (rest := []) (lenOf pd_8 rfl) rfl rfl (Nat.le_refl _) (hb hby at_212)
      obtain ⟨rfl, n_5, K_5⟩ := q_5
      have N_5 := Fr.app N_1 n_5
      refine Goes.go (U' := (T_5.setTop (mkF m 215 #[.val (.int pm), .val (.int pr), .val (.int pk), .val (.int pj), .val (.int po), .val (.ref ax), .val (.int kk), .val (.int sx), .val (.long z2), .second, .val (.int (0 : Int32)), .val (.int (1 : Int32)), .val (.int (1 : Int32))] [(.int (1 : Int32))]))) st_5 ?_
      refine Goes.go (U' := (T_5.setTop (mkF m 225 #[.val (.int pm), .val (.int pr), .val (.int pk), .val (.int pj), .val (.int po), .val (.ref ax), .val (.int kk), .val (.int sx), .val (.long z2), .second, .val (.int (0 : Int32)), .val (.int (1 : Int32)), .val (.int (1 : Int32))] [(.int (1 : Int32))]))) (fun t kt => ?_) ?_
      · show Steps p.tables e below (T_5.setTop (mkF m 215 #[.val (.int pm), .val (.int pr), .val (.int pk), .val (.int pj), .val (.int po), .val (.ref ax), .val (.int kk), .val (.int sx), .val (.long z2), .second, .val (.int (0 : Int32)), .val (.int (1 : Int32)), .val (.int (1 : Int32))] [(.int (1 : Int32))])) t
        refine XS.iload X_5.here hx rfl (hb hby at_215) rfl ?_
        show Steps p.tables e below (T_5.setTop (mkF m 217 #[.val (.int pm), .val (.int pr), .val (.int pk), .val (.int pj), .val (.int po), .val (.ref ax), .val (.int kk), .val (.int sx), .val (.long z2), .second, .val (.int (0 : Int32)), .val (.int (1 : Int32)), .val (.int (1 : Int32))] [(.int (1 : Int32)), (.int (1 : Int32))])) t
        refine XS.icmpNo X_5.here hx rfl (hb hby at_217) rfl (XT.ii_ne_f (by decide)) ?_
        show Steps p.tables e below (T_5.setTop (mkF m 220 #[.val (.int pm), .val (.int pr), .val (.int pk), .val (.int pj), .val (.int po), .val (.ref ax), .val (.int kk), .val (.int sx), .val (.long z2), .second, .val (.int (0 : Int32)), .val (.int (1 : Int32)), .val (.int (1 : Int32))] [])) t
        refine XS.iconst X_5.here hx rfl (hb hby at_220) ?_
        show Steps p.tables e below (T_5.setTop (mkF m 221 #[.val (.int pm), .val (.int pr), .val (.int pk), .val (.int pj), .val (.int po), .val (.ref ax), .val (.int kk), .val (.int sx), .val (.long z2), .second, .val (.int (0 : Int32)), .val (.int (1 : Int32)), .val (.int (1 : Int32))] [(.int (1 : Int32))])) t
        refine XS.goto X_5.here hx rfl (pc0 := 221) (pc' := 225) rfl (hb hby at_221) (by decide) (by decide) ?_
        exact kt
      refine Goes.retB X_5 hx hlk hret (hb hby at_225) (by decide) (by decide) ?_
      try rw [K_5]
      exact ⟨rfl, N_5⟩
  · -- not (((2 : Int64) * (sx.toInt64)) + (1 : Int64)) < (pm.toInt64)
    refine Goes.go (U' := (T_1.setTop (mkF m 182 #[.val (.int pm), .val (.int pr), .val (.int pk), .val (.int pj), .val (.int po), .val (.ref ax), .val (.int kk), .val (.int sx), .val (.long z2), .second, .val (.int (1 : Int32)), .unset, .unset] [(.int (XT.cmpL (z2 + (sx.toInt64)) (pm.toInt64)))]))) (fun t kt => ?_) ?_
    · show Steps p.tables e below (T_1.setTop (mkF m 163 #[.val (.int pm), .val (.int pr), .val (.int pk), .val (.int pj), .val (.int po), .val (.ref ax), .val (.int kk), .val (.int sx), .val (.long z2), .second, .unset, .unset, .unset] [(.int (XT.cmpL (((2 : Int64) * (sx.toInt64)) + (1 : Int64)) (pm.toInt64)))])) t
      refine XS.ifNo X_1.here hx rfl (hb hby at_163) rfl (XT.ll_lt_f c_2) ?_
      show Steps p.tables e below (T_1.setTop (mkF m 166 #[.val (.int pm), .val (.int pr), .val (.int pk), .val (.int pj), .val (.int po), .val (.ref ax), .val (.int kk), .val (.int sx), .val (.long z2), .second, .unset, .unset, .unset] [])) t
      refine XS.iconst X_1.here hx rfl (hb hby at_166) ?_
      show Steps p.tables e below (T_1.setTop (mkF m 167 #[.val (.int pm), .val (.int pr), .val (.int pk), .val (.int pj), .val (.int po), .val (.ref ax), .val (.int kk), .val (.int sx), .val (.long z2), .second, .unset, .unset, .unset] [(.int (1 : Int32))])) t
      refine XS.goto X_1.here hx rfl (pc0 := 167) (pc' := 171) rfl (hb hby at_167) (by decide) (by decide) ?_
      show Steps p.tables e below (T_1.setTop (mkF m 171 #[.val (.int pm), .val (.int pr), .val (.int pk), .val (.int pj), .val (.int po), .val (.ref ax), .val (.int kk), .val (.int sx), .val (.long z2), .second, .unset, .unset, .unset] [(.int (1 : Int32))])) t
      refine XS.istore X_1.here hx rfl (hb hby at_171) rfl (l' := #[.val (.int pm), .val (.int pr), .val (.int pk), .val (.int pj), .val (.int po), .val (.ref ax), .val (.int kk), .val (.int sx), .val (.long z2), .second, .val (.int (1 : Int32)), .unset, .unset]) rfl ?_
      show Steps p.tables e below (T_1.setTop (mkF m 173 #[.val (.int pm), .val (.int pr), .val (.int pk), .val (.int pj), .val (.int po), .val (.ref ax), .val (.int kk), .val (.int sx), .val (.long z2), .second, .val (.int (1 : Int32)), .unset, .unset] [])) t
      refine XS.lload X_1.here hx rfl (hb hby at_173) rfl ?_
      show Steps p.tables e below (T_1.setTop (mkF m 175 #[.val (.int pm), .val (.int pr), .val (.int pk), .val (.int pj), .val (.int po), .val (.ref ax), .val (.int kk), .val (.int sx), .val (.long z2), .second, .val (.int (1 : Int32)), .unset, .unset] [(.long z2)])) t
      refine XS.iload X_1.here hx rfl (hb hby at_175) rfl ?_
      show Steps p.tables e below (T_1.setTop (mkF m 177 #[.val (.int pm), .val (.int pr), .val (.int pk), .val (.int pj), .val (.int po), .val (.ref ax), .val (.int kk), .val (.int sx), .val (.long z2), .second, .val (.int (1 : Int32)), .unset, .unset] [(.int sx), (.long z2)])) t
      refine XS.i2l X_1.here hx rfl (hb hby at_177) rfl ?_
      show Steps p.tables e below (T_1.setTop (mkF m 178 #[.val (.int pm), .val (.int pr), .val (.int pk), .val (.int pj), .val (.int po), .val (.ref ax), .val (.int kk), .val (.int sx), .val (.long z2), .second, .val (.int (1 : Int32)), .unset, .unset] [(.long (sx.toInt64)), (.long z2)])) t
      refine XS.ladd X_1.here hx rfl (hb hby at_178) rfl ?_
      show Steps p.tables e below (T_1.setTop (mkF m 179 #[.val (.int pm), .val (.int pr), .val (.int pk), .val (.int pj), .val (.int po), .val (.ref ax), .val (.int kk), .val (.int sx), .val (.long z2), .second, .val (.int (1 : Int32)), .unset, .unset] [(.long (z2 + (sx.toInt64)))])) t
      refine XS.iloadN X_1.here hx rfl (hb hby at_179) rfl ?_
      show Steps p.tables e below (T_1.setTop (mkF m 180 #[.val (.int pm), .val (.int pr), .val (.int pk), .val (.int pj), .val (.int po), .val (.ref ax), .val (.int kk), .val (.int sx), .val (.long z2), .second, .val (.int (1 : Int32)), .unset, .unset] [(.int pm), (.long (z2 + (sx.toInt64)))])) t
      refine XS.i2l X_1.here hx rfl (hb hby at_180) rfl ?_
      show Steps p.tables e below (T_1.setTop (mkF m 181 #[.val (.int pm), .val (.int pr), .val (.int pk), .val (.int pj), .val (.int po), .val (.ref ax), .val (.int kk), .val (.int sx), .val (.long z2), .second, .val (.int (1 : Int32)), .unset, .unset] [(.long (pm.toInt64)), (.long (z2 + (sx.toInt64)))])) t
      refine XT.lcmp X_1.here hx rfl (hb hby at_181) rfl ?_
      exact kt
    by_cases c_6 : (z2 + (sx.toInt64)) < (pm.toInt64)
    · -- (z2 + (sx.toInt64)) < (pm.toInt64)
      refine Goes.go (U' := (T_1.setTop (mkF m 212 #[.val (.int pm), .val (.int pr), .val (.int pk), .val (.int pj), .val (.int po), .val (.ref ax), .val (.int kk), .val (.int sx), .val (.long z2), .second, .val (.int (1 : Int32)), .val (.int (0 : Int32)), .val (.int (1 : Int32))] [(.int pm), (.ref ax)]))) (fun t kt => ?_) ?_
      · show Steps p.tables e below (T_1.setTop (mkF m 182 #[.val (.int pm), .val (.int pr), .val (.int pk), .val (.int pj), .val (.int po), .val (.ref ax), .val (.int kk), .val (.int sx), .val (.long z2), .second, .val (.int (1 : Int32)), .unset, .unset] [(.int (XT.cmpL (z2 + (sx.toInt64)) (pm.toInt64)))])) t
        refine XS.ifYes X_1.here hx rfl (pc0 := 182) (pc' := 189) rfl (hb hby at_182) rfl (XT.ll_lt_t c_6) (by decide) (by decide) ?_
        show Steps p.tables e below (T_1.setTop (mkF m 189 #[.val (.int pm), .val (.int pr), .val (.int pk), .val (.int pj), .val (.int po), .val (.ref ax), .val (.int kk), .val (.int sx), .val (.long z2), .second, .val (.int (1 : Int32)), .unset, .unset] [])) t
        refine XS.iconst X_1.here hx rfl (hb hby at_189) ?_
        show Steps p.tables e below (T_1.setTop (mkF m 190 #[.val (.int pm), .val (.int pr), .val (.int pk), .val (.int pj), .val (.int po), .val (.ref ax), .val (.int kk), .val (.int sx), .val (.long z2), .second, .val (.int (1 : Int32)), .unset, .unset] [(.int (0 : Int32))])) t
        refine XS.istore X_1.here hx rfl (hb hby at_190) rfl (l' := #[.val (.int pm), .val (.int pr), .val (.int pk), .val (.int pj), .val (.int po), .val (.ref ax), .val (.int kk), .val (.int sx), .val (.long z2), .second, .val (.int (1 : Int32)), .val (.int (0 : Int32)), .unset]) rfl ?_
        show Steps p.tables e below (T_1.setTop (mkF m 192 #[.val (.int pm), .val (.int pr), .val (.int pk), .val (.int pj), .val (.int po), .val (.ref ax), .val (.int kk), .val (.int sx), .val (.long z2), .second, .val (.int (1 : Int32)), .val (.int (0 : Int32)), .unset] [])) t
        refine XS.iload X_1.here hx rfl (hb hby at_192) rfl ?_
        show Steps p.tables e below (T_1.setTop (mkF m 194 #[.val (.int pm), .val (.int pr), .val (.int pk), .val (.int pj), .val (.int po), .val (.ref ax), .val (.int kk), .val (.int sx), .val (.long z2), .second, .val (.int (1 : Int32)), .val (.int (0 : Int32)), .unset] [(.int (1 : Int32))])) t
        refine XS.ifYes X_1.here hx rfl (pc0 := 194) (pc' := 202) rfl (hb hby at_194) rfl (XT.i0_ne_t (by decide)) (by decide) (by decide) ?_
        show Steps p.tables e below (T_1.setTop (mkF m 202 #[.val (.int pm), .val (.int pr), .val (.int pk), .val (.int pj), .val (.int po), .val (.ref ax), .val (.int kk), .val (.int sx), .val (.long z2), .second, .val (.int (1 : Int32)), .val (.int (0 : Int32)), .unset] [])) t
        refine XS.iconst X_1.here hx rfl (hb hby at_202) ?_
        show Steps p.tables e below (T_1.setTop (mkF m 203 #[.val (.int pm), .val (.int pr), .val (.int pk), .val (.int pj), .val (.int po), .val (.ref ax), .val (.int kk), .val (.int sx), .val (.long z2), .second, .val (.int (1 : Int32)), .val (.int (0 : Int32)), .unset] [(.int (1 : Int32))])) t
        refine XS.goto X_1.here hx rfl (pc0 := 203) (pc' := 207) rfl (hb hby at_203) (by decide) (by decide) ?_
        show Steps p.tables e below (T_1.setTop (mkF m 207 #[.val (.int pm), .val (.int pr), .val (.int pk), .val (.int pj), .val (.int po), .val (.ref ax), .val (.int kk), .val (.int sx), .val (.long z2), .second, .val (.int (1 : Int32)), .val (.int (0 : Int32)), .unset] [(.int (1 : Int32))])) t
        refine XS.istore X_1.here hx rfl (hb hby at_207) rfl (l' := #[.val (.int pm), .val (.int pr), .val (.int pk), .val (.int pj), .val (.int po), .val (.ref ax), .val (.int kk), .val (.int sx), .val (.long z2), .second, .val (.int (1 : Int32)), .val (.int (0 : Int32)), .val (.int (1 : Int32))]) rfl ?_
        show Steps p.tables e below (T_1.setTop (mkF m 209 #[.val (.int pm), .val (.int pr), .val (.int pk), .val (.int pj), .val (.int po), .val (.ref ax), .val (.int kk), .val (.int sx), .val (.long z2), .second, .val (.int (1 : Int32)), .val (.int (0 : Int32)), .val (.int (1 : Int32))] [])) t
        refine XS.aload X_1.here hx rfl (hb hby at_209) rfl rfl ?_
        show Steps p.tables e below (T_1.setTop (mkF m 211 #[.val (.int pm), .val (.int pr), .val (.int pk), .val (.int pj), .val (.int po), .val (.ref ax), .val (.int kk), .val (.int sx), .val (.long z2), .second, .val (.int (1 : Int32)), .val (.int (0 : Int32)), .val (.int (1 : Int32))] [(.ref ax)])) t
        refine XS.iloadN X_1.here hx rfl (hb hby at_211) rfl ?_
        exact kt
      obtain ⟨v_7, T_7, L_7, X_7, q_7, st_7⟩ := callVirtual X_1 hx hZ (y := (⟨"com/example/dead_letter_replay/deadletterreplay/queue/Carries", "due", "(I)Z"⟩ : MethodName)) (z := (⟨"com/example/dead_letter_replay/deadletterreplay/queue/Carries", "due", "(I)Z"⟩ : MethodName)) (W := 0) hown (wdOf hw 9 rfl) (wdOf hw 10 rfl) (notFace_of_selects (args := #[]) (mvT hZ (wdOf hw 12 rfl))) (wdOf hw 12 rfl) (wdOf hw 11 rfl) (wdOf hw 2 rfl) (wdOf hw 13 rfl) (by decide) (rm_due l Z a0 hw [] ax pm sx z1.toInt32 (1 : Int32) h n0 sz0 F0_since F0_risk (by rw [if_pos (Or.inr (Or.inl (own_due1 hs1 hs2 c_2)))])) (by decide) (by decide) (by decide) (by decide) K_1 E0 (g := (mkF m 212 #[.val (.int pm), .val (.int pr), .val (.int pk), .val (.int pj), .val (.int po), .val (.ref ax), .val (.int kk), .val (.int sx), .val (.long z2), .second, .val (.int (1 : Int32)), .val (.int (0 : Int32)), .val (.int (1 : Int32))] [(.int pm), (.ref ax)])) rfl (by rw [hml]; rfl) (argsL := [(.int pm)]) (rest := []) (lenOf pd_8 rfl) rfl rfl (Nat.le_refl _) (hb hby at_212)
      obtain ⟨rfl, n_7, K_7⟩ := q_7
      have N_7 := Fr.app N_1 n_7
      refine Goes.go (U' := (T_7.setTop (mkF m 215 #[.val (.int pm), .val (.int pr), .val (.int pk), .val (.int pj), .val (.int po), .val (.ref ax), .val (.int kk), .val (.int sx), .val (.long z2), .second, .val (.int (1 : Int32)), .val (.int (0 : Int32)), .val (.int (1 : Int32))] [(.int (1 : Int32))]))) st_7 ?_
      refine Goes.go (U' := (T_7.setTop (mkF m 225 #[.val (.int pm), .val (.int pr), .val (.int pk), .val (.int pj), .val (.int po), .val (.ref ax), .val (.int kk), .val (.int sx), .val (.long z2), .second, .val (.int (1 : Int32)), .val (.int (0 : Int32)), .val (.int (1 : Int32))] [(.int (1 : Int32))]))) (fun t kt => ?_) ?_
      · show Steps p.tables e below (T_7.setTop (mkF m 215 #[.val (.int pm), .val (.int pr), .val (.int pk), .val (.int pj), .val (.int po), .val (.ref ax), .val (.int kk), .val (.int sx), .val (.long z2), .second, .val (.int (1 : Int32)), .val (.int (0 : Int32)), .val (.int (1 : Int32))] [(.int (1 : Int32))])) t
        refine XS.iload X_7.here hx rfl (hb hby at_215) rfl ?_
        show Steps p.tables e below (T_7.setTop (mkF m 217 #[.val (.int pm), .val (.int pr), .val (.int pk), .val (.int pj), .val (.int po), .val (.ref ax), .val (.int kk), .val (.int sx), .val (.long z2), .second, .val (.int (1 : Int32)), .val (.int (0 : Int32)), .val (.int (1 : Int32))] [(.int (1 : Int32)), (.int (1 : Int32))])) t
        refine XS.icmpNo X_7.here hx rfl (hb hby at_217) rfl (XT.ii_ne_f (by decide)) ?_
        show Steps p.tables e below (T_7.setTop (mkF m 220 #[.val (.int pm), .val (.int pr), .val (.int pk), .val (.int pj), .val (.int po), .val (.ref ax), .val (.int kk), .val (.int sx), .val (.long z2), .second, .val (.int (1 : Int32)), .val (.int (0 : Int32)), .val (.int (1 : Int32))] [])) t
        refine XS.iconst X_7.here hx rfl (hb hby at_220) ?_
        show Steps p.tables e below (T_7.setTop (mkF m 221 #[.val (.int pm), .val (.int pr), .val (.int pk), .val (.int pj), .val (.int po), .val (.ref ax), .val (.int kk), .val (.int sx), .val (.long z2), .second, .val (.int (1 : Int32)), .val (.int (0 : Int32)), .val (.int (1 : Int32))] [(.int (1 : Int32))])) t
        refine XS.goto X_7.here hx rfl (pc0 := 221) (pc' := 225) rfl (hb hby at_221) (by decide) (by decide) ?_
        exact kt
      refine Goes.retB X_7 hx hlk hret (hb hby at_225) (by decide) (by decide) ?_
      try rw [K_7]
      exact ⟨rfl, N_7⟩
    · -- not (z2 + (sx.toInt64)) < (pm.toInt64)
      refine Goes.go (U' := (T_1.setTop (mkF m 212 #[.val (.int pm), .val (.int pr), .val (.int pk), .val (.int pj), .val (.int po), .val (.ref ax), .val (.int kk), .val (.int sx), .val (.long z2), .second, .val (.int (1 : Int32)), .val (.int (1 : Int32)), .val (.int (1 : Int32))] [(.int pm), (.ref ax)]))) (fun t kt => ?_) ?_
      · show Steps p.tables e below (T_1.setTop (mkF m 182 #[.val (.int pm), .val (.int pr), .val (.int pk), .val (.int pj), .val (.int po), .val (.ref ax), .val (.int kk), .val (.int sx), .val (.long z2), .second, .val (.int (1 : Int32)), .unset, .unset] [(.int (XT.cmpL (z2 + (sx.toInt64)) (pm.toInt64)))])) t
        refine XS.ifNo X_1.here hx rfl (hb hby at_182) rfl (XT.ll_lt_f c_6) ?_
        show Steps p.tables e below (T_1.setTop (mkF m 185 #[.val (.int pm), .val (.int pr), .val (.int pk), .val (.int pj), .val (.int po), .val (.ref ax), .val (.int kk), .val (.int sx), .val (.long z2), .second, .val (.int (1 : Int32)), .unset, .unset] [])) t
        refine XS.iconst X_1.here hx rfl (hb hby at_185) ?_
        show Steps p.tables e below (T_1.setTop (mkF m 186 #[.val (.int pm), .val (.int pr), .val (.int pk), .val (.int pj), .val (.int po), .val (.ref ax), .val (.int kk), .val (.int sx), .val (.long z2), .second, .val (.int (1 : Int32)), .unset, .unset] [(.int (1 : Int32))])) t
        refine XS.goto X_1.here hx rfl (pc0 := 186) (pc' := 190) rfl (hb hby at_186) (by decide) (by decide) ?_
        show Steps p.tables e below (T_1.setTop (mkF m 190 #[.val (.int pm), .val (.int pr), .val (.int pk), .val (.int pj), .val (.int po), .val (.ref ax), .val (.int kk), .val (.int sx), .val (.long z2), .second, .val (.int (1 : Int32)), .unset, .unset] [(.int (1 : Int32))])) t
        refine XS.istore X_1.here hx rfl (hb hby at_190) rfl (l' := #[.val (.int pm), .val (.int pr), .val (.int pk), .val (.int pj), .val (.int po), .val (.ref ax), .val (.int kk), .val (.int sx), .val (.long z2), .second, .val (.int (1 : Int32)), .val (.int (1 : Int32)), .unset]) rfl ?_
        show Steps p.tables e below (T_1.setTop (mkF m 192 #[.val (.int pm), .val (.int pr), .val (.int pk), .val (.int pj), .val (.int po), .val (.ref ax), .val (.int kk), .val (.int sx), .val (.long z2), .second, .val (.int (1 : Int32)), .val (.int (1 : Int32)), .unset] [])) t
        refine XS.iload X_1.here hx rfl (hb hby at_192) rfl ?_
        show Steps p.tables e below (T_1.setTop (mkF m 194 #[.val (.int pm), .val (.int pr), .val (.int pk), .val (.int pj), .val (.int po), .val (.ref ax), .val (.int kk), .val (.int sx), .val (.long z2), .second, .val (.int (1 : Int32)), .val (.int (1 : Int32)), .unset] [(.int (1 : Int32))])) t
        refine XS.ifYes X_1.here hx rfl (pc0 := 194) (pc' := 202) rfl (hb hby at_194) rfl (XT.i0_ne_t (by decide)) (by decide) (by decide) ?_
        show Steps p.tables e below (T_1.setTop (mkF m 202 #[.val (.int pm), .val (.int pr), .val (.int pk), .val (.int pj), .val (.int po), .val (.ref ax), .val (.int kk), .val (.int sx), .val (.long z2), .second, .val (.int (1 : Int32)), .val (.int (1 : Int32)), .unset] [])) t
        refine XS.iconst X_1.here hx rfl (hb hby at_202) ?_
        show Steps p.tables e below (T_1.setTop (mkF m 203 #[.val (.int pm), .val (.int pr), .val (.int pk), .val (.int pj), .val (.int po), .val (.ref ax), .val (.int kk), .val (.int sx), .val (.long z2), .second, .val (.int (1 : Int32)), .val (.int (1 : Int32)), .unset] [(.int (1 : Int32))])) t
        refine XS.goto X_1.here hx rfl (pc0 := 203) (pc' := 207) rfl (hb hby at_203) (by decide) (by decide) ?_
        show Steps p.tables e below (T_1.setTop (mkF m 207 #[.val (.int pm), .val (.int pr), .val (.int pk), .val (.int pj), .val (.int po), .val (.ref ax), .val (.int kk), .val (.int sx), .val (.long z2), .second, .val (.int (1 : Int32)), .val (.int (1 : Int32)), .unset] [(.int (1 : Int32))])) t
        refine XS.istore X_1.here hx rfl (hb hby at_207) rfl (l' := #[.val (.int pm), .val (.int pr), .val (.int pk), .val (.int pj), .val (.int po), .val (.ref ax), .val (.int kk), .val (.int sx), .val (.long z2), .second, .val (.int (1 : Int32)), .val (.int (1 : Int32)), .val (.int (1 : Int32))]) rfl ?_
        show Steps p.tables e below (T_1.setTop (mkF m 209 #[.val (.int pm), .val (.int pr), .val (.int pk), .val (.int pj), .val (.int po), .val (.ref ax), .val (.int kk), .val (.int sx), .val (.long z2), .second, .val (.int (1 : Int32)), .val (.int (1 : Int32)), .val (.int (1 : Int32))] [])) t
        refine XS.aload X_1.here hx rfl (hb hby at_209) rfl rfl ?_
        show Steps p.tables e below (T_1.setTop (mkF m 211 #[.val (.int pm), .val (.int pr), .val (.int pk), .val (.int pj), .val (.int po), .val (.ref ax), .val (.int kk), .val (.int sx), .val (.long z2), .second, .val (.int (1 : Int32)), .val (.int (1 : Int32)), .val (.int (1 : Int32))] [(.ref ax)])) t
        refine XS.iloadN X_1.here hx rfl (hb hby at_211) rfl ?_
        exact kt
      obtain ⟨v_8, T_8, L_8, X_8, q_8, st_8⟩ := callVirtual X_1 hx hZ (y := (⟨"com/example/dead_letter_replay/deadletterreplay/queue/Carries", "due", "(I)Z"⟩ : MethodName)) (z := (⟨"com/example/dead_letter_replay/deadletterreplay/queue/Carries", "due", "(I)Z"⟩ : MethodName)) (W := 0) hown (wdOf hw 9 rfl) (wdOf hw 10 rfl) (notFace_of_selects (args := #[]) (mvT hZ (wdOf hw 12 rfl))) (wdOf hw 12 rfl) (wdOf hw 11 rfl) (wdOf hw 2 rfl) (wdOf hw 13 rfl) (by decide) (rm_due l Z a0 hw [] ax pm sx z1.toInt32 (1 : Int32) h n0 sz0 F0_since F0_risk (by rw [if_pos (Or.inr (Or.inl (own_due1 hs1 hs2 c_2)))])) (by decide) (by decide) (by decide) (by decide) K_1 E0 (g := (mkF m 212 #[.val (.int pm), .val (.int pr), .val (.int pk), .val (.int pj), .val (.int po), .val (.ref ax), .val (.int kk), .val (.int sx), .val (.long z2), .second, .val (.int (1 : Int32)), .val (.int (1 : Int32)), .val (.int (1 : Int32))] [(.int pm), (.ref ax)])) rfl (by rw [hml]; rfl) (argsL := [(.int pm)]) (rest := []) (lenOf pd_8 rfl) rfl rfl (Nat.le_refl _) (hb hby at_212)
      obtain ⟨rfl, n_8, K_8⟩ := q_8
      have N_8 := Fr.app N_1 n_8
      refine Goes.go (U' := (T_8.setTop (mkF m 215 #[.val (.int pm), .val (.int pr), .val (.int pk), .val (.int pj), .val (.int po), .val (.ref ax), .val (.int kk), .val (.int sx), .val (.long z2), .second, .val (.int (1 : Int32)), .val (.int (1 : Int32)), .val (.int (1 : Int32))] [(.int (1 : Int32))]))) st_8 ?_
      refine Goes.go (U' := (T_8.setTop (mkF m 225 #[.val (.int pm), .val (.int pr), .val (.int pk), .val (.int pj), .val (.int po), .val (.ref ax), .val (.int kk), .val (.int sx), .val (.long z2), .second, .val (.int (1 : Int32)), .val (.int (1 : Int32)), .val (.int (1 : Int32))] [(.int (1 : Int32))]))) (fun t kt => ?_) ?_
      · show Steps p.tables e below (T_8.setTop (mkF m 215 #[.val (.int pm), .val (.int pr), .val (.int pk), .val (.int pj), .val (.int po), .val (.ref ax), .val (.int kk), .val (.int sx), .val (.long z2), .second, .val (.int (1 : Int32)), .val (.int (1 : Int32)), .val (.int (1 : Int32))] [(.int (1 : Int32))])) t
        refine XS.iload X_8.here hx rfl (hb hby at_215) rfl ?_
        show Steps p.tables e below (T_8.setTop (mkF m 217 #[.val (.int pm), .val (.int pr), .val (.int pk), .val (.int pj), .val (.int po), .val (.ref ax), .val (.int kk), .val (.int sx), .val (.long z2), .second, .val (.int (1 : Int32)), .val (.int (1 : Int32)), .val (.int (1 : Int32))] [(.int (1 : Int32)), (.int (1 : Int32))])) t
        refine XS.icmpNo X_8.here hx rfl (hb hby at_217) rfl (XT.ii_ne_f (by decide)) ?_
        show Steps p.tables e below (T_8.setTop (mkF m 220 #[.val (.int pm), .val (.int pr), .val (.int pk), .val (.int pj), .val (.int po), .val (.ref ax), .val (.int kk), .val (.int sx), .val (.long z2), .second, .val (.int (1 : Int32)), .val (.int (1 : Int32)), .val (.int (1 : Int32))] [])) t
        refine XS.iconst X_8.here hx rfl (hb hby at_220) ?_
        show Steps p.tables e below (T_8.setTop (mkF m 221 #[.val (.int pm), .val (.int pr), .val (.int pk), .val (.int pj), .val (.int po), .val (.ref ax), .val (.int kk), .val (.int sx), .val (.long z2), .second, .val (.int (1 : Int32)), .val (.int (1 : Int32)), .val (.int (1 : Int32))] [(.int (1 : Int32))])) t
        refine XS.goto X_8.here hx rfl (pc0 := 221) (pc' := 225) rfl (hb hby at_221) (by decide) (by decide) ?_
        exact kt
      refine Goes.retB X_8 hx hlk hret (hb hby at_225) (by decide) (by decide) ?_
      try rw [K_8]
      exact ⟨rfl, N_8⟩
set_option maxRecDepth 65536 in
set_option maxHeartbeats 40000000 in
theorem law_68 (l : Launch) (Z : State) (a0 : Array Value) (hw : ∀ d ∈ tables_1, d.before a0 Z = true) (pm pr pk pj po : Int32) (ax : Addr) (kk : Int32) (h0 : Heap) (n0 : Nat) (Z0 : n0 ≤ h0.size) (p : Program) (e : Env) (s : State) (m : MethodId) (below : List Frame) (meth : Method) (c : Code) (hx : p.tables.exec = Jvm.exec) (hby : c.code = code) (hml : c.maxLocals = maxLocals) (hown : s.vm.findClass "com/example/dead_letter_replay/deadletterreplay/queue/CarriesDuePinLaw" = some m.cls) (hnm : meth.name = "law") (hret : meth.sig.returnType = ret) (hlk : meth.locks = false) (hZ : Z.Warmed39 s.vm) (h : Heap) (T : State) (locs : List Loc) (X : Stand p l e room_1 s m #[(.int pm), (.int pr), (.int pk), (.int pj), (.int po)] below meth c T locs 1 5) (eT : T.heap = h) (N : Fr n0 locs) (K0 : Keep h0 h []) (O : Old Z n0 h) (BC : BoxC Z "java/lang/Long$LongCache" "[Ljava/lang/Long;" "java/lang/Long" "J" (fun i => .long (i.toInt32 - 128).toInt64)) (hk1 : 0 ≤ kk.toInt) (hk2 : kk.toInt ≤ 3) (oa : n0 ≤ ax) (za : h0.size ≤ ax) (E0 : Exa Z h ax "com/example/dead_letter_replay/deadletterreplay/queue/Carries") (F0_since : Fld Z h ax "com/example/dead_letter_replay/deadletterreplay/queue/Carries" "since" "I" (.int kk)) (F0_last : Fld Z h ax "com/example/dead_letter_replay/deadletterreplay/queue/Carries" "last" "Lcom/example/dead_letter_replay/deadletterreplay/queue/Carries$Carried;" .null) (F0_risk : Fld Z h ax "com/example/dead_letter_replay/deadletterreplay/queue/Carries" "risk" "I" (.int (0 : Int32))) (F0_first : Fld Z h ax "com/example/dead_letter_replay/deadletterreplay/queue/Carries" "first" "Ljava/lang/Long;" .null) (F0_held : Fld Z h ax "com/example/dead_letter_replay/deadletterreplay/queue/Carries" "held" "Z" (.int (0 : Int32))) :
    Goes p e s below (fun v h L => v = some (.int 1) ∧ Fr n0 L) room_1.cells room_1.slots (T.setTop (mkF m 68 #[.val (.int pm), .val (.int pr), .val (.int pk), .val (.int pj), .val (.int po), .val (.ref ax), .val (.int kk), .unset, .unset, .unset, .unset, .unset, .unset] [])) := by
  have sz0 : n0 ≤ h.size := Nat.le_trans Z0 K0.1
  refine Goes.go (U' := (T.setTop (mkF m 70 #[.val (.int pm), .val (.int pr), .val (.int pk), .val (.int pj), .val (.int po), .val (.ref ax), .val (.int kk), .unset, .unset, .unset, .unset, .unset, .unset] [(.ref ax)]))) (fun t kt => ?_) ?_
  · show Steps p.tables e below (T.setTop (mkF m 68 #[.val (.int pm), .val (.int pr), .val (.int pk), .val (.int pj), .val (.int po), .val (.ref ax), .val (.int kk), .unset, .unset, .unset, .unset, .unset, .unset] [])) t
    refine XS.aload X.here hx rfl (hb hby at_68) rfl rfl ?_
    exact kt
  obtain ⟨T_1, h_1, X_1, e_1, E_1, A_1, D_1, -, st_1⟩ := newO X hx hZ hown (wdOf hw 21 rfl) (wdOf hw 22 rfl) (wdOf hw 23 rfl) eT (g := (mkF m 70 #[.val (.int pm), .val (.int pr), .val (.int pk), .val (.int pj), .val (.int po), .val (.ref ax), .val (.int kk), .unset, .unset, .unset, .unset, .unset, .unset] [(.ref ax)])) rfl (hb hby at_70) (by decide) (by decide)
  obtain ⟨b_1, g_1⟩ : ∃ z, z = h.size := ⟨_, rfl⟩
  rw [← g_1] at A_1 D_1 st_1
  have ne_2 : ax ≠ b_1 := Nat.ne_of_lt (Nat.lt_of_lt_of_le E0.lt (Nat.le_of_eq g_1.symm))
  have o_1 : n0 ≤ b_1 := Nat.le_trans sz0 (Nat.le_of_eq g_1.symm)
  have z_1 : h0.size ≤ b_1 := Nat.le_trans K0.1 (Nat.le_of_eq g_1.symm)
  have f_3 : Exa Z h_1 ax "com/example/dead_letter_replay/deadletterreplay/queue/Carries" := E0.ext E_1
  have f_4 : Fld Z h_1 ax "com/example/dead_letter_replay/deadletterreplay/queue/Carries" "since" "I" (.int kk) := F0_since.ext E_1
  have f_5 : Fld Z h_1 ax "com/example/dead_letter_replay/deadletterreplay/queue/Carries" "last" "Lcom/example/dead_letter_replay/deadletterreplay/queue/Carries$Carried;" .null := F0_last.ext E_1
  have f_6 : Fld Z h_1 ax "com/example/dead_letter_replay/deadletterreplay/queue/Carries" "risk" "I" (.int (0 : Int32)) := F0_risk.ext E_1
  have f_7 : Fld Z h_1 ax "com/example/dead_letter_replay/deadletterreplay/queue/Carries" "first" "Ljava/lang/Long;" .null := F0_first.ext E_1
  have f_8 : Fld Z h_1 ax "com/example/dead_letter_replay/deadletterreplay/queue/Carries" "held" "Z" (.int (0 : Int32)) := F0_held.ext E_1
  have f_9 : Old Z n0 h_1 := O.ext E_1
  have f_10 : Fld Z h_1 b_1 "com/example/dead_letter_replay/deadletterreplay/queue/Carries$Carried" "from" "Ljava/lang/Long;" .null := D_1 (Or.inr (wdOf hw 42 rfl)) (ty := (.object "java/lang/Long")) (by decide)
  have f_11 : Fld Z h_1 b_1 "com/example/dead_letter_replay/deadletterreplay/queue/Carries$Carried" "era" "J" (.long (0 : Int64)) := D_1 (Or.inr (wdOf hw 44 rfl)) (ty := .long) (by decide)
  have f_12 : Fld Z h_1 b_1 "com/example/dead_letter_replay/deadletterreplay/queue/Carries$Carried" "transaction" "J" (.long (0 : Int64)) := D_1 (Or.inr (wdOf hw 46 rfl)) (ty := .long) (by decide)
  have f_13 : Fld Z h_1 b_1 "com/example/dead_letter_replay/deadletterreplay/queue/Carries$Carried" "backend" "I" (.int (0 : Int32)) := D_1 (Or.inr (wdOf hw 48 rfl)) (ty := .int) (by decide)
  have K_14 : Keep h0 h_1 [] := K0.ext E_1
  have y_14 : n0 ≤ h_1.size := Nat.le_trans Z0 K_14.1
  refine Goes.go (U' := (T_1.setTop (mkF m 73 #[.val (.int pm), .val (.int pr), .val (.int pk), .val (.int pj), .val (.int po), .val (.ref ax), .val (.int kk), .unset, .unset, .unset, .unset, .unset, .unset] [(.ref b_1), (.ref ax)]))) st_1 ?_
  refine Goes.go (U' := (T_1.setTop (mkF m 75 #[.val (.int pm), .val (.int pr), .val (.int pk), .val (.int pj), .val (.int po), .val (.ref ax), .val (.int kk), .unset, .unset, .unset, .unset, .unset, .unset] [(.long (0 : Int64)), (.ref b_1), (.ref b_1), (.ref ax)]))) (fun t kt => ?_) ?_
  · show Steps p.tables e below (T_1.setTop (mkF m 73 #[.val (.int pm), .val (.int pr), .val (.int pk), .val (.int pj), .val (.int po), .val (.ref ax), .val (.int kk), .unset, .unset, .unset, .unset, .unset, .unset] [(.ref b_1), (.ref ax)])) t
    refine XS.dup X_1.here hx rfl (hb hby at_73) rfl rfl ?_
    show Steps p.tables e below (T_1.setTop (mkF m 74 #[.val (.int pm), .val (.int pr), .val (.int pk), .val (.int pj), .val (.int po), .val (.ref ax), .val (.int kk), .unset, .unset, .unset, .unset, .unset, .unset] [(.ref b_1), (.ref b_1), (.ref ax)])) t
    refine XS.lconst X_1.here hx rfl (hb hby at_74) ?_
    exact kt
  obtain ⟨v_15, T_15, L_15, X_15, q_15, st_15⟩ := callStatic X_1 hx hZ (y := (⟨"java/lang/Long", "valueOf", "(J)Ljava/lang/Long;"⟩ : MethodName)) (W := 3) hown (wdOf hw 24 rfl) (wdOf hw 25 rfl) (wdOf hw 26 rfl) (wdOf hw 27 rfl) (by decide) (rm_vo l Z a0 hw [] (0 : Int64) h_1 n0 y_14 f_9 BC) (by decide) (by decide) (by decide) (by decide) e_1 (g := (mkF m 75 #[.val (.int pm), .val (.int pr), .val (.int pk), .val (.int pj), .val (.int po), .val (.ref ax), .val (.int kk), .unset, .unset, .unset, .unset, .unset, .unset] [(.long (0 : Int64)), (.ref b_1), (.ref b_1), (.ref ax)])) rfl (by rw [hml]; rfl) (argsL := [(.long (0 : Int64))]) (rest := [(.ref b_1), (.ref b_1), (.ref ax)]) (lenOf pd_6 rfl) rfl rfl (Nat.le_refl _) (hb hby at_75)
  obtain ⟨r_15, rfl, n_15, K_15, Ev_15, Fv_15⟩ := q_15
  have N_15 := Fr.app N n_15
  have f_16 : Exa Z T_15.heap ax "com/example/dead_letter_replay/deadletterreplay/queue/Carries" := f_3.ext K_15
  have f_17 : Fld Z T_15.heap ax "com/example/dead_letter_replay/deadletterreplay/queue/Carries" "since" "I" (.int kk) := f_4.ext K_15
  have f_18 : Fld Z T_15.heap ax "com/example/dead_letter_replay/deadletterreplay/queue/Carries" "last" "Lcom/example/dead_letter_replay/deadletterreplay/queue/Carries$Carried;" .null := f_5.ext K_15
  have f_19 : Fld Z T_15.heap ax "com/example/dead_letter_replay/deadletterreplay/queue/Carries" "risk" "I" (.int (0 : Int32)) := f_6.ext K_15
  have f_20 : Fld Z T_15.heap ax "com/example/dead_letter_replay/deadletterreplay/queue/Carries" "first" "Ljava/lang/Long;" .null := f_7.ext K_15
  have f_21 : Fld Z T_15.heap ax "com/example/dead_letter_replay/deadletterreplay/queue/Carries" "held" "Z" (.int (0 : Int32)) := f_8.ext K_15
  have f_22 : Old Z n0 T_15.heap := f_9.ext K_15
  have f_23 : Exa Z T_15.heap b_1 "com/example/dead_letter_replay/deadletterreplay/queue/Carries$Carried" := A_1.ext K_15
  have f_24 : Fld Z T_15.heap b_1 "com/example/dead_letter_replay/deadletterreplay/queue/Carries$Carried" "from" "Ljava/lang/Long;" .null := f_10.ext K_15
  have f_25 : Fld Z T_15.heap b_1 "com/example/dead_letter_replay/deadletterreplay/queue/Carries$Carried" "era" "J" (.long (0 : Int64)) := f_11.ext K_15
  have f_26 : Fld Z T_15.heap b_1 "com/example/dead_letter_replay/deadletterreplay/queue/Carries$Carried" "transaction" "J" (.long (0 : Int64)) := f_12.ext K_15
  have f_27 : Fld Z T_15.heap b_1 "com/example/dead_letter_replay/deadletterreplay/queue/Carries$Carried" "backend" "I" (.int (0 : Int32)) := f_13.ext K_15
  have K_28 : Keep h0 T_15.heap [] := K_14.ext K_15
  have y_28 : n0 ≤ T_15.heap.size := Nat.le_trans Z0 K_28.1
  refine Goes.go (U' := (T_15.setTop (mkF m 78 #[.val (.int pm), .val (.int pr), .val (.int pk), .val (.int pj), .val (.int po), .val (.ref ax), .val (.int kk), .unset, .unset, .unset, .unset, .unset, .unset] [(.ref r_15), (.ref b_1), (.ref b_1), (.ref ax)]))) st_15 ?_
  have nlb : r_15 ≠ b_1 := ne_exa Ev_15 f_23 (by decide)
  have nla : r_15 ≠ ax := ne_exa Ev_15 f_16 (by decide)
  refine Goes.go (U' := (T_15.setTop (mkF m 84 #[.val (.int pm), .val (.int pr), .val (.int pk), .val (.int pj), .val (.int po), .val (.ref ax), .val (.int kk), .unset, .unset, .unset, .unset, .unset, .unset] [(.int (0 : Int32)), (.long (0 : Int64)), (.long ((pr.toInt64) - (1 : Int64))), (.ref r_15), (.ref b_1), (.ref b_1), (.ref ax)]))) (fun t kt => ?_) ?_
  · show Steps p.tables e below (T_15.setTop (mkF m 78 #[.val (.int pm), .val (.int pr), .val (.int pk), .val (.int pj), .val (.int po), .val (.ref ax), .val (.int kk), .unset, .unset, .unset, .unset, .unset, .unset] [(.ref r_15), (.ref b_1), (.ref b_1), (.ref ax)])) t
    refine XS.iloadN X_15.here hx rfl (hb hby at_78) rfl ?_
    show Steps p.tables e below (T_15.setTop (mkF m 79 #[.val (.int pm), .val (.int pr), .val (.int pk), .val (.int pj), .val (.int po), .val (.ref ax), .val (.int kk), .unset, .unset, .unset, .unset, .unset, .unset] [(.int pr), (.ref r_15), (.ref b_1), (.ref b_1), (.ref ax)])) t
    refine XS.i2l X_15.here hx rfl (hb hby at_79) rfl ?_
    show Steps p.tables e below (T_15.setTop (mkF m 80 #[.val (.int pm), .val (.int pr), .val (.int pk), .val (.int pj), .val (.int po), .val (.ref ax), .val (.int kk), .unset, .unset, .unset, .unset, .unset, .unset] [(.long (pr.toInt64)), (.ref r_15), (.ref b_1), (.ref b_1), (.ref ax)])) t
    refine XS.lconst X_15.here hx rfl (hb hby at_80) ?_
    show Steps p.tables e below (T_15.setTop (mkF m 81 #[.val (.int pm), .val (.int pr), .val (.int pk), .val (.int pj), .val (.int po), .val (.ref ax), .val (.int kk), .unset, .unset, .unset, .unset, .unset, .unset] [(.long (1 : Int64)), (.long (pr.toInt64)), (.ref r_15), (.ref b_1), (.ref b_1), (.ref ax)])) t
    refine XS.lsub X_15.here hx rfl (hb hby at_81) rfl ?_
    show Steps p.tables e below (T_15.setTop (mkF m 82 #[.val (.int pm), .val (.int pr), .val (.int pk), .val (.int pj), .val (.int po), .val (.ref ax), .val (.int kk), .unset, .unset, .unset, .unset, .unset, .unset] [(.long ((pr.toInt64) - (1 : Int64))), (.ref r_15), (.ref b_1), (.ref b_1), (.ref ax)])) t
    refine XS.lconst X_15.here hx rfl (hb hby at_82) ?_
    show Steps p.tables e below (T_15.setTop (mkF m 83 #[.val (.int pm), .val (.int pr), .val (.int pk), .val (.int pj), .val (.int po), .val (.ref ax), .val (.int kk), .unset, .unset, .unset, .unset, .unset, .unset] [(.long (0 : Int64)), (.long ((pr.toInt64) - (1 : Int64))), (.ref r_15), (.ref b_1), (.ref b_1), (.ref ax)])) t
    refine XS.iconst X_15.here hx rfl (hb hby at_83) ?_
    exact kt
  obtain ⟨v_29, T_29, L_29, X_29, q_29, st_29⟩ := callInit X_15 hx hZ (y := (⟨"com/example/dead_letter_replay/deadletterreplay/queue/Carries$Carried", "<init>", "(Ljava/lang/Long;JJI)V"⟩ : MethodName)) (W := 2) rfl hown (wdOf hw 32 rfl) (wdOf hw 33 rfl) (wdOf hw 23 rfl) (wdOf hw 34 rfl) (by decide) (rm_cd l Z a0 hw [] b_1 (.ref r_15) rfl ((pr.toInt64) - (1 : Int64)) (0 : Int64) (0 : Int32) T_15.heap n0 y_28 o_1 f_23 f_24 f_25 f_26 f_27) (by decide) (by decide) (by decide) (by decide) (rfl : T_15.heap = T_15.heap) (b := b_1) (g := (mkF m 84 #[.val (.int pm), .val (.int pr), .val (.int pk), .val (.int pj), .val (.int po), .val (.ref ax), .val (.int kk), .unset, .unset, .unset, .unset, .unset, .unset] [(.int (0 : Int32)), (.long (0 : Int64)), (.long ((pr.toInt64) - (1 : Int64))), (.ref r_15), (.ref b_1), (.ref b_1), (.ref ax)])) rfl (by rw [hml]; rfl) (argsL := [(.ref r_15), (.long ((pr.toInt64) - (1 : Int64))), (.long (0 : Int64)), (.int (0 : Int32))]) (rest := [(.ref b_1), (.ref ax)]) (lenOf pd_9 rfl) rfl rfl (Nat.le_refl _) (hb hby at_84)
  obtain ⟨rfl, n_29, K_29, GE__29, Gfrom__29, Gera__29, Gtransaction__29, Gbackend__29⟩ := q_29
  have N_29 := Fr.app N_15 n_29
  have f_30 : Exa Z T_29.heap ax "com/example/dead_letter_replay/deadletterreplay/queue/Carries" := f_16.keep K_29
  have f_31 : Fld Z T_29.heap ax "com/example/dead_letter_replay/deadletterreplay/queue/Carries" "since" "I" (.int kk) := f_17.keep K_29 (ninS ne_2 nin0)
  have f_32 : Fld Z T_29.heap ax "com/example/dead_letter_replay/deadletterreplay/queue/Carries" "last" "Lcom/example/dead_letter_replay/deadletterreplay/queue/Carries$Carried;" .null := f_18.keep K_29 (ninS ne_2 nin0)
  have f_33 : Fld Z T_29.heap ax "com/example/dead_letter_replay/deadletterreplay/queue/Carries" "risk" "I" (.int (0 : Int32)) := f_19.keep K_29 (ninS ne_2 nin0)
  have f_34 : Fld Z T_29.heap ax "com/example/dead_letter_replay/deadletterreplay/queue/Carries" "first" "Ljava/lang/Long;" .null := f_20.keep K_29 (ninS ne_2 nin0)
  have f_35 : Fld Z T_29.heap ax "com/example/dead_letter_replay/deadletterreplay/queue/Carries" "held" "Z" (.int (0 : Int32)) := f_21.keep K_29 (ninS ne_2 nin0)
  have f_36 : Old Z n0 T_29.heap := f_22.keep K_29 (allS o_1 all0)
  have f_37 : Exa Z T_29.heap b_1 "com/example/dead_letter_replay/deadletterreplay/queue/Carries$Carried" := f_23.keep K_29
  have f_42 : Exa Z T_29.heap r_15 "java/lang/Long" := Ev_15.keep K_29
  have f_43 : Fld Z T_29.heap r_15 "java/lang/Long" "value" "J" (.long (0 : Int64)) := Fv_15.keep K_29 (ninS nlb nin0)
  have K_44 : Keep h0 T_29.heap [] := K_28.trans K_29 (allS (P := fun x => x ∈ [] ∨ h0.size ≤ x) (Or.inr z_1) all0)
  have y_44 : n0 ≤ T_29.heap.size := Nat.le_trans Z0 K_44.1
  refine Goes.go (U' := (T_29.setTop (mkF m 87 #[.val (.int pm), .val (.int pr), .val (.int pk), .val (.int pj), .val (.int po), .val (.ref ax), .val (.int kk), .unset, .unset, .unset, .unset, .unset, .unset] [(.ref b_1), (.ref ax)]))) st_29 ?_
  obtain ⟨v_45, T_45, L_45, X_45, q_45, st_45⟩ := callVirtual X_29 hx hZ (y := (⟨"com/example/dead_letter_replay/deadletterreplay/queue/Carries", "carried", "(Lcom/example/dead_letter_replay/deadletterreplay/queue/Carries$Carried;)V"⟩ : MethodName)) (z := (⟨"com/example/dead_letter_replay/deadletterreplay/queue/Carries", "carried", "(Lcom/example/dead_letter_replay/deadletterreplay/queue/Carries$Carried;)V"⟩ : MethodName)) (W := 0) hown (wdOf hw 49 rfl) (wdOf hw 50 rfl) (notFace_of_selects (args := #[]) (mvT hZ (wdOf hw 52 rfl))) (wdOf hw 52 rfl) (wdOf hw 51 rfl) (wdOf hw 2 rfl) (wdOf hw 53 rfl) (by decide) (rm_cr l Z a0 hw [] ax b_1 r_15 kk (0 : Int32) (0 : Int32) ((pr.toInt64) - (1 : Int64)) (0 : Int64) T_29.heap n0 y_44 f_36 BC oa (Ne.symm ne_2) nla f_30 f_31 f_32 f_33 f_34 f_35 f_37 Gfrom__29 Gera__29 f_42 f_43) (by decide) (by decide) (by decide) (by decide) (rfl : T_29.heap = T_29.heap) f_30 (g := (mkF m 87 #[.val (.int pm), .val (.int pr), .val (.int pk), .val (.int pj), .val (.int po), .val (.ref ax), .val (.int kk), .unset, .unset, .unset, .unset, .unset, .unset] [(.ref b_1), (.ref ax)])) rfl (by rw [hml]; rfl) (argsL := [(.ref b_1)]) (rest := []) (lenOf pd_10 rfl) rfl rfl (Nat.le_refl _) (hb hby at_87)
  obtain ⟨z1, fr, q_45⟩ := q_45
  obtain ⟨rfl, n_45, K_45, rz, GE__45, Gsince__45, Glast__45, Grisk__45, Gfirst__45, Gheld__45⟩ := q_45
  have N_45 := Fr.app N_29 n_45
  have f_46 : Exa Z T_45.heap ax "com/example/dead_letter_replay/deadletterreplay/queue/Carries" := f_30.keep K_45
  have f_52 : Old Z n0 T_45.heap := f_36.keep K_45 (allS oa all0)
  have f_53 : Exa Z T_45.heap b_1 "com/example/dead_letter_replay/deadletterreplay/queue/Carries$Carried" := f_37.keep K_45
  have f_54 : Exa Z T_45.heap r_15 "java/lang/Long" := f_42.keep K_45
  have f_55 : Fld Z T_45.heap r_15 "java/lang/Long" "value" "J" (.long (0 : Int64)) := f_43.keep K_45 (ninS nla nin0)
  have f_56 : Fld Z T_45.heap b_1 "com/example/dead_letter_replay/deadletterreplay/queue/Carries$Carried" "from" "Ljava/lang/Long;" (.ref r_15) := Gfrom__29.keep K_45 (ninS (Ne.symm ne_2) nin0)
  have f_57 : Fld Z T_45.heap b_1 "com/example/dead_letter_replay/deadletterreplay/queue/Carries$Carried" "era" "J" (.long ((pr.toInt64) - (1 : Int64))) := Gera__29.keep K_45 (ninS (Ne.symm ne_2) nin0)
  have f_58 : Fld Z T_45.heap b_1 "com/example/dead_letter_replay/deadletterreplay/queue/Carries$Carried" "transaction" "J" (.long (0 : Int64)) := Gtransaction__29.keep K_45 (ninS (Ne.symm ne_2) nin0)
  have f_59 : Fld Z T_45.heap b_1 "com/example/dead_letter_replay/deadletterreplay/queue/Carries$Carried" "backend" "I" (.int (0 : Int32)) := Gbackend__29.keep K_45 (ninS (Ne.symm ne_2) nin0)
  have K_60 : Keep h0 T_45.heap [] := K_44.trans K_45 (allS (P := fun x => x ∈ [] ∨ h0.size ≤ x) (Or.inr za) all0)
  have y_60 : n0 ≤ T_45.heap.size := Nat.le_trans Z0 K_60.1
  refine Goes.go (U' := (T_45.setTop (mkF m 90 #[.val (.int pm), .val (.int pr), .val (.int pk), .val (.int pj), .val (.int po), .val (.ref ax), .val (.int kk), .unset, .unset, .unset, .unset, .unset, .unset] []))) st_45 ?_
  refine Goes.go (U' := (T_45.setTop (mkF m 96 #[.val (.int pm), .val (.int pr), .val (.int pk), .val (.int pj), .val (.int po), .val (.ref ax), .val (.int kk), .val (.int (1 : Int32)), .unset, .unset, .unset, .unset, .unset] [(.int (pj &&& (1 : Int32)))]))) (fun t kt => ?_) ?_
  · show Steps p.tables e below (T_45.setTop (mkF m 90 #[.val (.int pm), .val (.int pr), .val (.int pk), .val (.int pj), .val (.int po), .val (.ref ax), .val (.int kk), .unset, .unset, .unset, .unset, .unset, .unset] [])) t
    refine XS.iconst X_45.here hx rfl (hb hby at_90) ?_
    show Steps p.tables e below (T_45.setTop (mkF m 91 #[.val (.int pm), .val (.int pr), .val (.int pk), .val (.int pj), .val (.int po), .val (.ref ax), .val (.int kk), .unset, .unset, .unset, .unset, .unset, .unset] [(.int (1 : Int32))])) t
    refine XS.istore X_45.here hx rfl (hb hby at_91) rfl (l' := #[.val (.int pm), .val (.int pr), .val (.int pk), .val (.int pj), .val (.int po), .val (.ref ax), .val (.int kk), .val (.int (1 : Int32)), .unset, .unset, .unset, .unset, .unset]) rfl ?_
    show Steps p.tables e below (T_45.setTop (mkF m 93 #[.val (.int pm), .val (.int pr), .val (.int pk), .val (.int pj), .val (.int po), .val (.ref ax), .val (.int kk), .val (.int (1 : Int32)), .unset, .unset, .unset, .unset, .unset] [])) t
    refine XS.iloadN X_45.here hx rfl (hb hby at_93) rfl ?_
    show Steps p.tables e below (T_45.setTop (mkF m 94 #[.val (.int pm), .val (.int pr), .val (.int pk), .val (.int pj), .val (.int po), .val (.ref ax), .val (.int kk), .val (.int (1 : Int32)), .unset, .unset, .unset, .unset, .unset] [(.int pj)])) t
    refine XS.iconst X_45.here hx rfl (hb hby at_94) ?_
    show Steps p.tables e below (T_45.setTop (mkF m 95 #[.val (.int pm), .val (.int pr), .val (.int pk), .val (.int pj), .val (.int po), .val (.ref ax), .val (.int kk), .val (.int (1 : Int32)), .unset, .unset, .unset, .unset, .unset] [(.int (1 : Int32)), (.int pj)])) t
    refine XS.iand X_45.here hx rfl (hb hby at_95) rfl ?_
    exact kt
  by_cases c_61 : (pj &&& (1 : Int32)) = 0
  · -- (pj &&& (1 : Int32)) = 0
    refine Goes.go (U' := (T_45.setTop (mkF m 110 #[.val (.int pm), .val (.int pr), .val (.int pk), .val (.int pj), .val (.int po), .val (.ref ax), .val (.int kk), .val (.int (1 : Int32)), .unset, .unset, .unset, .unset, .unset] [(.int (pj &&& (2 : Int32)))]))) (fun t kt => ?_) ?_
    · show Steps p.tables e below (T_45.setTop (mkF m 96 #[.val (.int pm), .val (.int pr), .val (.int pk), .val (.int pj), .val (.int po), .val (.ref ax), .val (.int kk), .val (.int (1 : Int32)), .unset, .unset, .unset, .unset, .unset] [(.int (pj &&& (1 : Int32)))])) t
      refine XS.ifYes X_45.here hx rfl (pc0 := 96) (pc' := 107) rfl (hb hby at_96) rfl (XT.i0_eq_t c_61) (by decide) (by decide) ?_
      show Steps p.tables e below (T_45.setTop (mkF m 107 #[.val (.int pm), .val (.int pr), .val (.int pk), .val (.int pj), .val (.int po), .val (.ref ax), .val (.int kk), .val (.int (1 : Int32)), .unset, .unset, .unset, .unset, .unset] [])) t
      refine XS.iloadN X_45.here hx rfl (hb hby at_107) rfl ?_
      show Steps p.tables e below (T_45.setTop (mkF m 108 #[.val (.int pm), .val (.int pr), .val (.int pk), .val (.int pj), .val (.int po), .val (.ref ax), .val (.int kk), .val (.int (1 : Int32)), .unset, .unset, .unset, .unset, .unset] [(.int pj)])) t
      refine XS.iconst X_45.here hx rfl (hb hby at_108) ?_
      show Steps p.tables e below (T_45.setTop (mkF m 109 #[.val (.int pm), .val (.int pr), .val (.int pk), .val (.int pj), .val (.int po), .val (.ref ax), .val (.int kk), .val (.int (1 : Int32)), .unset, .unset, .unset, .unset, .unset] [(.int (2 : Int32)), (.int pj)])) t
      refine XS.iand X_45.here hx rfl (hb hby at_109) rfl ?_
      exact kt
    by_cases c_62 : (pj &&& (2 : Int32)) = 0
    · -- (pj &&& (2 : Int32)) = 0
      refine Goes.go (U' := (T_45.setTop (mkF m 124 #[.val (.int pm), .val (.int pr), .val (.int pk), .val (.int pj), .val (.int po), .val (.ref ax), .val (.int kk), .val (.int (1 : Int32)), .unset, .unset, .unset, .unset, .unset] [(.int (pj &&& (4 : Int32)))]))) (fun t kt => ?_) ?_
      · show Steps p.tables e below (T_45.setTop (mkF m 110 #[.val (.int pm), .val (.int pr), .val (.int pk), .val (.int pj), .val (.int po), .val (.ref ax), .val (.int kk), .val (.int (1 : Int32)), .unset, .unset, .unset, .unset, .unset] [(.int (pj &&& (2 : Int32)))])) t
        refine XS.ifYes X_45.here hx rfl (pc0 := 110) (pc' := 121) rfl (hb hby at_110) rfl (XT.i0_eq_t c_62) (by decide) (by decide) ?_
        show Steps p.tables e below (T_45.setTop (mkF m 121 #[.val (.int pm), .val (.int pr), .val (.int pk), .val (.int pj), .val (.int po), .val (.ref ax), .val (.int kk), .val (.int (1 : Int32)), .unset, .unset, .unset, .unset, .unset] [])) t
        refine XS.iloadN X_45.here hx rfl (hb hby at_121) rfl ?_
        show Steps p.tables e below (T_45.setTop (mkF m 122 #[.val (.int pm), .val (.int pr), .val (.int pk), .val (.int pj), .val (.int po), .val (.ref ax), .val (.int kk), .val (.int (1 : Int32)), .unset, .unset, .unset, .unset, .unset] [(.int pj)])) t
        refine XS.iconst X_45.here hx rfl (hb hby at_122) ?_
        show Steps p.tables e below (T_45.setTop (mkF m 123 #[.val (.int pm), .val (.int pr), .val (.int pk), .val (.int pj), .val (.int po), .val (.ref ax), .val (.int kk), .val (.int (1 : Int32)), .unset, .unset, .unset, .unset, .unset] [(.int (4 : Int32)), (.int pj)])) t
        refine XS.iand X_45.here hx rfl (hb hby at_123) rfl ?_
        exact kt
      by_cases c_63 : (pj &&& (4 : Int32)) = 0
      · -- (pj &&& (4 : Int32)) = 0
        refine Goes.go (U' := (T_45.setTop (mkF m 135 #[.val (.int pm), .val (.int pr), .val (.int pk), .val (.int pj), .val (.int po), .val (.ref ax), .val (.int kk), .val (.int (1 : Int32)), .unset, .unset, .unset, .unset, .unset] []))) (fun t kt => ?_) ?_
        · show Steps p.tables e below (T_45.setTop (mkF m 124 #[.val (.int pm), .val (.int pr), .val (.int pk), .val (.int pj), .val (.int po), .val (.ref ax), .val (.int kk), .val (.int (1 : Int32)), .unset, .unset, .unset, .unset, .unset] [(.int (pj &&& (4 : Int32)))])) t
          refine XS.ifYes X_45.here hx rfl (pc0 := 124) (pc' := 135) rfl (hb hby at_124) rfl (XT.i0_eq_t c_63) (by decide) (by decide) ?_
          exact kt
        have hs : ((1 : Int32) : Int32).toInt = 1 := by decide
        exact law_135 l Z a0 hw pm pr pk pj po ax kk (1 : Int32) z1 h0 n0 Z0 p e s m below meth c hx hby hml hown hnm hret hlk hZ _ _ _ X_45 (rfl : T_45.heap = T_45.heap) N_45 K_60 (by omega) (by omega) hk1 hk2 rz f_46 Gsince__45 Grisk__45
      · -- not (pj &&& (4 : Int32)) = 0
        refine Goes.go (U' := (T_45.setTop (mkF m 129 #[.val (.int pm), .val (.int pr), .val (.int pk), .val (.int pj), .val (.int po), .val (.ref ax), .val (.int kk), .val (.int (1 : Int32)), .unset, .unset, .unset, .unset, .unset] [(.ref ax)]))) (fun t kt => ?_) ?_
        · show Steps p.tables e below (T_45.setTop (mkF m 124 #[.val (.int pm), .val (.int pr), .val (.int pk), .val (.int pj), .val (.int po), .val (.ref ax), .val (.int kk), .val (.int (1 : Int32)), .unset, .unset, .unset, .unset, .unset] [(.int (pj &&& (4 : Int32)))])) t
          refine XS.ifNo X_45.here hx rfl (hb hby at_124) rfl (XT.i0_eq_f c_63) ?_
          show Steps p.tables e below (T_45.setTop (mkF m 127 #[.val (.int pm), .val (.int pr), .val (.int pk), .val (.int pj), .val (.int po), .val (.ref ax), .val (.int kk), .val (.int (1 : Int32)), .unset, .unset, .unset, .unset, .unset] [])) t
          refine XS.aload X_45.here hx rfl (hb hby at_127) rfl rfl ?_
          exact kt
        obtain ⟨v_64, T_64, L_64, X_64, q_64, st_64⟩ := callVirtual X_45 hx hZ (y := (⟨"com/example/dead_letter_replay/deadletterreplay/queue/Carries", "counted", "()V"⟩ : MethodName)) (z := (⟨"com/example/dead_letter_replay/deadletterreplay/queue/Carries", "counted", "()V"⟩ : MethodName)) (W := 0) hown (wdOf hw 16 rfl) (wdOf hw 17 rfl) (notFace_of_selects (args := #[]) (mvT hZ (wdOf hw 19 rfl))) (wdOf hw 19 rfl) (wdOf hw 18 rfl) (wdOf hw 2 rfl) (wdOf hw 20 rfl) (by decide) (rm_cn l Z a0 hw [] ax (1 : Int32) z1.toInt32 (0 : Int32) (.ref b_1) (.ref fr) T_45.heap n0 y_60 oa f_46 Gsince__45 Glast__45 Grisk__45 Gfirst__45 Gheld__45) (by decide) (by decide) (by decide) (by decide) (rfl : T_45.heap = T_45.heap) f_46 (g := (mkF m 129 #[.val (.int pm), .val (.int pr), .val (.int pk), .val (.int pj), .val (.int po), .val (.ref ax), .val (.int kk), .val (.int (1 : Int32)), .unset, .unset, .unset, .unset, .unset] [(.ref ax)])) rfl (by rw [hml]; rfl) (argsL := []) (rest := []) (lenOf pd_0 rfl) rfl rfl (Nat.le_refl _) (hb hby at_129)
        obtain ⟨rfl, n_64, K_64, GE__64, Gsince__64, Glast__64, Grisk__64, Gfirst__64, Gheld__64⟩ := q_64
        have N_64 := Fr.app N_45 n_64
        have f_65 : Exa Z T_64.heap ax "com/example/dead_letter_replay/deadletterreplay/queue/Carries" := f_46.keep K_64
        have f_66 : Old Z n0 T_64.heap := f_52.keep K_64 (allS oa all0)
        have f_67 : Exa Z T_64.heap b_1 "com/example/dead_letter_replay/deadletterreplay/queue/Carries$Carried" := f_53.keep K_64
        have f_68 : Exa Z T_64.heap r_15 "java/lang/Long" := f_54.keep K_64
        have f_69 : Fld Z T_64.heap r_15 "java/lang/Long" "value" "J" (.long (0 : Int64)) := f_55.keep K_64 (ninS nla nin0)
        have f_70 : Fld Z T_64.heap b_1 "com/example/dead_letter_replay/deadletterreplay/queue/Carries$Carried" "from" "Ljava/lang/Long;" (.ref r_15) := f_56.keep K_64 (ninS (Ne.symm ne_2) nin0)
        have f_71 : Fld Z T_64.heap b_1 "com/example/dead_letter_replay/deadletterreplay/queue/Carries$Carried" "era" "J" (.long ((pr.toInt64) - (1 : Int64))) := f_57.keep K_64 (ninS (Ne.symm ne_2) nin0)
        have f_72 : Fld Z T_64.heap b_1 "com/example/dead_letter_replay/deadletterreplay/queue/Carries$Carried" "transaction" "J" (.long (0 : Int64)) := f_58.keep K_64 (ninS (Ne.symm ne_2) nin0)
        have f_73 : Fld Z T_64.heap b_1 "com/example/dead_letter_replay/deadletterreplay/queue/Carries$Carried" "backend" "I" (.int (0 : Int32)) := f_59.keep K_64 (ninS (Ne.symm ne_2) nin0)
        have K_79 : Keep h0 T_64.heap [] := K_60.trans K_64 (allS (P := fun x => x ∈ [] ∨ h0.size ≤ x) (Or.inr za) all0)
        have y_79 : n0 ≤ T_64.heap.size := Nat.le_trans Z0 K_79.1
        refine Goes.go (U' := (T_64.setTop (mkF m 132 #[.val (.int pm), .val (.int pr), .val (.int pk), .val (.int pj), .val (.int po), .val (.ref ax), .val (.int kk), .val (.int (1 : Int32)), .unset, .unset, .unset, .unset, .unset] []))) st_64 ?_
        refine Goes.go (U' := (T_64.setTop (mkF m 135 #[.val (.int pm), .val (.int pr), .val (.int pk), .val (.int pj), .val (.int po), .val (.ref ax), .val (.int kk), .val (.int ((1 : Int32) + (1 : Int32))), .unset, .unset, .unset, .unset, .unset] []))) (fun t kt => ?_) ?_
        · show Steps p.tables e below (T_64.setTop (mkF m 132 #[.val (.int pm), .val (.int pr), .val (.int pk), .val (.int pj), .val (.int po), .val (.ref ax), .val (.int kk), .val (.int (1 : Int32)), .unset, .unset, .unset, .unset, .unset] [])) t
          refine XS.iinc X_64.here hx rfl (hb hby at_132) rfl (l' := #[.val (.int pm), .val (.int pr), .val (.int pk), .val (.int pj), .val (.int po), .val (.ref ax), .val (.int kk), .val (.int ((1 : Int32) + (1 : Int32))), .unset, .unset, .unset, .unset, .unset]) rfl ?_
          exact kt
        have hs : (((1 : Int32) + (1 : Int32)) : Int32).toInt = 2 := by decide
        exact law_135 l Z a0 hw pm pr pk pj po ax kk ((1 : Int32) + (1 : Int32)) z1 h0 n0 Z0 p e s m below meth c hx hby hml hown hnm hret hlk hZ _ _ _ X_64 (rfl : T_64.heap = T_64.heap) N_64 K_79 (by omega) (by omega) hk1 hk2 rz f_65 Gsince__64 Grisk__64
    · -- not (pj &&& (2 : Int32)) = 0
      refine Goes.go (U' := (T_45.setTop (mkF m 115 #[.val (.int pm), .val (.int pr), .val (.int pk), .val (.int pj), .val (.int po), .val (.ref ax), .val (.int kk), .val (.int (1 : Int32)), .unset, .unset, .unset, .unset, .unset] [(.ref ax)]))) (fun t kt => ?_) ?_
      · show Steps p.tables e below (T_45.setTop (mkF m 110 #[.val (.int pm), .val (.int pr), .val (.int pk), .val (.int pj), .val (.int po), .val (.ref ax), .val (.int kk), .val (.int (1 : Int32)), .unset, .unset, .unset, .unset, .unset] [(.int (pj &&& (2 : Int32)))])) t
        refine XS.ifNo X_45.here hx rfl (hb hby at_110) rfl (XT.i0_eq_f c_62) ?_
        show Steps p.tables e below (T_45.setTop (mkF m 113 #[.val (.int pm), .val (.int pr), .val (.int pk), .val (.int pj), .val (.int po), .val (.ref ax), .val (.int kk), .val (.int (1 : Int32)), .unset, .unset, .unset, .unset, .unset] [])) t
        refine XS.aload X_45.here hx rfl (hb hby at_113) rfl rfl ?_
        exact kt
      obtain ⟨v_80, T_80, L_80, X_80, q_80, st_80⟩ := callVirtual X_45 hx hZ (y := (⟨"com/example/dead_letter_replay/deadletterreplay/queue/Carries", "counted", "()V"⟩ : MethodName)) (z := (⟨"com/example/dead_letter_replay/deadletterreplay/queue/Carries", "counted", "()V"⟩ : MethodName)) (W := 0) hown (wdOf hw 16 rfl) (wdOf hw 17 rfl) (notFace_of_selects (args := #[]) (mvT hZ (wdOf hw 19 rfl))) (wdOf hw 19 rfl) (wdOf hw 18 rfl) (wdOf hw 2 rfl) (wdOf hw 20 rfl) (by decide) (rm_cn l Z a0 hw [] ax (1 : Int32) z1.toInt32 (0 : Int32) (.ref b_1) (.ref fr) T_45.heap n0 y_60 oa f_46 Gsince__45 Glast__45 Grisk__45 Gfirst__45 Gheld__45) (by decide) (by decide) (by decide) (by decide) (rfl : T_45.heap = T_45.heap) f_46 (g := (mkF m 115 #[.val (.int pm), .val (.int pr), .val (.int pk), .val (.int pj), .val (.int po), .val (.ref ax), .val (.int kk), .val (.int (1 : Int32)), .unset, .unset, .unset, .unset, .unset] [(.ref ax)])) rfl (by rw [hml]; rfl) (argsL := []) (rest := []) (lenOf pd_0 rfl) rfl rfl (Nat.le_refl _) (hb hby at_115)
      obtain ⟨rfl, n_80, K_80, GE__80, Gsince__80, Glast__80, Grisk__80, Gfirst__80, Gheld__80⟩ := q_80
      have N_80 := Fr.app N_45 n_80
      have f_81 : Exa Z T_80.heap ax "com/example/dead_letter_replay/deadletterreplay/queue/Carries" := f_46.keep K_80
      have f_82 : Old Z n0 T_80.heap := f_52.keep K_80 (allS oa all0)
      have f_83 : Exa Z T_80.heap b_1 "com/example/dead_letter_replay/deadletterreplay/queue/Carries$Carried" := f_53.keep K_80
      have f_84 : Exa Z T_80.heap r_15 "java/lang/Long" := f_54.keep K_80
      have f_85 : Fld Z T_80.heap r_15 "java/lang/Long" "value" "J" (.long (0 : Int64)) := f_55.keep K_80 (ninS nla nin0)
      have f_86 : Fld Z T_80.heap b_1 "com/example/dead_letter_replay/deadletterreplay/queue/Carries$Carried" "from" "Ljava/lang/Long;" (.ref r_15) := f_56.keep K_80 (ninS (Ne.symm ne_2) nin0)
      have f_87 : Fld Z T_80.heap b_1 "com/example/dead_letter_replay/deadletterreplay/queue/Carries$Carried" "era" "J" (.long ((pr.toInt64) - (1 : Int64))) := f_57.keep K_80 (ninS (Ne.symm ne_2) nin0)
      have f_88 : Fld Z T_80.heap b_1 "com/example/dead_letter_replay/deadletterreplay/queue/Carries$Carried" "transaction" "J" (.long (0 : Int64)) := f_58.keep K_80 (ninS (Ne.symm ne_2) nin0)
      have f_89 : Fld Z T_80.heap b_1 "com/example/dead_letter_replay/deadletterreplay/queue/Carries$Carried" "backend" "I" (.int (0 : Int32)) := f_59.keep K_80 (ninS (Ne.symm ne_2) nin0)
      have K_95 : Keep h0 T_80.heap [] := K_60.trans K_80 (allS (P := fun x => x ∈ [] ∨ h0.size ≤ x) (Or.inr za) all0)
      have y_95 : n0 ≤ T_80.heap.size := Nat.le_trans Z0 K_95.1
      refine Goes.go (U' := (T_80.setTop (mkF m 118 #[.val (.int pm), .val (.int pr), .val (.int pk), .val (.int pj), .val (.int po), .val (.ref ax), .val (.int kk), .val (.int (1 : Int32)), .unset, .unset, .unset, .unset, .unset] []))) st_80 ?_
      refine Goes.go (U' := (T_80.setTop (mkF m 124 #[.val (.int pm), .val (.int pr), .val (.int pk), .val (.int pj), .val (.int po), .val (.ref ax), .val (.int kk), .val (.int ((1 : Int32) + (1 : Int32))), .unset, .unset, .unset, .unset, .unset] [(.int (pj &&& (4 : Int32)))]))) (fun t kt => ?_) ?_
      · show Steps p.tables e below (T_80.setTop (mkF m 118 #[.val (.int pm), .val (.int pr), .val (.int pk), .val (.int pj), .val (.int po), .val (.ref ax), .val (.int kk), .val (.int (1 : Int32)), .unset, .unset, .unset, .unset, .unset] [])) t
        refine XS.iinc X_80.here hx rfl (hb hby at_118) rfl (l' := #[.val (.int pm), .val (.int pr), .val (.int pk), .val (.int pj), .val (.int po), .val (.ref ax), .val (.int kk), .val (.int ((1 : Int32) + (1 : Int32))), .unset, .unset, .unset, .unset, .unset]) rfl ?_
        show Steps p.tables e below (T_80.setTop (mkF m 121 #[.val (.int pm), .val (.int pr), .val (.int pk), .val (.int pj), .val (.int po), .val (.ref ax), .val (.int kk), .val (.int ((1 : Int32) + (1 : Int32))), .unset, .unset, .unset, .unset, .unset] [])) t
        refine XS.iloadN X_80.here hx rfl (hb hby at_121) rfl ?_
        show Steps p.tables e below (T_80.setTop (mkF m 122 #[.val (.int pm), .val (.int pr), .val (.int pk), .val (.int pj), .val (.int po), .val (.ref ax), .val (.int kk), .val (.int ((1 : Int32) + (1 : Int32))), .unset, .unset, .unset, .unset, .unset] [(.int pj)])) t
        refine XS.iconst X_80.here hx rfl (hb hby at_122) ?_
        show Steps p.tables e below (T_80.setTop (mkF m 123 #[.val (.int pm), .val (.int pr), .val (.int pk), .val (.int pj), .val (.int po), .val (.ref ax), .val (.int kk), .val (.int ((1 : Int32) + (1 : Int32))), .unset, .unset, .unset, .unset, .unset] [(.int (4 : Int32)), (.int pj)])) t
        refine XS.iand X_80.here hx rfl (hb hby at_123) rfl ?_
        exact kt
      by_cases c_96 : (pj &&& (4 : Int32)) = 0
      · -- (pj &&& (4 : Int32)) = 0
        refine Goes.go (U' := (T_80.setTop (mkF m 135 #[.val (.int pm), .val (.int pr), .val (.int pk), .val (.int pj), .val (.int po), .val (.ref ax), .val (.int kk), .val (.int ((1 : Int32) + (1 : Int32))), .unset, .unset, .unset, .unset, .unset] []))) (fun t kt => ?_) ?_
        · show Steps p.tables e below (T_80.setTop (mkF m 124 #[.val (.int pm), .val (.int pr), .val (.int pk), .val (.int pj), .val (.int po), .val (.ref ax), .val (.int kk), .val (.int ((1 : Int32) + (1 : Int32))), .unset, .unset, .unset, .unset, .unset] [(.int (pj &&& (4 : Int32)))])) t
          refine XS.ifYes X_80.here hx rfl (pc0 := 124) (pc' := 135) rfl (hb hby at_124) rfl (XT.i0_eq_t c_96) (by decide) (by decide) ?_
          exact kt
        have hs : (((1 : Int32) + (1 : Int32)) : Int32).toInt = 2 := by decide
        exact law_135 l Z a0 hw pm pr pk pj po ax kk ((1 : Int32) + (1 : Int32)) z1 h0 n0 Z0 p e s m below meth c hx hby hml hown hnm hret hlk hZ _ _ _ X_80 (rfl : T_80.heap = T_80.heap) N_80 K_95 (by omega) (by omega) hk1 hk2 rz f_81 Gsince__80 Grisk__80
      · -- not (pj &&& (4 : Int32)) = 0
        refine Goes.go (U' := (T_80.setTop (mkF m 129 #[.val (.int pm), .val (.int pr), .val (.int pk), .val (.int pj), .val (.int po), .val (.ref ax), .val (.int kk), .val (.int ((1 : Int32) + (1 : Int32))), .unset, .unset, .unset, .unset, .unset] [(.ref ax)]))) (fun t kt => ?_) ?_
        · show Steps p.tables e below (T_80.setTop (mkF m 124 #[.val (.int pm), .val (.int pr), .val (.int pk), .val (.int pj), .val (.int po), .val (.ref ax), .val (.int kk), .val (.int ((1 : Int32) + (1 : Int32))), .unset, .unset, .unset, .unset, .unset] [(.int (pj &&& (4 : Int32)))])) t
          refine XS.ifNo X_80.here hx rfl (hb hby at_124) rfl (XT.i0_eq_f c_96) ?_
          show Steps p.tables e below (T_80.setTop (mkF m 127 #[.val (.int pm), .val (.int pr), .val (.int pk), .val (.int pj), .val (.int po), .val (.ref ax), .val (.int kk), .val (.int ((1 : Int32) + (1 : Int32))), .unset, .unset, .unset, .unset, .unset] [])) t
          refine XS.aload X_80.here hx rfl (hb hby at_127) rfl rfl ?_
          exact kt
        obtain ⟨v_97, T_97, L_97, X_97, q_97, st_97⟩ := callVirtual X_80 hx hZ (y := (⟨"com/example/dead_letter_replay/deadletterreplay/queue/Carries", "counted", "()V"⟩ : MethodName)) (z := (⟨"com/example/dead_letter_replay/deadletterreplay/queue/Carries", "counted", "()V"⟩ : MethodName)) (W := 0) hown (wdOf hw 16 rfl) (wdOf hw 17 rfl) (notFace_of_selects (args := #[]) (mvT hZ (wdOf hw 19 rfl))) (wdOf hw 19 rfl) (wdOf hw 18 rfl) (wdOf hw 2 rfl) (wdOf hw 20 rfl) (by decide) (rm_cn l Z a0 hw [] ax ((1 : Int32) + (1 : Int32)) z1.toInt32 (0 : Int32) (.ref b_1) (.ref fr) T_80.heap n0 y_95 oa f_81 Gsince__80 Glast__80 Grisk__80 Gfirst__80 Gheld__80) (by decide) (by decide) (by decide) (by decide) (rfl : T_80.heap = T_80.heap) f_81 (g := (mkF m 129 #[.val (.int pm), .val (.int pr), .val (.int pk), .val (.int pj), .val (.int po), .val (.ref ax), .val (.int kk), .val (.int ((1 : Int32) + (1 : Int32))), .unset, .unset, .unset, .unset, .unset] [(.ref ax)])) rfl (by rw [hml]; rfl) (argsL := []) (rest := []) (lenOf pd_0 rfl) rfl rfl (Nat.le_refl _) (hb hby at_129)
        obtain ⟨rfl, n_97, K_97, GE__97, Gsince__97, Glast__97, Grisk__97, Gfirst__97, Gheld__97⟩ := q_97
        have N_97 := Fr.app N_80 n_97
        have f_98 : Exa Z T_97.heap ax "com/example/dead_letter_replay/deadletterreplay/queue/Carries" := f_81.keep K_97
        have f_99 : Old Z n0 T_97.heap := f_82.keep K_97 (allS oa all0)
        have f_100 : Exa Z T_97.heap b_1 "com/example/dead_letter_replay/deadletterreplay/queue/Carries$Carried" := f_83.keep K_97
        have f_101 : Exa Z T_97.heap r_15 "java/lang/Long" := f_84.keep K_97
        have f_102 : Fld Z T_97.heap r_15 "java/lang/Long" "value" "J" (.long (0 : Int64)) := f_85.keep K_97 (ninS nla nin0)
        have f_103 : Fld Z T_97.heap b_1 "com/example/dead_letter_replay/deadletterreplay/queue/Carries$Carried" "from" "Ljava/lang/Long;" (.ref r_15) := f_86.keep K_97 (ninS (Ne.symm ne_2) nin0)
        have f_104 : Fld Z T_97.heap b_1 "com/example/dead_letter_replay/deadletterreplay/queue/Carries$Carried" "era" "J" (.long ((pr.toInt64) - (1 : Int64))) := f_87.keep K_97 (ninS (Ne.symm ne_2) nin0)
        have f_105 : Fld Z T_97.heap b_1 "com/example/dead_letter_replay/deadletterreplay/queue/Carries$Carried" "transaction" "J" (.long (0 : Int64)) := f_88.keep K_97 (ninS (Ne.symm ne_2) nin0)
        have f_106 : Fld Z T_97.heap b_1 "com/example/dead_letter_replay/deadletterreplay/queue/Carries$Carried" "backend" "I" (.int (0 : Int32)) := f_89.keep K_97 (ninS (Ne.symm ne_2) nin0)
        have K_112 : Keep h0 T_97.heap [] := K_95.trans K_97 (allS (P := fun x => x ∈ [] ∨ h0.size ≤ x) (Or.inr za) all0)
        have y_112 : n0 ≤ T_97.heap.size := Nat.le_trans Z0 K_112.1
        refine Goes.go (U' := (T_97.setTop (mkF m 132 #[.val (.int pm), .val (.int pr), .val (.int pk), .val (.int pj), .val (.int po), .val (.ref ax), .val (.int kk), .val (.int ((1 : Int32) + (1 : Int32))), .unset, .unset, .unset, .unset, .unset] []))) st_97 ?_
        refine Goes.go (U' := (T_97.setTop (mkF m 135 #[.val (.int pm), .val (.int pr), .val (.int pk), .val (.int pj), .val (.int po), .val (.ref ax), .val (.int kk), .val (.int (((1 : Int32) + (1 : Int32)) + (1 : Int32))), .unset, .unset, .unset, .unset, .unset] []))) (fun t kt => ?_) ?_
        · show Steps p.tables e below (T_97.setTop (mkF m 132 #[.val (.int pm), .val (.int pr), .val (.int pk), .val (.int pj), .val (.int po), .val (.ref ax), .val (.int kk), .val (.int ((1 : Int32) + (1 : Int32))), .unset, .unset, .unset, .unset, .unset] [])) t
          refine XS.iinc X_97.here hx rfl (hb hby at_132) rfl (l' := #[.val (.int pm), .val (.int pr), .val (.int pk), .val (.int pj), .val (.int po), .val (.ref ax), .val (.int kk), .val (.int (((1 : Int32) + (1 : Int32)) + (1 : Int32))), .unset, .unset, .unset, .unset, .unset]) rfl ?_
          exact kt
        have hs : ((((1 : Int32) + (1 : Int32)) + (1 : Int32)) : Int32).toInt = 3 := by decide
        exact law_135 l Z a0 hw pm pr pk pj po ax kk (((1 : Int32) + (1 : Int32)) + (1 : Int32)) z1 h0 n0 Z0 p e s m below meth c hx hby hml hown hnm hret hlk hZ _ _ _ X_97 (rfl : T_97.heap = T_97.heap) N_97 K_112 (by omega) (by omega) hk1 hk2 rz f_98 Gsince__97 Grisk__97
  · -- not (pj &&& (1 : Int32)) = 0
    refine Goes.go (U' := (T_45.setTop (mkF m 101 #[.val (.int pm), .val (.int pr), .val (.int pk), .val (.int pj), .val (.int po), .val (.ref ax), .val (.int kk), .val (.int (1 : Int32)), .unset, .unset, .unset, .unset, .unset] [(.ref ax)]))) (fun t kt => ?_) ?_
    · show Steps p.tables e below (T_45.setTop (mkF m 96 #[.val (.int pm), .val (.int pr), .val (.int pk), .val (.int pj), .val (.int po), .val (.ref ax), .val (.int kk), .val (.int (1 : Int32)), .unset, .unset, .unset, .unset, .unset] [(.int (pj &&& (1 : Int32)))])) t
      refine XS.ifNo X_45.here hx rfl (hb hby at_96) rfl (XT.i0_eq_f c_61) ?_
      show Steps p.tables e below (T_45.setTop (mkF m 99 #[.val (.int pm), .val (.int pr), .val (.int pk), .val (.int pj), .val (.int po), .val (.ref ax), .val (.int kk), .val (.int (1 : Int32)), .unset, .unset, .unset, .unset, .unset] [])) t
      refine XS.aload X_45.here hx rfl (hb hby at_99) rfl rfl ?_
      exact kt
    obtain ⟨v_113, T_113, L_113, X_113, q_113, st_113⟩ := callVirtual X_45 hx hZ (y := (⟨"com/example/dead_letter_replay/deadletterreplay/queue/Carries", "counted", "()V"⟩ : MethodName)) (z := (⟨"com/example/dead_letter_replay/deadletterreplay/queue/Carries", "counted", "()V"⟩ : MethodName)) (W := 0) hown (wdOf hw 16 rfl) (wdOf hw 17 rfl) (notFace_of_selects (args := #[]) (mvT hZ (wdOf hw 19 rfl))) (wdOf hw 19 rfl) (wdOf hw 18 rfl) (wdOf hw 2 rfl) (wdOf hw 20 rfl) (by decide) (rm_cn l Z a0 hw [] ax (1 : Int32) z1.toInt32 (0 : Int32) (.ref b_1) (.ref fr) T_45.heap n0 y_60 oa f_46 Gsince__45 Glast__45 Grisk__45 Gfirst__45 Gheld__45) (by decide) (by decide) (by decide) (by decide) (rfl : T_45.heap = T_45.heap) f_46 (g := (mkF m 101 #[.val (.int pm), .val (.int pr), .val (.int pk), .val (.int pj), .val (.int po), .val (.ref ax), .val (.int kk), .val (.int (1 : Int32)), .unset, .unset, .unset, .unset, .unset] [(.ref ax)])) rfl (by rw [hml]; rfl) (argsL := []) (rest := []) (lenOf pd_0 rfl) rfl rfl (Nat.le_refl _) (hb hby at_101)
    obtain ⟨rfl, n_113, K_113, GE__113, Gsince__113, Glast__113, Grisk__113, Gfirst__113, Gheld__113⟩ := q_113
    have N_113 := Fr.app N_45 n_113
    have f_114 : Exa Z T_113.heap ax "com/example/dead_letter_replay/deadletterreplay/queue/Carries" := f_46.keep K_113
    have f_115 : Old Z n0 T_113.heap := f_52.keep K_113 (allS oa all0)
    have f_116 : Exa Z T_113.heap b_1 "com/example/dead_letter_replay/deadletterreplay/queue/Carries$Carried" := f_53.keep K_113
    have f_117 : Exa Z T_113.heap r_15 "java/lang/Long" := f_54.keep K_113
    have f_118 : Fld Z T_113.heap r_15 "java/lang/Long" "value" "J" (.long (0 : Int64)) := f_55.keep K_113 (ninS nla nin0)
    have f_119 : Fld Z T_113.heap b_1 "com/example/dead_letter_replay/deadletterreplay/queue/Carries$Carried" "from" "Ljava/lang/Long;" (.ref r_15) := f_56.keep K_113 (ninS (Ne.symm ne_2) nin0)
    have f_120 : Fld Z T_113.heap b_1 "com/example/dead_letter_replay/deadletterreplay/queue/Carries$Carried" "era" "J" (.long ((pr.toInt64) - (1 : Int64))) := f_57.keep K_113 (ninS (Ne.symm ne_2) nin0)
    have f_121 : Fld Z T_113.heap b_1 "com/example/dead_letter_replay/deadletterreplay/queue/Carries$Carried" "transaction" "J" (.long (0 : Int64)) := f_58.keep K_113 (ninS (Ne.symm ne_2) nin0)
    have f_122 : Fld Z T_113.heap b_1 "com/example/dead_letter_replay/deadletterreplay/queue/Carries$Carried" "backend" "I" (.int (0 : Int32)) := f_59.keep K_113 (ninS (Ne.symm ne_2) nin0)
    have K_128 : Keep h0 T_113.heap [] := K_60.trans K_113 (allS (P := fun x => x ∈ [] ∨ h0.size ≤ x) (Or.inr za) all0)
    have y_128 : n0 ≤ T_113.heap.size := Nat.le_trans Z0 K_128.1
    refine Goes.go (U' := (T_113.setTop (mkF m 104 #[.val (.int pm), .val (.int pr), .val (.int pk), .val (.int pj), .val (.int po), .val (.ref ax), .val (.int kk), .val (.int (1 : Int32)), .unset, .unset, .unset, .unset, .unset] []))) st_113 ?_
    refine Goes.go (U' := (T_113.setTop (mkF m 110 #[.val (.int pm), .val (.int pr), .val (.int pk), .val (.int pj), .val (.int po), .val (.ref ax), .val (.int kk), .val (.int ((1 : Int32) + (1 : Int32))), .unset, .unset, .unset, .unset, .unset] [(.int (pj &&& (2 : Int32)))]))) (fun t kt => ?_) ?_
    · show Steps p.tables e below (T_113.setTop (mkF m 104 #[.val (.int pm), .val (.int pr), .val (.int pk), .val (.int pj), .val (.int po), .val (.ref ax), .val (.int kk), .val (.int (1 : Int32)), .unset, .unset, .unset, .unset, .unset] [])) t
      refine XS.iinc X_113.here hx rfl (hb hby at_104) rfl (l' := #[.val (.int pm), .val (.int pr), .val (.int pk), .val (.int pj), .val (.int po), .val (.ref ax), .val (.int kk), .val (.int ((1 : Int32) + (1 : Int32))), .unset, .unset, .unset, .unset, .unset]) rfl ?_
      show Steps p.tables e below (T_113.setTop (mkF m 107 #[.val (.int pm), .val (.int pr), .val (.int pk), .val (.int pj), .val (.int po), .val (.ref ax), .val (.int kk), .val (.int ((1 : Int32) + (1 : Int32))), .unset, .unset, .unset, .unset, .unset] [])) t
      refine XS.iloadN X_113.here hx rfl (hb hby at_107) rfl ?_
      show Steps p.tables e below (T_113.setTop (mkF m 108 #[.val (.int pm), .val (.int pr), .val (.int pk), .val (.int pj), .val (.int po), .val (.ref ax), .val (.int kk), .val (.int ((1 : Int32) + (1 : Int32))), .unset, .unset, .unset, .unset, .unset] [(.int pj)])) t
      refine XS.iconst X_113.here hx rfl (hb hby at_108) ?_
      show Steps p.tables e below (T_113.setTop (mkF m 109 #[.val (.int pm), .val (.int pr), .val (.int pk), .val (.int pj), .val (.int po), .val (.ref ax), .val (.int kk), .val (.int ((1 : Int32) + (1 : Int32))), .unset, .unset, .unset, .unset, .unset] [(.int (2 : Int32)), (.int pj)])) t
      refine XS.iand X_113.here hx rfl (hb hby at_109) rfl ?_
      exact kt
    by_cases c_129 : (pj &&& (2 : Int32)) = 0
    · -- (pj &&& (2 : Int32)) = 0
      refine Goes.go (U' := (T_113.setTop (mkF m 124 #[.val (.int pm), .val (.int pr), .val (.int pk), .val (.int pj), .val (.int po), .val (.ref ax), .val (.int kk), .val (.int ((1 : Int32) + (1 : Int32))), .unset, .unset, .unset, .unset, .unset] [(.int (pj &&& (4 : Int32)))]))) (fun t kt => ?_) ?_
      · show Steps p.tables e below (T_113.setTop (mkF m 110 #[.val (.int pm), .val (.int pr), .val (.int pk), .val (.int pj), .val (.int po), .val (.ref ax), .val (.int kk), .val (.int ((1 : Int32) + (1 : Int32))), .unset, .unset, .unset, .unset, .unset] [(.int (pj &&& (2 : Int32)))])) t
        refine XS.ifYes X_113.here hx rfl (pc0 := 110) (pc' := 121) rfl (hb hby at_110) rfl (XT.i0_eq_t c_129) (by decide) (by decide) ?_
        show Steps p.tables e below (T_113.setTop (mkF m 121 #[.val (.int pm), .val (.int pr), .val (.int pk), .val (.int pj), .val (.int po), .val (.ref ax), .val (.int kk), .val (.int ((1 : Int32) + (1 : Int32))), .unset, .unset, .unset, .unset, .unset] [])) t
        refine XS.iloadN X_113.here hx rfl (hb hby at_121) rfl ?_
        show Steps p.tables e below (T_113.setTop (mkF m 122 #[.val (.int pm), .val (.int pr), .val (.int pk), .val (.int pj), .val (.int po), .val (.ref ax), .val (.int kk), .val (.int ((1 : Int32) + (1 : Int32))), .unset, .unset, .unset, .unset, .unset] [(.int pj)])) t
        refine XS.iconst X_113.here hx rfl (hb hby at_122) ?_
        show Steps p.tables e below (T_113.setTop (mkF m 123 #[.val (.int pm), .val (.int pr), .val (.int pk), .val (.int pj), .val (.int po), .val (.ref ax), .val (.int kk), .val (.int ((1 : Int32) + (1 : Int32))), .unset, .unset, .unset, .unset, .unset] [(.int (4 : Int32)), (.int pj)])) t
        refine XS.iand X_113.here hx rfl (hb hby at_123) rfl ?_
        exact kt
      by_cases c_130 : (pj &&& (4 : Int32)) = 0
      · -- (pj &&& (4 : Int32)) = 0
        refine Goes.go (U' := (T_113.setTop (mkF m 135 #[.val (.int pm), .val (.int pr), .val (.int pk), .val (.int pj), .val (.int po), .val (.ref ax), .val (.int kk), .val (.int ((1 : Int32) + (1 : Int32))), .unset, .unset, .unset, .unset, .unset] []))) (fun t kt => ?_) ?_
        · show Steps p.tables e below (T_113.setTop (mkF m 124 #[.val (.int pm), .val (.int pr), .val (.int pk), .val (.int pj), .val (.int po), .val (.ref ax), .val (.int kk), .val (.int ((1 : Int32) + (1 : Int32))), .unset, .unset, .unset, .unset, .unset] [(.int (pj &&& (4 : Int32)))])) t
          refine XS.ifYes X_113.here hx rfl (pc0 := 124) (pc' := 135) rfl (hb hby at_124) rfl (XT.i0_eq_t c_130) (by decide) (by decide) ?_
          exact kt
        have hs : (((1 : Int32) + (1 : Int32)) : Int32).toInt = 2 := by decide
        exact law_135 l Z a0 hw pm pr pk pj po ax kk ((1 : Int32) + (1 : Int32)) z1 h0 n0 Z0 p e s m below meth c hx hby hml hown hnm hret hlk hZ _ _ _ X_113 (rfl : T_113.heap = T_113.heap) N_113 K_128 (by omega) (by omega) hk1 hk2 rz f_114 Gsince__113 Grisk__113
      · -- not (pj &&& (4 : Int32)) = 0
        refine Goes.go (U' := (T_113.setTop (mkF m 129 #[.val (.int pm), .val (.int pr), .val (.int pk), .val (.int pj), .val (.int po), .val (.ref ax), .val (.int kk), .val (.int ((1 : Int32) + (1 : Int32))), .unset, .unset, .unset, .unset, .unset] [(.ref ax)]))) (fun t kt => ?_) ?_
        · show Steps p.tables e below (T_113.setTop (mkF m 124 #[.val (.int pm), .val (.int pr), .val (.int pk), .val (.int pj), .val (.int po), .val (.ref ax), .val (.int kk), .val (.int ((1 : Int32) + (1 : Int32))), .unset, .unset, .unset, .unset, .unset] [(.int (pj &&& (4 : Int32)))])) t
          refine XS.ifNo X_113.here hx rfl (hb hby at_124) rfl (XT.i0_eq_f c_130) ?_
          show Steps p.tables e below (T_113.setTop (mkF m 127 #[.val (.int pm), .val (.int pr), .val (.int pk), .val (.int pj), .val (.int po), .val (.ref ax), .val (.int kk), .val (.int ((1 : Int32) + (1 : Int32))), .unset, .unset, .unset, .unset, .unset] [])) t
          refine XS.aload X_113.here hx rfl (hb hby at_127) rfl rfl ?_
          exact kt
        obtain ⟨v_131, T_131, L_131, X_131, q_131, st_131⟩ := callVirtual X_113 hx hZ (y := (⟨"com/example/dead_letter_replay/deadletterreplay/queue/Carries", "counted", "()V"⟩ : MethodName)) (z := (⟨"com/example/dead_letter_replay/deadletterreplay/queue/Carries", "counted", "()V"⟩ : MethodName)) (W := 0) hown (wdOf hw 16 rfl) (wdOf hw 17 rfl) (notFace_of_selects (args := #[]) (mvT hZ (wdOf hw 19 rfl))) (wdOf hw 19 rfl) (wdOf hw 18 rfl) (wdOf hw 2 rfl) (wdOf hw 20 rfl) (by decide) (rm_cn l Z a0 hw [] ax ((1 : Int32) + (1 : Int32)) z1.toInt32 (0 : Int32) (.ref b_1) (.ref fr) T_113.heap n0 y_128 oa f_114 Gsince__113 Glast__113 Grisk__113 Gfirst__113 Gheld__113) (by decide) (by decide) (by decide) (by decide) (rfl : T_113.heap = T_113.heap) f_114 (g := (mkF m 129 #[.val (.int pm), .val (.int pr), .val (.int pk), .val (.int pj), .val (.int po), .val (.ref ax), .val (.int kk), .val (.int ((1 : Int32) + (1 : Int32))), .unset, .unset, .unset, .unset, .unset] [(.ref ax)])) rfl (by rw [hml]; rfl) (argsL := []) (rest := []) (lenOf pd_0 rfl) rfl rfl (Nat.le_refl _) (hb hby at_129)
        obtain ⟨rfl, n_131, K_131, GE__131, Gsince__131, Glast__131, Grisk__131, Gfirst__131, Gheld__131⟩ := q_131
        have N_131 := Fr.app N_113 n_131
        have f_132 : Exa Z T_131.heap ax "com/example/dead_letter_replay/deadletterreplay/queue/Carries" := f_114.keep K_131
        have f_133 : Old Z n0 T_131.heap := f_115.keep K_131 (allS oa all0)
        have f_134 : Exa Z T_131.heap b_1 "com/example/dead_letter_replay/deadletterreplay/queue/Carries$Carried" := f_116.keep K_131
        have f_135 : Exa Z T_131.heap r_15 "java/lang/Long" := f_117.keep K_131
        have f_136 : Fld Z T_131.heap r_15 "java/lang/Long" "value" "J" (.long (0 : Int64)) := f_118.keep K_131 (ninS nla nin0)
        have f_137 : Fld Z T_131.heap b_1 "com/example/dead_letter_replay/deadletterreplay/queue/Carries$Carried" "from" "Ljava/lang/Long;" (.ref r_15) := f_119.keep K_131 (ninS (Ne.symm ne_2) nin0)
        have f_138 : Fld Z T_131.heap b_1 "com/example/dead_letter_replay/deadletterreplay/queue/Carries$Carried" "era" "J" (.long ((pr.toInt64) - (1 : Int64))) := f_120.keep K_131 (ninS (Ne.symm ne_2) nin0)
        have f_139 : Fld Z T_131.heap b_1 "com/example/dead_letter_replay/deadletterreplay/queue/Carries$Carried" "transaction" "J" (.long (0 : Int64)) := f_121.keep K_131 (ninS (Ne.symm ne_2) nin0)
        have f_140 : Fld Z T_131.heap b_1 "com/example/dead_letter_replay/deadletterreplay/queue/Carries$Carried" "backend" "I" (.int (0 : Int32)) := f_122.keep K_131 (ninS (Ne.symm ne_2) nin0)
        have K_146 : Keep h0 T_131.heap [] := K_128.trans K_131 (allS (P := fun x => x ∈ [] ∨ h0.size ≤ x) (Or.inr za) all0)
        have y_146 : n0 ≤ T_131.heap.size := Nat.le_trans Z0 K_146.1
        refine Goes.go (U' := (T_131.setTop (mkF m 132 #[.val (.int pm), .val (.int pr), .val (.int pk), .val (.int pj), .val (.int po), .val (.ref ax), .val (.int kk), .val (.int ((1 : Int32) + (1 : Int32))), .unset, .unset, .unset, .unset, .unset] []))) st_131 ?_
        refine Goes.go (U' := (T_131.setTop (mkF m 135 #[.val (.int pm), .val (.int pr), .val (.int pk), .val (.int pj), .val (.int po), .val (.ref ax), .val (.int kk), .val (.int (((1 : Int32) + (1 : Int32)) + (1 : Int32))), .unset, .unset, .unset, .unset, .unset] []))) (fun t kt => ?_) ?_
        · show Steps p.tables e below (T_131.setTop (mkF m 132 #[.val (.int pm), .val (.int pr), .val (.int pk), .val (.int pj), .val (.int po), .val (.ref ax), .val (.int kk), .val (.int ((1 : Int32) + (1 : Int32))), .unset, .unset, .unset, .unset, .unset] [])) t
          refine XS.iinc X_131.here hx rfl (hb hby at_132) rfl (l' := #[.val (.int pm), .val (.int pr), .val (.int pk), .val (.int pj), .val (.int po), .val (.ref ax), .val (.int kk), .val (.int (((1 : Int32) + (1 : Int32)) + (1 : Int32))), .unset, .unset, .unset, .unset, .unset]) rfl ?_
          exact kt
        have hs : ((((1 : Int32) + (1 : Int32)) + (1 : Int32)) : Int32).toInt = 3 := by decide
        exact law_135 l Z a0 hw pm pr pk pj po ax kk (((1 : Int32) + (1 : Int32)) + (1 : Int32)) z1 h0 n0 Z0 p e s m below meth c hx hby hml hown hnm hret hlk hZ _ _ _ X_131 (rfl : T_131.heap = T_131.heap) N_131 K_146 (by omega) (by omega) hk1 hk2 rz f_132 Gsince__131 Grisk__131
    · -- not (pj &&& (2 : Int32)) = 0
      refine Goes.go (U' := (T_113.setTop (mkF m 115 #[.val (.int pm), .val (.int pr), .val (.int pk), .val (.int pj), .val (.int po), .val (.ref ax), .val (.int kk), .val (.int ((1 : Int32) + (1 : Int32))), .unset, .unset, .unset, .unset, .unset] [(.ref ax)]))) (fun t kt => ?_) ?_
      · show Steps p.tables e below (T_113.setTop (mkF m 110 #[.val (.int pm), .val (.int pr), .val (.int pk), .val (.int pj), .val (.int po), .val (.ref ax), .val (.int kk), .val (.int ((1 : Int32) + (1 : Int32))), .unset, .unset, .unset, .unset, .unset] [(.int (pj &&& (2 : Int32)))])) t
        refine XS.ifNo X_113.here hx rfl (hb hby at_110) rfl (XT.i0_eq_f c_129) ?_
        show Steps p.tables e below (T_113.setTop (mkF m 113 #[.val (.int pm), .val (.int pr), .val (.int pk), .val (.int pj), .val (.int po), .val (.ref ax), .val (.int kk), .val (.int ((1 : Int32) + (1 : Int32))), .unset, .unset, .unset, .unset, .unset] [])) t
        refine XS.aload X_113.here hx rfl (hb hby at_113) rfl rfl ?_
        exact kt
      obtain ⟨v_147, T_147, L_147, X_147, q_147, st_147⟩ := callVirtual X_113 hx hZ (y := (⟨"com/example/dead_letter_replay/deadletterreplay/queue/Carries", "counted", "()V"⟩ : MethodName)) (z := (⟨"com/example/dead_letter_replay/deadletterreplay/queue/Carries", "counted", "()V"⟩ : MethodName)) (W := 0) hown (wdOf hw 16 rfl) (wdOf hw 17 rfl) (notFace_of_selects (args := #[]) (mvT hZ (wdOf hw 19 rfl))) (wdOf hw 19 rfl) (wdOf hw 18 rfl) (wdOf hw 2 rfl) (wdOf hw 20 rfl) (by decide) (rm_cn l Z a0 hw [] ax ((1 : Int32) + (1 : Int32)) z1.toInt32 (0 : Int32) (.ref b_1) (.ref fr) T_113.heap n0 y_128 oa f_114 Gsince__113 Glast__113 Grisk__113 Gfirst__113 Gheld__113) (by decide) (by decide) (by decide) (by decide) (rfl : T_113.heap = T_113.heap) f_114 (g := (mkF m 115 #[.val (.int pm), .val (.int pr), .val (.int pk), .val (.int pj), .val (.int po), .val (.ref ax), .val (.int kk), .val (.int ((1 : Int32) + (1 : Int32))), .unset, .unset, .unset, .unset, .unset] [(.ref ax)])) rfl (by rw [hml]; rfl) (argsL := []) (rest := []) (lenOf pd_0 rfl) rfl rfl (Nat.le_refl _) (hb hby at_115)
      obtain ⟨rfl, n_147, K_147, GE__147, Gsince__147, Glast__147, Grisk__147, Gfirst__147, Gheld__147⟩ := q_147
      have N_147 := Fr.app N_113 n_147
      have f_148 : Exa Z T_147.heap ax "com/example/dead_letter_replay/deadletterreplay/queue/Carries" := f_114.keep K_147
      have f_149 : Old Z n0 T_147.heap := f_115.keep K_147 (allS oa all0)
      have f_150 : Exa Z T_147.heap b_1 "com/example/dead_letter_replay/deadletterreplay/queue/Carries$Carried" := f_116.keep K_147
      have f_151 : Exa Z T_147.heap r_15 "java/lang/Long" := f_117.keep K_147
      have f_152 : Fld Z T_147.heap r_15 "java/lang/Long" "value" "J" (.long (0 : Int64)) := f_118.keep K_147 (ninS nla nin0)
      have f_153 : Fld Z T_147.heap b_1 "com/example/dead_letter_replay/deadletterreplay/queue/Carries$Carried" "from" "Ljava/lang/Long;" (.ref r_15) := f_119.keep K_147 (ninS (Ne.symm ne_2) nin0)
      have f_154 : Fld Z T_147.heap b_1 "com/example/dead_letter_replay/deadletterreplay/queue/Carries$Carried" "era" "J" (.long ((pr.toInt64) - (1 : Int64))) := f_120.keep K_147 (ninS (Ne.symm ne_2) nin0)
      have f_155 : Fld Z T_147.heap b_1 "com/example/dead_letter_replay/deadletterreplay/queue/Carries$Carried" "transaction" "J" (.long (0 : Int64)) := f_121.keep K_147 (ninS (Ne.symm ne_2) nin0)
      have f_156 : Fld Z T_147.heap b_1 "com/example/dead_letter_replay/deadletterreplay/queue/Carries$Carried" "backend" "I" (.int (0 : Int32)) := f_122.keep K_147 (ninS (Ne.symm ne_2) nin0)
      have K_162 : Keep h0 T_147.heap [] := K_128.trans K_147 (allS (P := fun x => x ∈ [] ∨ h0.size ≤ x) (Or.inr za) all0)
      have y_162 : n0 ≤ T_147.heap.size := Nat.le_trans Z0 K_162.1
      refine Goes.go (U' := (T_147.setTop (mkF m 118 #[.val (.int pm), .val (.int pr), .val (.int pk), .val (.int pj), .val (.int po), .val (.ref ax), .val (.int kk), .val (.int ((1 : Int32) + (1 : Int32))), .unset, .unset, .unset, .unset, .unset] []))) st_147 ?_
      refine Goes.go (U' := (T_147.setTop (mkF m 124 #[.val (.int pm), .val (.int pr), .val (.int pk), .val (.int pj), .val (.int po), .val (.ref ax), .val (.int kk), .val (.int (((1 : Int32) + (1 : Int32)) + (1 : Int32))), .unset, .unset, .unset, .unset, .unset] [(.int (pj &&& (4 : Int32)))]))) (fun t kt => ?_) ?_
      · show Steps p.tables e below (T_147.setTop (mkF m 118 #[.val (.int pm), .val (.int pr), .val (.int pk), .val (.int pj), .val (.int po), .val (.ref ax), .val (.int kk), .val (.int ((1 : Int32) + (1 : Int32))), .unset, .unset, .unset, .unset, .unset] [])) t
        refine XS.iinc X_147.here hx rfl (hb hby at_118) rfl (l' := #[.val (.int pm), .val (.int pr), .val (.int pk), .val (.int pj), .val (.int po), .val (.ref ax), .val (.int kk), .val (.int (((1 : Int32) + (1 : Int32)) + (1 : Int32))), .unset, .unset, .unset, .unset, .unset]) rfl ?_
        show Steps p.tables e below (T_147.setTop (mkF m 121 #[.val (.int pm), .val (.int pr), .val (.int pk), .val (.int pj), .val (.int po), .val (.ref ax), .val (.int kk), .val (.int (((1 : Int32) + (1 : Int32)) + (1 : Int32))), .unset, .unset, .unset, .unset, .unset] [])) t
        refine XS.iloadN X_147.here hx rfl (hb hby at_121) rfl ?_
        show Steps p.tables e below (T_147.setTop (mkF m 122 #[.val (.int pm), .val (.int pr), .val (.int pk), .val (.int pj), .val (.int po), .val (.ref ax), .val (.int kk), .val (.int (((1 : Int32) + (1 : Int32)) + (1 : Int32))), .unset, .unset, .unset, .unset, .unset] [(.int pj)])) t
        refine XS.iconst X_147.here hx rfl (hb hby at_122) ?_
        show Steps p.tables e below (T_147.setTop (mkF m 123 #[.val (.int pm), .val (.int pr), .val (.int pk), .val (.int pj), .val (.int po), .val (.ref ax), .val (.int kk), .val (.int (((1 : Int32) + (1 : Int32)) + (1 : Int32))), .unset, .unset, .unset, .unset, .unset] [(.int (4 : Int32)), (.int pj)])) t
        refine XS.iand X_147.here hx rfl (hb hby at_123) rfl ?_
        exact kt
      by_cases c_163 : (pj &&& (4 : Int32)) = 0
      · -- (pj &&& (4 : Int32)) = 0
        refine Goes.go (U' := (T_147.setTop (mkF m 135 #[.val (.int pm), .val (.int pr), .val (.int pk), .val (.int pj), .val (.int po), .val (.ref ax), .val (.int kk), .val (.int (((1 : Int32) + (1 : Int32)) + (1 : Int32))), .unset, .unset, .unset, .unset, .unset] []))) (fun t kt => ?_) ?_
        · show Steps p.tables e below (T_147.setTop (mkF m 124 #[.val (.int pm), .val (.int pr), .val (.int pk), .val (.int pj), .val (.int po), .val (.ref ax), .val (.int kk), .val (.int (((1 : Int32) + (1 : Int32)) + (1 : Int32))), .unset, .unset, .unset, .unset, .unset] [(.int (pj &&& (4 : Int32)))])) t
          refine XS.ifYes X_147.here hx rfl (pc0 := 124) (pc' := 135) rfl (hb hby at_124) rfl (XT.i0_eq_t c_163) (by decide) (by decide) ?_
          exact kt
        have hs : ((((1 : Int32) + (1 : Int32)) + (1 : Int32)) : Int32).toInt = 3 := by decide
        exact law_135 l Z a0 hw pm pr pk pj po ax kk (((1 : Int32) + (1 : Int32)) + (1 : Int32)) z1 h0 n0 Z0 p e s m below meth c hx hby hml hown hnm hret hlk hZ _ _ _ X_147 (rfl : T_147.heap = T_147.heap) N_147 K_162 (by omega) (by omega) hk1 hk2 rz f_148 Gsince__147 Grisk__147
      · -- not (pj &&& (4 : Int32)) = 0
        refine Goes.go (U' := (T_147.setTop (mkF m 129 #[.val (.int pm), .val (.int pr), .val (.int pk), .val (.int pj), .val (.int po), .val (.ref ax), .val (.int kk), .val (.int (((1 : Int32) + (1 : Int32)) + (1 : Int32))), .unset, .unset, .unset, .unset, .unset] [(.ref ax)]))) (fun t kt => ?_) ?_
        · show Steps p.tables e below (T_147.setTop (mkF m 124 #[.val (.int pm), .val (.int pr), .val (.int pk), .val (.int pj), .val (.int po), .val (.ref ax), .val (.int kk), .val (.int (((1 : Int32) + (1 : Int32)) + (1 : Int32))), .unset, .unset, .unset, .unset, .unset] [(.int (pj &&& (4 : Int32)))])) t
          refine XS.ifNo X_147.here hx rfl (hb hby at_124) rfl (XT.i0_eq_f c_163) ?_
          show Steps p.tables e below (T_147.setTop (mkF m 127 #[.val (.int pm), .val (.int pr), .val (.int pk), .val (.int pj), .val (.int po), .val (.ref ax), .val (.int kk), .val (.int (((1 : Int32) + (1 : Int32)) + (1 : Int32))), .unset, .unset, .unset, .unset, .unset] [])) t
          refine XS.aload X_147.here hx rfl (hb hby at_127) rfl rfl ?_
          exact kt
        obtain ⟨v_164, T_164, L_164, X_164, q_164, st_164⟩ := callVirtual X_147 hx hZ (y := (⟨"com/example/dead_letter_replay/deadletterreplay/queue/Carries", "counted", "()V"⟩ : MethodName)) (z := (⟨"com/example/dead_letter_replay/deadletterreplay/queue/Carries", "counted", "()V"⟩ : MethodName)) (W := 0) hown (wdOf hw 16 rfl) (wdOf hw 17 rfl) (notFace_of_selects (args := #[]) (mvT hZ (wdOf hw 19 rfl))) (wdOf hw 19 rfl) (wdOf hw 18 rfl) (wdOf hw 2 rfl) (wdOf hw 20 rfl) (by decide) (rm_cn l Z a0 hw [] ax (((1 : Int32) + (1 : Int32)) + (1 : Int32)) z1.toInt32 (0 : Int32) (.ref b_1) (.ref fr) T_147.heap n0 y_162 oa f_148 Gsince__147 Glast__147 Grisk__147 Gfirst__147 Gheld__147) (by decide) (by decide) (by decide) (by decide) (rfl : T_147.heap = T_147.heap) f_148 (g := (mkF m 129 #[.val (.int pm), .val (.int pr), .val (.int pk), .val (.int pj), .val (.int po), .val (.ref ax), .val (.int kk), .val (.int (((1 : Int32) + (1 : Int32)) + (1 : Int32))), .unset, .unset, .unset, .unset, .unset] [(.ref ax)])) rfl (by rw [hml]; rfl) (argsL := []) (rest := []) (lenOf pd_0 rfl) rfl rfl (Nat.le_refl _) (hb hby at_129)
        obtain ⟨rfl, n_164, K_164, GE__164, Gsince__164, Glast__164, Grisk__164, Gfirst__164, Gheld__164⟩ := q_164
        have N_164 := Fr.app N_147 n_164
        have f_165 : Exa Z T_164.heap ax "com/example/dead_letter_replay/deadletterreplay/queue/Carries" := f_148.keep K_164
        have f_166 : Old Z n0 T_164.heap := f_149.keep K_164 (allS oa all0)
        have f_167 : Exa Z T_164.heap b_1 "com/example/dead_letter_replay/deadletterreplay/queue/Carries$Carried" := f_150.keep K_164
        have f_168 : Exa Z T_164.heap r_15 "java/lang/Long" := f_151.keep K_164
        have f_169 : Fld Z T_164.heap r_15 "java/lang/Long" "value" "J" (.long (0 : Int64)) := f_152.keep K_164 (ninS nla nin0)
        have f_170 : Fld Z T_164.heap b_1 "com/example/dead_letter_replay/deadletterreplay/queue/Carries$Carried" "from" "Ljava/lang/Long;" (.ref r_15) := f_153.keep K_164 (ninS (Ne.symm ne_2) nin0)
        have f_171 : Fld Z T_164.heap b_1 "com/example/dead_letter_replay/deadletterreplay/queue/Carries$Carried" "era" "J" (.long ((pr.toInt64) - (1 : Int64))) := f_154.keep K_164 (ninS (Ne.symm ne_2) nin0)
        have f_172 : Fld Z T_164.heap b_1 "com/example/dead_letter_replay/deadletterreplay/queue/Carries$Carried" "transaction" "J" (.long (0 : Int64)) := f_155.keep K_164 (ninS (Ne.symm ne_2) nin0)
        have f_173 : Fld Z T_164.heap b_1 "com/example/dead_letter_replay/deadletterreplay/queue/Carries$Carried" "backend" "I" (.int (0 : Int32)) := f_156.keep K_164 (ninS (Ne.symm ne_2) nin0)
        have K_179 : Keep h0 T_164.heap [] := K_162.trans K_164 (allS (P := fun x => x ∈ [] ∨ h0.size ≤ x) (Or.inr za) all0)
        have y_179 : n0 ≤ T_164.heap.size := Nat.le_trans Z0 K_179.1
        refine Goes.go (U' := (T_164.setTop (mkF m 132 #[.val (.int pm), .val (.int pr), .val (.int pk), .val (.int pj), .val (.int po), .val (.ref ax), .val (.int kk), .val (.int (((1 : Int32) + (1 : Int32)) + (1 : Int32))), .unset, .unset, .unset, .unset, .unset] []))) st_164 ?_
        refine Goes.go (U' := (T_164.setTop (mkF m 135 #[.val (.int pm), .val (.int pr), .val (.int pk), .val (.int pj), .val (.int po), .val (.ref ax), .val (.int kk), .val (.int ((((1 : Int32) + (1 : Int32)) + (1 : Int32)) + (1 : Int32))), .unset, .unset, .unset, .unset, .unset] []))) (fun t kt => ?_) ?_
        · show Steps p.tables e below (T_164.setTop (mkF m 132 #[.val (.int pm), .val (.int pr), .val (.int pk), .val (.int pj), .val (.int po), .val (.ref ax), .val (.int kk), .val (.int (((1 : Int32) + (1 : Int32)) + (1 : Int32))), .unset, .unset, .unset, .unset, .unset] [])) t
          refine XS.iinc X_164.here hx rfl (hb hby at_132) rfl (l' := #[.val (.int pm), .val (.int pr), .val (.int pk), .val (.int pj), .val (.int po), .val (.ref ax), .val (.int kk), .val (.int ((((1 : Int32) + (1 : Int32)) + (1 : Int32)) + (1 : Int32))), .unset, .unset, .unset, .unset, .unset]) rfl ?_
          exact kt
        have hs : (((((1 : Int32) + (1 : Int32)) + (1 : Int32)) + (1 : Int32)) : Int32).toInt = 4 := by decide
        exact law_135 l Z a0 hw pm pr pk pj po ax kk ((((1 : Int32) + (1 : Int32)) + (1 : Int32)) + (1 : Int32)) z1 h0 n0 Z0 p e s m below meth c hx hby hml hown hnm hret hlk hZ _ _ _ X_164 (rfl : T_164.heap = T_164.heap) N_164 K_179 (by omega) (by omega) hk1 hk2 rz f_165 Gsince__164 Grisk__164
set_option maxHeartbeats 4000000 in
theorem ef_rm_law (m : MethodId) (x0 : Int32) (x1 : Int32) (x2 : Int32) (x3 : Int32) (x4 : Int32)  : entryFrame m #[(.int x0), (.int x1), (.int x2), (.int x3), (.int x4)] maxLocals = mkF m 0 #[.val (.int x0), .val (.int x1), .val (.int x2), .val (.int x3), .val (.int x4), .unset, .unset, .unset, .unset, .unset, .unset, .unset, .unset] [] := by first | (simp [entryFrame, mkF, argsToLocals, catR, catN, catI, catJ, maxLocals]; done) | rfl
set_option maxRecDepth 65536 in
set_option maxHeartbeats 40000000 in
theorem rm_law (l : Launch) (Z : State) (a0 : Array Value) (hw : ∀ d ∈ tables_1, d.before a0 Z = true) (ws : List Jvm.Cond) (pm pr pk pj po : Int32) (h0 : Heap) (n0 : Nat) (Z0 : n0 ≤ h0.size) (O : Old Z n0 h0) (BC : BoxC Z "java/lang/Long$LongCache" "[Ljava/lang/Long;" "java/lang/Long" "J" (fun i => .long (i.toInt32 - 128).toInt64)) :
    Pays l Z x code maxLocals ret ws room_1 #[(.int pm), (.int pr), (.int pk), (.int pj), (.int po)] h0 (fun v h L => v = some (.int 1) ∧ Fr n0 L) := by
  refine Pays.of (plainFor_of_name (by first | (simp [plainName, overriddenIn]; done) | decide +kernel)) ?_
  intro p e s m below meth c s₁ hx hby hml hown hnm hret hlk hZ e0 X0
  have N0 := Fr.nil n0
  have K0 : Keep h0 h0 [] := Keep.refl _ _
  refine Goes.go (U' := (s₁.setTop (mkF m 0 #[.val (.int pm), .val (.int pr), .val (.int pk), .val (.int pj), .val (.int po), .unset, .unset, .unset, .unset, .unset, .unset, .unset, .unset] []))) (fun t kt => castTop (ef_rm_law m pm pr pk pj po) kt) ?_
  obtain ⟨T_1, h_1, X_1, e_1, E_1, A_1, D_1, -, st_1⟩ := newO X0 hx hZ hown (wdOf hw 0 rfl) (wdOf hw 1 rfl) (wdOf hw 2 rfl) e0 (g := (mkF m 0 #[.val (.int pm), .val (.int pr), .val (.int pk), .val (.int pj), .val (.int po), .unset, .unset, .unset, .unset, .unset, .unset, .unset, .unset] [])) rfl (hb hby at_0) (by decide) (by decide)
  obtain ⟨b_1, g_1⟩ : ∃ z, z = h0.size := ⟨_, rfl⟩
  rw [← g_1] at A_1 D_1 st_1
  have o_1 : n0 ≤ b_1 := Nat.le_trans Z0 (Nat.le_of_eq g_1.symm)
  have z_1 : h0.size ≤ b_1 := Nat.le_trans K0.1 (Nat.le_of_eq g_1.symm)
  have f_2 : Old Z n0 h_1 := O.ext E_1
  have f_3 : Fld Z h_1 b_1 "com/example/dead_letter_replay/deadletterreplay/queue/Carries" "since" "I" (.int (0 : Int32)) := D_1 (Or.inl (wdOf hw 15 rfl)) (ty := .int) (by decide)
  have f_4 : Fld Z h_1 b_1 "com/example/dead_letter_replay/deadletterreplay/queue/Carries" "last" "Lcom/example/dead_letter_replay/deadletterreplay/queue/Carries$Carried;" .null := D_1 (Or.inl (wdOf hw 59 rfl)) (ty := (.object "com/example/dead_letter_replay/deadletterreplay/queue/Carries$Carried")) (by decide)
  have f_5 : Fld Z h_1 b_1 "com/example/dead_letter_replay/deadletterreplay/queue/Carries" "risk" "I" (.int (0 : Int32)) := D_1 (Or.inl (wdOf hw 70 rfl)) (ty := .int) (by decide)
  have f_6 : Fld Z h_1 b_1 "com/example/dead_letter_replay/deadletterreplay/queue/Carries" "first" "Ljava/lang/Long;" .null := D_1 (Or.inl (wdOf hw 88 rfl)) (ty := (.object "java/lang/Long")) (by decide)
  have f_7 : Fld Z h_1 b_1 "com/example/dead_letter_replay/deadletterreplay/queue/Carries" "held" "Z" (.int (0 : Int32)) := D_1 (Or.inl (wdOf hw 109 rfl)) (ty := .boolean) (by decide)
  have K_8 : Keep h0 h_1 [] := K0.ext E_1
  have y_8 : n0 ≤ h_1.size := Nat.le_trans Z0 K_8.1
  refine Goes.go (U' := (T_1.setTop (mkF m 3 #[.val (.int pm), .val (.int pr), .val (.int pk), .val (.int pj), .val (.int po), .unset, .unset, .unset, .unset, .unset, .unset, .unset, .unset] [(.ref b_1)]))) st_1 ?_
  refine Goes.go (U' := (T_1.setTop (mkF m 4 #[.val (.int pm), .val (.int pr), .val (.int pk), .val (.int pj), .val (.int po), .unset, .unset, .unset, .unset, .unset, .unset, .unset, .unset] [(.ref b_1), (.ref b_1)]))) (fun t kt => ?_) ?_
  · show Steps p.tables e below (T_1.setTop (mkF m 3 #[.val (.int pm), .val (.int pr), .val (.int pk), .val (.int pj), .val (.int po), .unset, .unset, .unset, .unset, .unset, .unset, .unset, .unset] [(.ref b_1)])) t
    refine XS.dup X_1.here hx rfl (hb hby at_3) rfl rfl ?_
    exact kt
  obtain ⟨v_9, T_9, L_9, X_9, q_9, st_9⟩ := callInit X_1 hx hZ (y := (⟨"com/example/dead_letter_replay/deadletterreplay/queue/Carries", "<init>", "()V"⟩ : MethodName)) (W := 1) rfl hown (wdOf hw 3 rfl) (wdOf hw 4 rfl) (wdOf hw 2 rfl) (wdOf hw 5 rfl) (by decide) (rm_ca l Z a0 hw [] b_1 h_1 n0 y_8) (by decide) (by decide) (by decide) (by decide) e_1 (b := b_1) (g := (mkF m 4 #[.val (.int pm), .val (.int pr), .val (.int pk), .val (.int pj), .val (.int po), .unset, .unset, .unset, .unset, .unset, .unset, .unset, .unset] [(.ref b_1), (.ref b_1)])) rfl (by rw [hml]; rfl) (argsL := []) (rest := [(.ref b_1)]) (lenOf pd_0 rfl) rfl rfl (Nat.le_refl _) (hb hby at_4)
  obtain ⟨rfl, n_9, K_9⟩ := q_9
  have N_9 := Fr.app N0 n_9
  refine Goes.go (U' := (T_9.setTop (mkF m 7 #[.val (.int pm), .val (.int pr), .val (.int pk), .val (.int pj), .val (.int po), .unset, .unset, .unset, .unset, .unset, .unset, .unset, .unset] [(.ref b_1)]))) st_9 ?_
  refine Goes.go (U' := (T_9.setTop (mkF m 13 #[.val (.int pm), .val (.int pr), .val (.int pk), .val (.int pj), .val (.int po), .val (.ref b_1), .unset, .unset, .unset, .unset, .unset, .unset, .unset] [(.int (po &&& (1 : Int32)))]))) (fun t kt => ?_) ?_
  · show Steps p.tables e below (T_9.setTop (mkF m 7 #[.val (.int pm), .val (.int pr), .val (.int pk), .val (.int pj), .val (.int po), .unset, .unset, .unset, .unset, .unset, .unset, .unset, .unset] [(.ref b_1)])) t
    refine XS.astore X_9.here hx rfl (hb hby at_7) rfl rfl (l' := #[.val (.int pm), .val (.int pr), .val (.int pk), .val (.int pj), .val (.int po), .val (.ref b_1), .unset, .unset, .unset, .unset, .unset, .unset, .unset]) rfl ?_
    show Steps p.tables e below (T_9.setTop (mkF m 9 #[.val (.int pm), .val (.int pr), .val (.int pk), .val (.int pj), .val (.int po), .val (.ref b_1), .unset, .unset, .unset, .unset, .unset, .unset, .unset] [])) t
    refine XS.iload X_9.here hx rfl (hb hby at_9) rfl ?_
    show Steps p.tables e below (T_9.setTop (mkF m 11 #[.val (.int pm), .val (.int pr), .val (.int pk), .val (.int pj), .val (.int po), .val (.ref b_1), .unset, .unset, .unset, .unset, .unset, .unset, .unset] [(.int po)])) t
    refine XS.iconst X_9.here hx rfl (hb hby at_11) ?_
    show Steps p.tables e below (T_9.setTop (mkF m 12 #[.val (.int pm), .val (.int pr), .val (.int pk), .val (.int pj), .val (.int po), .val (.ref b_1), .unset, .unset, .unset, .unset, .unset, .unset, .unset] [(.int (1 : Int32)), (.int po)])) t
    refine XS.iand X_9.here hx rfl (hb hby at_12) rfl ?_
    exact kt
  by_cases c_10 : (po &&& (1 : Int32)) = 0
  · -- (po &&& (1 : Int32)) = 0
    refine Goes.go (U' := (T_9.setTop (mkF m 19 #[.val (.int pm), .val (.int pr), .val (.int pk), .val (.int pj), .val (.int po), .val (.ref b_1), .unset, .unset, .unset, .unset, .unset, .unset, .unset] [(.int pm), (.ref b_1)]))) (fun t kt => ?_) ?_
    · show Steps p.tables e below (T_9.setTop (mkF m 13 #[.val (.int pm), .val (.int pr), .val (.int pk), .val (.int pj), .val (.int po), .val (.ref b_1), .unset, .unset, .unset, .unset, .unset, .unset, .unset] [(.int (po &&& (1 : Int32)))])) t
      refine XS.ifNo X_9.here hx rfl (hb hby at_13) rfl (XT.i0_ne_f c_10) ?_
      show Steps p.tables e below (T_9.setTop (mkF m 16 #[.val (.int pm), .val (.int pr), .val (.int pk), .val (.int pj), .val (.int po), .val (.ref b_1), .unset, .unset, .unset, .unset, .unset, .unset, .unset] [])) t
      refine XS.aload X_9.here hx rfl (hb hby at_16) rfl rfl ?_
      show Steps p.tables e below (T_9.setTop (mkF m 18 #[.val (.int pm), .val (.int pr), .val (.int pk), .val (.int pj), .val (.int po), .val (.ref b_1), .unset, .unset, .unset, .unset, .unset, .unset, .unset] [(.ref b_1)])) t
      refine XS.iloadN X_9.here hx rfl (hb hby at_18) rfl ?_
      exact kt
    obtain ⟨v_11, T_11, L_11, X_11, q_11, st_11⟩ := callVirtual X_9 hx hZ (y := (⟨"com/example/dead_letter_replay/deadletterreplay/queue/Carries", "due", "(I)Z"⟩ : MethodName)) (z := (⟨"com/example/dead_letter_replay/deadletterreplay/queue/Carries", "due", "(I)Z"⟩ : MethodName)) (W := 0) hown (wdOf hw 9 rfl) (wdOf hw 10 rfl) (notFace_of_selects (args := #[]) (mvT hZ (wdOf hw 12 rfl))) (wdOf hw 12 rfl) (wdOf hw 11 rfl) (wdOf hw 2 rfl) (wdOf hw 13 rfl) (by decide) (rm_due l Z a0 hw [] b_1 pm (0 : Int32) (0 : Int32) (1 : Int32) h_1 n0 y_8 f_3 f_5 (by simp)) (by decide) (by decide) (by decide) (by decide) K_9 A_1 (g := (mkF m 19 #[.val (.int pm), .val (.int pr), .val (.int pk), .val (.int pj), .val (.int po), .val (.ref b_1), .unset, .unset, .unset, .unset, .unset, .unset, .unset] [(.int pm), (.ref b_1)])) rfl (by rw [hml]; rfl) (argsL := [(.int pm)]) (rest := []) (lenOf pd_8 rfl) rfl rfl (Nat.le_refl _) (hb hby at_19)
    obtain ⟨rfl, n_11, K_11⟩ := q_11
    have N_11 := Fr.app N_9 n_11
    refine Goes.go (U' := (T_11.setTop (mkF m 22 #[.val (.int pm), .val (.int pr), .val (.int pk), .val (.int pj), .val (.int po), .val (.ref b_1), .unset, .unset, .unset, .unset, .unset, .unset, .unset] [(.int (1 : Int32))]))) st_11 ?_
    refine Goes.retB X_11 hx hlk hret (hb hby at_22) (by decide) (by decide) ?_
    try rw [K_11]
    exact ⟨rfl, N_11⟩
  · -- not (po &&& (1 : Int32)) = 0
    refine Goes.go (U' := (T_9.setTop (mkF m 29 #[.val (.int pm), .val (.int pr), .val (.int pk), .val (.int pj), .val (.int po), .val (.ref b_1), .val (.int (0 : Int32)), .unset, .unset, .unset, .unset, .unset, .unset] [(.int (pk &&& (1 : Int32)))]))) (fun t kt => ?_) ?_
    · show Steps p.tables e below (T_9.setTop (mkF m 13 #[.val (.int pm), .val (.int pr), .val (.int pk), .val (.int pj), .val (.int po), .val (.ref b_1), .unset, .unset, .unset, .unset, .unset, .unset, .unset] [(.int (po &&& (1 : Int32)))])) t
      refine XS.ifYes X_9.here hx rfl (pc0 := 13) (pc' := 23) rfl (hb hby at_13) rfl (XT.i0_ne_t c_10) (by decide) (by decide) ?_
      show Steps p.tables e below (T_9.setTop (mkF m 23 #[.val (.int pm), .val (.int pr), .val (.int pk), .val (.int pj), .val (.int po), .val (.ref b_1), .unset, .unset, .unset, .unset, .unset, .unset, .unset] [])) t
      refine XS.iconst X_9.here hx rfl (hb hby at_23) ?_
      show Steps p.tables e below (T_9.setTop (mkF m 24 #[.val (.int pm), .val (.int pr), .val (.int pk), .val (.int pj), .val (.int po), .val (.ref b_1), .unset, .unset, .unset, .unset, .unset, .unset, .unset] [(.int (0 : Int32))])) t
      refine XS.istore X_9.here hx rfl (hb hby at_24) rfl (l' := #[.val (.int pm), .val (.int pr), .val (.int pk), .val (.int pj), .val (.int po), .val (.ref b_1), .val (.int (0 : Int32)), .unset, .unset, .unset, .unset, .unset, .unset]) rfl ?_
      show Steps p.tables e below (T_9.setTop (mkF m 26 #[.val (.int pm), .val (.int pr), .val (.int pk), .val (.int pj), .val (.int po), .val (.ref b_1), .val (.int (0 : Int32)), .unset, .unset, .unset, .unset, .unset, .unset] [])) t
      refine XS.iloadN X_9.here hx rfl (hb hby at_26) rfl ?_
      show Steps p.tables e below (T_9.setTop (mkF m 27 #[.val (.int pm), .val (.int pr), .val (.int pk), .val (.int pj), .val (.int po), .val (.ref b_1), .val (.int (0 : Int32)), .unset, .unset, .unset, .unset, .unset, .unset] [(.int pk)])) t
      refine XS.iconst X_9.here hx rfl (hb hby at_27) ?_
      show Steps p.tables e below (T_9.setTop (mkF m 28 #[.val (.int pm), .val (.int pr), .val (.int pk), .val (.int pj), .val (.int po), .val (.ref b_1), .val (.int (0 : Int32)), .unset, .unset, .unset, .unset, .unset, .unset] [(.int (1 : Int32)), (.int pk)])) t
      refine XS.iand X_9.here hx rfl (hb hby at_28) rfl ?_
      exact kt
    by_cases c_12 : (pk &&& (1 : Int32)) = 0
    · -- (pk &&& (1 : Int32)) = 0
      refine Goes.go (U' := (T_9.setTop (mkF m 43 #[.val (.int pm), .val (.int pr), .val (.int pk), .val (.int pj), .val (.int po), .val (.ref b_1), .val (.int (0 : Int32)), .unset, .unset, .unset, .unset, .unset, .unset] [(.int (pk &&& (2 : Int32)))]))) (fun t kt => ?_) ?_
      · show Steps p.tables e below (T_9.setTop (mkF m 29 #[.val (.int pm), .val (.int pr), .val (.int pk), .val (.int pj), .val (.int po), .val (.ref b_1), .val (.int (0 : Int32)), .unset, .unset, .unset, .unset, .unset, .unset] [(.int (pk &&& (1 : Int32)))])) t
        refine XS.ifYes X_9.here hx rfl (pc0 := 29) (pc' := 40) rfl (hb hby at_29) rfl (XT.i0_eq_t c_12) (by decide) (by decide) ?_
        show Steps p.tables e below (T_9.setTop (mkF m 40 #[.val (.int pm), .val (.int pr), .val (.int pk), .val (.int pj), .val (.int po), .val (.ref b_1), .val (.int (0 : Int32)), .unset, .unset, .unset, .unset, .unset, .unset] [])) t
        refine XS.iloadN X_9.here hx rfl (hb hby at_40) rfl ?_
        show Steps p.tables e below (T_9.setTop (mkF m 41 #[.val (.int pm), .val (.int pr), .val (.int pk), .val (.int pj), .val (.int po), .val (.ref b_1), .val (.int (0 : Int32)), .unset, .unset, .unset, .unset, .unset, .unset] [(.int pk)])) t
        refine XS.iconst X_9.here hx rfl (hb hby at_41) ?_
        show Steps p.tables e below (T_9.setTop (mkF m 42 #[.val (.int pm), .val (.int pr), .val (.int pk), .val (.int pj), .val (.int po), .val (.ref b_1), .val (.int (0 : Int32)), .unset, .unset, .unset, .unset, .unset, .unset] [(.int (2 : Int32)), (.int pk)])) t
        refine XS.iand X_9.here hx rfl (hb hby at_42) rfl ?_
        exact kt
      by_cases c_13 : (pk &&& (2 : Int32)) = 0
      · -- (pk &&& (2 : Int32)) = 0
        refine Goes.go (U' := (T_9.setTop (mkF m 57 #[.val (.int pm), .val (.int pr), .val (.int pk), .val (.int pj), .val (.int po), .val (.ref b_1), .val (.int (0 : Int32)), .unset, .unset, .unset, .unset, .unset, .unset] [(.int (pk &&& (4 : Int32)))]))) (fun t kt => ?_) ?_
        · show Steps p.tables e below (T_9.setTop (mkF m 43 #[.val (.int pm), .val (.int pr), .val (.int pk), .val (.int pj), .val (.int po), .val (.ref b_1), .val (.int (0 : Int32)), .unset, .unset, .unset, .unset, .unset, .unset] [(.int (pk &&& (2 : Int32)))])) t
          refine XS.ifYes X_9.here hx rfl (pc0 := 43) (pc' := 54) rfl (hb hby at_43) rfl (XT.i0_eq_t c_13) (by decide) (by decide) ?_
          show Steps p.tables e below (T_9.setTop (mkF m 54 #[.val (.int pm), .val (.int pr), .val (.int pk), .val (.int pj), .val (.int po), .val (.ref b_1), .val (.int (0 : Int32)), .unset, .unset, .unset, .unset, .unset, .unset] [])) t
          refine XS.iloadN X_9.here hx rfl (hb hby at_54) rfl ?_
          show Steps p.tables e below (T_9.setTop (mkF m 55 #[.val (.int pm), .val (.int pr), .val (.int pk), .val (.int pj), .val (.int po), .val (.ref b_1), .val (.int (0 : Int32)), .unset, .unset, .unset, .unset, .unset, .unset] [(.int pk)])) t
          refine XS.iconst X_9.here hx rfl (hb hby at_55) ?_
          show Steps p.tables e below (T_9.setTop (mkF m 56 #[.val (.int pm), .val (.int pr), .val (.int pk), .val (.int pj), .val (.int po), .val (.ref b_1), .val (.int (0 : Int32)), .unset, .unset, .unset, .unset, .unset, .unset] [(.int (4 : Int32)), (.int pk)])) t
          refine XS.iand X_9.here hx rfl (hb hby at_56) rfl ?_
          exact kt
        by_cases c_14 : (pk &&& (4 : Int32)) = 0
        · -- (pk &&& (4 : Int32)) = 0
          refine Goes.go (U' := (T_9.setTop (mkF m 68 #[.val (.int pm), .val (.int pr), .val (.int pk), .val (.int pj), .val (.int po), .val (.ref b_1), .val (.int (0 : Int32)), .unset, .unset, .unset, .unset, .unset, .unset] []))) (fun t kt => ?_) ?_
          · show Steps p.tables e below (T_9.setTop (mkF m 57 #[.val (.int pm), .val (.int pr), .val (.int pk), .val (.int pj), .val (.int po), .val (.ref b_1), .val (.int (0 : Int32)), .unset, .unset, .unset, .unset, .unset, .unset] [(.int (pk &&& (4 : Int32)))])) t
            refine XS.ifYes X_9.here hx rfl (pc0 := 57) (pc' := 68) rfl (hb hby at_57) rfl (XT.i0_eq_t c_14) (by decide) (by decide) ?_
            exact kt
          have hk : ((0 : Int32) : Int32).toInt = 0 := by decide
          exact law_68 l Z a0 hw pm pr pk pj po b_1 (0 : Int32) h0 n0 Z0 p e s m below meth c hx hby hml hown hnm hret hlk hZ _ _ _ X_9 K_9 N_9 K_8 f_2 BC (by omega) (by omega) o_1 z_1 A_1 f_3 f_4 f_5 f_6 f_7
        · -- not (pk &&& (4 : Int32)) = 0
          refine Goes.go (U' := (T_9.setTop (mkF m 62 #[.val (.int pm), .val (.int pr), .val (.int pk), .val (.int pj), .val (.int po), .val (.ref b_1), .val (.int (0 : Int32)), .unset, .unset, .unset, .unset, .unset, .unset] [(.ref b_1)]))) (fun t kt => ?_) ?_
          · show Steps p.tables e below (T_9.setTop (mkF m 57 #[.val (.int pm), .val (.int pr), .val (.int pk), .val (.int pj), .val (.int po), .val (.ref b_1), .val (.int (0 : Int32)), .unset, .unset, .unset, .unset, .unset, .unset] [(.int (pk &&& (4 : Int32)))])) t
            refine XS.ifNo X_9.here hx rfl (hb hby at_57) rfl (XT.i0_eq_f c_14) ?_
            show Steps p.tables e below (T_9.setTop (mkF m 60 #[.val (.int pm), .val (.int pr), .val (.int pk), .val (.int pj), .val (.int po), .val (.ref b_1), .val (.int (0 : Int32)), .unset, .unset, .unset, .unset, .unset, .unset] [])) t
            refine XS.aload X_9.here hx rfl (hb hby at_60) rfl rfl ?_
            exact kt
          obtain ⟨v_15, T_15, L_15, X_15, q_15, st_15⟩ := callVirtual X_9 hx hZ (y := (⟨"com/example/dead_letter_replay/deadletterreplay/queue/Carries", "counted", "()V"⟩ : MethodName)) (z := (⟨"com/example/dead_letter_replay/deadletterreplay/queue/Carries", "counted", "()V"⟩ : MethodName)) (W := 0) hown (wdOf hw 16 rfl) (wdOf hw 17 rfl) (notFace_of_selects (args := #[]) (mvT hZ (wdOf hw 19 rfl))) (wdOf hw 19 rfl) (wdOf hw 18 rfl) (wdOf hw 2 rfl) (wdOf hw 20 rfl) (by decide) (rm_cn l Z a0 hw [] b_1 (0 : Int32) (0 : Int32) (0 : Int32) .null .null h_1 n0 y_8 o_1 A_1 f_3 f_4 f_5 f_6 f_7) (by decide) (by decide) (by decide) (by decide) K_9 A_1 (g := (mkF m 62 #[.val (.int pm), .val (.int pr), .val (.int pk), .val (.int pj), .val (.int po), .val (.ref b_1), .val (.int (0 : Int32)), .unset, .unset, .unset, .unset, .unset, .unset] [(.ref b_1)])) rfl (by rw [hml]; rfl) (argsL := []) (rest := []) (lenOf pd_0 rfl) rfl rfl (Nat.le_refl _) (hb hby at_62)
          obtain ⟨rfl, n_15, K_15, GE__15, Gsince__15, Glast__15, Grisk__15, Gfirst__15, Gheld__15⟩ := q_15
          have N_15 := Fr.app N_9 n_15
          have f_16 : Old Z n0 T_15.heap := f_2.keep K_15 (allS o_1 all0)
          have f_17 : Exa Z T_15.heap b_1 "com/example/dead_letter_replay/deadletterreplay/queue/Carries" := A_1.keep K_15
          have K_23 : Keep h0 T_15.heap [] := K_8.trans K_15 (allS (P := fun x => x ∈ [] ∨ h0.size ≤ x) (Or.inr z_1) all0)
          have y_23 : n0 ≤ T_15.heap.size := Nat.le_trans Z0 K_23.1
          refine Goes.go (U' := (T_15.setTop (mkF m 65 #[.val (.int pm), .val (.int pr), .val (.int pk), .val (.int pj), .val (.int po), .val (.ref b_1), .val (.int (0 : Int32)), .unset, .unset, .unset, .unset, .unset, .unset] []))) st_15 ?_
          refine Goes.go (U' := (T_15.setTop (mkF m 68 #[.val (.int pm), .val (.int pr), .val (.int pk), .val (.int pj), .val (.int po), .val (.ref b_1), .val (.int ((0 : Int32) + (1 : Int32))), .unset, .unset, .unset, .unset, .unset, .unset] []))) (fun t kt => ?_) ?_
          · show Steps p.tables e below (T_15.setTop (mkF m 65 #[.val (.int pm), .val (.int pr), .val (.int pk), .val (.int pj), .val (.int po), .val (.ref b_1), .val (.int (0 : Int32)), .unset, .unset, .unset, .unset, .unset, .unset] [])) t
            refine XS.iinc X_15.here hx rfl (hb hby at_65) rfl (l' := #[.val (.int pm), .val (.int pr), .val (.int pk), .val (.int pj), .val (.int po), .val (.ref b_1), .val (.int ((0 : Int32) + (1 : Int32))), .unset, .unset, .unset, .unset, .unset, .unset]) rfl ?_
            exact kt
          have hk : (((0 : Int32) + (1 : Int32)) : Int32).toInt = 1 := by decide
          exact law_68 l Z a0 hw pm pr pk pj po b_1 ((0 : Int32) + (1 : Int32)) h0 n0 Z0 p e s m below meth c hx hby hml hown hnm hret hlk hZ _ _ _ X_15 (rfl : T_15.heap = T_15.heap) N_15 K_23 f_16 BC (by omega) (by omega) o_1 z_1 f_17 Gsince__15 Glast__15 Grisk__15 Gfirst__15 Gheld__15
      · -- not (pk &&& (2 : Int32)) = 0
        refine Goes.go (U' := (T_9.setTop (mkF m 48 #[.val (.int pm), .val (.int pr), .val (.int pk), .val (.int pj), .val (.int po), .val (.ref b_1), .val (.int (0 : Int32)), .unset, .unset, .unset, .unset, .unset, .unset] [(.ref b_1)]))) (fun t kt => ?_) ?_
        · show Steps p.tables e below (T_9.setTop (mkF m 43 #[.val (.int pm), .val (.int pr), .val (.int pk), .val (.int pj), .val (.int po), .val (.ref b_1), .val (.int (0 : Int32)), .unset, .unset, .unset, .unset, .unset, .unset] [(.int (pk &&& (2 : Int32)))])) t
          refine XS.ifNo X_9.here hx rfl (hb hby at_43) rfl (XT.i0_eq_f c_13) ?_
          show Steps p.tables e below (T_9.setTop (mkF m 46 #[.val (.int pm), .val (.int pr), .val (.int pk), .val (.int pj), .val (.int po), .val (.ref b_1), .val (.int (0 : Int32)), .unset, .unset, .unset, .unset, .unset, .unset] [])) t
          refine XS.aload X_9.here hx rfl (hb hby at_46) rfl rfl ?_
          exact kt
        obtain ⟨v_24, T_24, L_24, X_24, q_24, st_24⟩ := callVirtual X_9 hx hZ (y := (⟨"com/example/dead_letter_replay/deadletterreplay/queue/Carries", "counted", "()V"⟩ : MethodName)) (z := (⟨"com/example/dead_letter_replay/deadletterreplay/queue/Carries", "counted", "()V"⟩ : MethodName)) (W := 0) hown (wdOf hw 16 rfl) (wdOf hw 17 rfl) (notFace_of_selects (args := #[]) (mvT hZ (wdOf hw 19 rfl))) (wdOf hw 19 rfl) (wdOf hw 18 rfl) (wdOf hw 2 rfl) (wdOf hw 20 rfl) (by decide) (rm_cn l Z a0 hw [] b_1 (0 : Int32) (0 : Int32) (0 : Int32) .null .null h_1 n0 y_8 o_1 A_1 f_3 f_4 f_5 f_6 f_7) (by decide) (by decide) (by decide) (by decide) K_9 A_1 (g := (mkF m 48 #[.val (.int pm), .val (.int pr), .val (.int pk), .val (.int pj), .val (.int po), .val (.ref b_1), .val (.int (0 : Int32)), .unset, .unset, .unset, .unset, .unset, .unset] [(.ref b_1)])) rfl (by rw [hml]; rfl) (argsL := []) (rest := []) (lenOf pd_0 rfl) rfl rfl (Nat.le_refl _) (hb hby at_48)
        obtain ⟨rfl, n_24, K_24, GE__24, Gsince__24, Glast__24, Grisk__24, Gfirst__24, Gheld__24⟩ := q_24
        have N_24 := Fr.app N_9 n_24
        have f_25 : Old Z n0 T_24.heap := f_2.keep K_24 (allS o_1 all0)
        have f_26 : Exa Z T_24.heap b_1 "com/example/dead_letter_replay/deadletterreplay/queue/Carries" := A_1.keep K_24
        have K_32 : Keep h0 T_24.heap [] := K_8.trans K_24 (allS (P := fun x => x ∈ [] ∨ h0.size ≤ x) (Or.inr z_1) all0)
        have y_32 : n0 ≤ T_24.heap.size := Nat.le_trans Z0 K_32.1
        refine Goes.go (U' := (T_24.setTop (mkF m 51 #[.val (.int pm), .val (.int pr), .val (.int pk), .val (.int pj), .val (.int po), .val (.ref b_1), .val (.int (0 : Int32)), .unset, .unset, .unset, .unset, .unset, .unset] []))) st_24 ?_
        refine Goes.go (U' := (T_24.setTop (mkF m 57 #[.val (.int pm), .val (.int pr), .val (.int pk), .val (.int pj), .val (.int po), .val (.ref b_1), .val (.int ((0 : Int32) + (1 : Int32))), .unset, .unset, .unset, .unset, .unset, .unset] [(.int (pk &&& (4 : Int32)))]))) (fun t kt => ?_) ?_
        · show Steps p.tables e below (T_24.setTop (mkF m 51 #[.val (.int pm), .val (.int pr), .val (.int pk), .val (.int pj), .val (.int po), .val (.ref b_1), .val (.int (0 : Int32)), .unset, .unset, .unset, .unset, .unset, .unset] [])) t
          refine XS.iinc X_24.here hx rfl (hb hby at_51) rfl (l' := #[.val (.int pm), .val (.int pr), .val (.int pk), .val (.int pj), .val (.int po), .val (.ref b_1), .val (.int ((0 : Int32) + (1 : Int32))), .unset, .unset, .unset, .unset, .unset, .unset]) rfl ?_
          show Steps p.tables e below (T_24.setTop (mkF m 54 #[.val (.int pm), .val (.int pr), .val (.int pk), .val (.int pj), .val (.int po), .val (.ref b_1), .val (.int ((0 : Int32) + (1 : Int32))), .unset, .unset, .unset, .unset, .unset, .unset] [])) t
          refine XS.iloadN X_24.here hx rfl (hb hby at_54) rfl ?_
          show Steps p.tables e below (T_24.setTop (mkF m 55 #[.val (.int pm), .val (.int pr), .val (.int pk), .val (.int pj), .val (.int po), .val (.ref b_1), .val (.int ((0 : Int32) + (1 : Int32))), .unset, .unset, .unset, .unset, .unset, .unset] [(.int pk)])) t
          refine XS.iconst X_24.here hx rfl (hb hby at_55) ?_
          show Steps p.tables e below (T_24.setTop (mkF m 56 #[.val (.int pm), .val (.int pr), .val (.int pk), .val (.int pj), .val (.int po), .val (.ref b_1), .val (.int ((0 : Int32) + (1 : Int32))), .unset, .unset, .unset, .unset, .unset, .unset] [(.int (4 : Int32)), (.int pk)])) t
          refine XS.iand X_24.here hx rfl (hb hby at_56) rfl ?_
          exact kt
        by_cases c_33 : (pk &&& (4 : Int32)) = 0
        · -- (pk &&& (4 : Int32)) = 0
          refine Goes.go (U' := (T_24.setTop (mkF m 68 #[.val (.int pm), .val (.int pr), .val (.int pk), .val (.int pj), .val (.int po), .val (.ref b_1), .val (.int ((0 : Int32) + (1 : Int32))), .unset, .unset, .unset, .unset, .unset, .unset] []))) (fun t kt => ?_) ?_
          · show Steps p.tables e below (T_24.setTop (mkF m 57 #[.val (.int pm), .val (.int pr), .val (.int pk), .val (.int pj), .val (.int po), .val (.ref b_1), .val (.int ((0 : Int32) + (1 : Int32))), .unset, .unset, .unset, .unset, .unset, .unset] [(.int (pk &&& (4 : Int32)))])) t
            refine XS.ifYes X_24.here hx rfl (pc0 := 57) (pc' := 68) rfl (hb hby at_57) rfl (XT.i0_eq_t c_33) (by decide) (by decide) ?_
            exact kt
          have hk : (((0 : Int32) + (1 : Int32)) : Int32).toInt = 1 := by decide
          exact law_68 l Z a0 hw pm pr pk pj po b_1 ((0 : Int32) + (1 : Int32)) h0 n0 Z0 p e s m below meth c hx hby hml hown hnm hret hlk hZ _ _ _ X_24 (rfl : T_24.heap = T_24.heap) N_24 K_32 f_25 BC (by omega) (by omega) o_1 z_1 f_26 Gsince__24 Glast__24 Grisk__24 Gfirst__24 Gheld__24
        · -- not (pk &&& (4 : Int32)) = 0
          refine Goes.go (U' := (T_24.setTop (mkF m 62 #[.val (.int pm), .val (.int pr), .val (.int pk), .val (.int pj), .val (.int po), .val (.ref b_1), .val (.int ((0 : Int32) + (1 : Int32))), .unset, .unset, .unset, .unset, .unset, .unset] [(.ref b_1)]))) (fun t kt => ?_) ?_
          · show Steps p.tables e below (T_24.setTop (mkF m 57 #[.val (.int pm), .val (.int pr), .val (.int pk), .val (.int pj), .val (.int po), .val (.ref b_1), .val (.int ((0 : Int32) + (1 : Int32))), .unset, .unset, .unset, .unset, .unset, .unset] [(.int (pk &&& (4 : Int32)))])) t
            refine XS.ifNo X_24.here hx rfl (hb hby at_57) rfl (XT.i0_eq_f c_33) ?_
            show Steps p.tables e below (T_24.setTop (mkF m 60 #[.val (.int pm), .val (.int pr), .val (.int pk), .val (.int pj), .val (.int po), .val (.ref b_1), .val (.int ((0 : Int32) + (1 : Int32))), .unset, .unset, .unset, .unset, .unset, .unset] [])) t
            refine XS.aload X_24.here hx rfl (hb hby at_60) rfl rfl ?_
            exact kt
          obtain ⟨v_34, T_34, L_34, X_34, q_34, st_34⟩ := callVirtual X_24 hx hZ (y := (⟨"com/example/dead_letter_replay/deadletterreplay/queue/Carries", "counted", "()V"⟩ : MethodName)) (z := (⟨"com/example/dead_letter_replay/deadletterreplay/queue/Carries", "counted", "()V"⟩ : MethodName)) (W := 0) hown (wdOf hw 16 rfl) (wdOf hw 17 rfl) (notFace_of_selects (args := #[]) (mvT hZ (wdOf hw 19 rfl))) (wdOf hw 19 rfl) (wdOf hw 18 rfl) (wdOf hw 2 rfl) (wdOf hw 20 rfl) (by decide) (rm_cn l Z a0 hw [] b_1 ((0 : Int32) + (1 : Int32)) (0 : Int32) (0 : Int32) .null .null T_24.heap n0 y_32 o_1 f_26 Gsince__24 Glast__24 Grisk__24 Gfirst__24 Gheld__24) (by decide) (by decide) (by decide) (by decide) (rfl : T_24.heap = T_24.heap) f_26 (g := (mkF m 62 #[.val (.int pm), .val (.int pr), .val (.int pk), .val (.int pj), .val (.int po), .val (.ref b_1), .val (.int ((0 : Int32) + (1 : Int32))), .unset, .unset, .unset, .unset, .unset, .unset] [(.ref b_1)])) rfl (by rw [hml]; rfl) (argsL := []) (rest := []) (lenOf pd_0 rfl) rfl rfl (Nat.le_refl _) (hb hby at_62)
          obtain ⟨rfl, n_34, K_34, GE__34, Gsince__34, Glast__34, Grisk__34, Gfirst__34, Gheld__34⟩ := q_34
          have N_34 := Fr.app N_24 n_34
          have f_35 : Old Z n0 T_34.heap := f_25.keep K_34 (allS o_1 all0)
          have f_36 : Exa Z T_34.heap b_1 "com/example/dead_letter_replay/deadletterreplay/queue/Carries" := f_26.keep K_34
          have K_42 : Keep h0 T_34.heap [] := K_32.trans K_34 (allS (P := fun x => x ∈ [] ∨ h0.size ≤ x) (Or.inr z_1) all0)
          have y_42 : n0 ≤ T_34.heap.size := Nat.le_trans Z0 K_42.1
          refine Goes.go (U' := (T_34.setTop (mkF m 65 #[.val (.int pm), .val (.int pr), .val (.int pk), .val (.int pj), .val (.int po), .val (.ref b_1), .val (.int ((0 : Int32) + (1 : Int32))), .unset, .unset, .unset, .unset, .unset, .unset] []))) st_34 ?_
          refine Goes.go (U' := (T_34.setTop (mkF m 68 #[.val (.int pm), .val (.int pr), .val (.int pk), .val (.int pj), .val (.int po), .val (.ref b_1), .val (.int (((0 : Int32) + (1 : Int32)) + (1 : Int32))), .unset, .unset, .unset, .unset, .unset, .unset] []))) (fun t kt => ?_) ?_
          · show Steps p.tables e below (T_34.setTop (mkF m 65 #[.val (.int pm), .val (.int pr), .val (.int pk), .val (.int pj), .val (.int po), .val (.ref b_1), .val (.int ((0 : Int32) + (1 : Int32))), .unset, .unset, .unset, .unset, .unset, .unset] [])) t
            refine XS.iinc X_34.here hx rfl (hb hby at_65) rfl (l' := #[.val (.int pm), .val (.int pr), .val (.int pk), .val (.int pj), .val (.int po), .val (.ref b_1), .val (.int (((0 : Int32) + (1 : Int32)) + (1 : Int32))), .unset, .unset, .unset, .unset, .unset, .unset]) rfl ?_
            exact kt
          have hk : ((((0 : Int32) + (1 : Int32)) + (1 : Int32)) : Int32).toInt = 2 := by decide
          exact law_68 l Z a0 hw pm pr pk pj po b_1 (((0 : Int32) + (1 : Int32)) + (1 : Int32)) h0 n0 Z0 p e s m below meth c hx hby hml hown hnm hret hlk hZ _ _ _ X_34 (rfl : T_34.heap = T_34.heap) N_34 K_42 f_35 BC (by omega) (by omega) o_1 z_1 f_36 Gsince__34 Glast__34 Grisk__34 Gfirst__34 Gheld__34
    · -- not (pk &&& (1 : Int32)) = 0
      refine Goes.go (U' := (T_9.setTop (mkF m 34 #[.val (.int pm), .val (.int pr), .val (.int pk), .val (.int pj), .val (.int po), .val (.ref b_1), .val (.int (0 : Int32)), .unset, .unset, .unset, .unset, .unset, .unset] [(.ref b_1)]))) (fun t kt => ?_) ?_
      · show Steps p.tables e below (T_9.setTop (mkF m 29 #[.val (.int pm), .val (.int pr), .val (.int pk), .val (.int pj), .val (.int po), .val (.ref b_1), .val (.int (0 : Int32)), .unset, .unset, .unset, .unset, .unset, .unset] [(.int (pk &&& (1 : Int32)))])) t
        refine XS.ifNo X_9.here hx rfl (hb hby at_29) rfl (XT.i0_eq_f c_12) ?_
        show Steps p.tables e below (T_9.setTop (mkF m 32 #[.val (.int pm), .val (.int pr), .val (.int pk), .val (.int pj), .val (.int po), .val (.ref b_1), .val (.int (0 : Int32)), .unset, .unset, .unset, .unset, .unset, .unset] [])) t
        refine XS.aload X_9.here hx rfl (hb hby at_32) rfl rfl ?_
        exact kt
      obtain ⟨v_43, T_43, L_43, X_43, q_43, st_43⟩ := callVirtual X_9 hx hZ (y := (⟨"com/example/dead_letter_replay/deadletterreplay/queue/Carries", "counted", "()V"⟩ : MethodName)) (z := (⟨"com/example/dead_letter_replay/deadletterreplay/queue/Carries", "counted", "()V"⟩ : MethodName)) (W := 0) hown (wdOf hw 16 rfl) (wdOf hw 17 rfl) (notFace_of_selects (args := #[]) (mvT hZ (wdOf hw 19 rfl))) (wdOf hw 19 rfl) (wdOf hw 18 rfl) (wdOf hw 2 rfl) (wdOf hw 20 rfl) (by decide) (rm_cn l Z a0 hw [] b_1 (0 : Int32) (0 : Int32) (0 : Int32) .null .null h_1 n0 y_8 o_1 A_1 f_3 f_4 f_5 f_6 f_7) (by decide) (by decide) (by decide) (by decide) K_9 A_1 (g := (mkF m 34 #[.val (.int pm), .val (.int pr), .val (.int pk), .val (.int pj), .val (.int po), .val (.ref b_1), .val (.int (0 : Int32)), .unset, .unset, .unset, .unset, .unset, .unset] [(.ref b_1)])) rfl (by rw [hml]; rfl) (argsL := []) (rest := []) (lenOf pd_0 rfl) rfl rfl (Nat.le_refl _) (hb hby at_34)
      obtain ⟨rfl, n_43, K_43, GE__43, Gsince__43, Glast__43, Grisk__43, Gfirst__43, Gheld__43⟩ := q_43
      have N_43 := Fr.app N_9 n_43
      have f_44 : Old Z n0 T_43.heap := f_2.keep K_43 (allS o_1 all0)
      have f_45 : Exa Z T_43.heap b_1 "com/example/dead_letter_replay/deadletterreplay/queue/Carries" := A_1.keep K_43
      have K_51 : Keep h0 T_43.heap [] := K_8.trans K_43 (allS (P := fun x => x ∈ [] ∨ h0.size ≤ x) (Or.inr z_1) all0)
      have y_51 : n0 ≤ T_43.heap.size := Nat.le_trans Z0 K_51.1
      refine Goes.go (U' := (T_43.setTop (mkF m 37 #[.val (.int pm), .val (.int pr), .val (.int pk), .val (.int pj), .val (.int po), .val (.ref b_1), .val (.int (0 : Int32)), .unset, .unset, .unset, .unset, .unset, .unset] []))) st_43 ?_
      refine Goes.go (U' := (T_43.setTop (mkF m 43 #[.val (.int pm), .val (.int pr), .val (.int pk), .val (.int pj), .val (.int po), .val (.ref b_1), .val (.int ((0 : Int32) + (1 : Int32))), .unset, .unset, .unset, .unset, .unset, .unset] [(.int (pk &&& (2 : Int32)))]))) (fun t kt => ?_) ?_
      · show Steps p.tables e below (T_43.setTop (mkF m 37 #[.val (.int pm), .val (.int pr), .val (.int pk), .val (.int pj), .val (.int po), .val (.ref b_1), .val (.int (0 : Int32)), .unset, .unset, .unset, .unset, .unset, .unset] [])) t
        refine XS.iinc X_43.here hx rfl (hb hby at_37) rfl (l' := #[.val (.int pm), .val (.int pr), .val (.int pk), .val (.int pj), .val (.int po), .val (.ref b_1), .val (.int ((0 : Int32) + (1 : Int32))), .unset, .unset, .unset, .unset, .unset, .unset]) rfl ?_
        show Steps p.tables e below (T_43.setTop (mkF m 40 #[.val (.int pm), .val (.int pr), .val (.int pk), .val (.int pj), .val (.int po), .val (.ref b_1), .val (.int ((0 : Int32) + (1 : Int32))), .unset, .unset, .unset, .unset, .unset, .unset] [])) t
        refine XS.iloadN X_43.here hx rfl (hb hby at_40) rfl ?_
        show Steps p.tables e below (T_43.setTop (mkF m 41 #[.val (.int pm), .val (.int pr), .val (.int pk), .val (.int pj), .val (.int po), .val (.ref b_1), .val (.int ((0 : Int32) + (1 : Int32))), .unset, .unset, .unset, .unset, .unset, .unset] [(.int pk)])) t
        refine XS.iconst X_43.here hx rfl (hb hby at_41) ?_
        show Steps p.tables e below (T_43.setTop (mkF m 42 #[.val (.int pm), .val (.int pr), .val (.int pk), .val (.int pj), .val (.int po), .val (.ref b_1), .val (.int ((0 : Int32) + (1 : Int32))), .unset, .unset, .unset, .unset, .unset, .unset] [(.int (2 : Int32)), (.int pk)])) t
        refine XS.iand X_43.here hx rfl (hb hby at_42) rfl ?_
        exact kt
      by_cases c_52 : (pk &&& (2 : Int32)) = 0
      · -- (pk &&& (2 : Int32)) = 0
        refine Goes.go (U' := (T_43.setTop (mkF m 57 #[.val (.int pm), .val (.int pr), .val (.int pk), .val (.int pj), .val (.int po), .val (.ref b_1), .val (.int ((0 : Int32) + (1 : Int32))), .unset, .unset, .unset, .unset, .unset, .unset] [(.int (pk &&& (4 : Int32)))]))) (fun t kt => ?_) ?_
        · show Steps p.tables e below (T_43.setTop (mkF m 43 #[.val (.int pm), .val (.int pr), .val (.int pk), .val (.int pj), .val (.int po), .val (.ref b_1), .val (.int ((0 : Int32) + (1 : Int32))), .unset, .unset, .unset, .unset, .unset, .unset] [(.int (pk &&& (2 : Int32)))])) t
          refine XS.ifYes X_43.here hx rfl (pc0 := 43) (pc' := 54) rfl (hb hby at_43) rfl (XT.i0_eq_t c_52) (by decide) (by decide) ?_
          show Steps p.tables e below (T_43.setTop (mkF m 54 #[.val (.int pm), .val (.int pr), .val (.int pk), .val (.int pj), .val (.int po), .val (.ref b_1), .val (.int ((0 : Int32) + (1 : Int32))), .unset, .unset, .unset, .unset, .unset, .unset] [])) t
          refine XS.iloadN X_43.here hx rfl (hb hby at_54) rfl ?_
          show Steps p.tables e below (T_43.setTop (mkF m 55 #[.val (.int pm), .val (.int pr), .val (.int pk), .val (.int pj), .val (.int po), .val (.ref b_1), .val (.int ((0 : Int32) + (1 : Int32))), .unset, .unset, .unset, .unset, .unset, .unset] [(.int pk)])) t
          refine XS.iconst X_43.here hx rfl (hb hby at_55) ?_
          show Steps p.tables e below (T_43.setTop (mkF m 56 #[.val (.int pm), .val (.int pr), .val (.int pk), .val (.int pj), .val (.int po), .val (.ref b_1), .val (.int ((0 : Int32) + (1 : Int32))), .unset, .unset, .unset, .unset, .unset, .unset] [(.int (4 : Int32)), (.int pk)])) t
          refine XS.iand X_43.here hx rfl (hb hby at_56) rfl ?_
          exact kt
        by_cases c_53 : (pk &&& (4 : Int32)) = 0
        · -- (pk &&& (4 : Int32)) = 0
          refine Goes.go (U' := (T_43.setTop (mkF m 68 #[.val (.int pm), .val (.int pr), .val (.int pk), .val (.int pj), .val (.int po), .val (.ref b_1), .val (.int ((0 : Int32) + (1 : Int32))), .unset, .unset, .unset, .unset, .unset, .unset] []))) (fun t kt => ?_) ?_
          · show Steps p.tables e below (T_43.setTop (mkF m 57 #[.val (.int pm), .val (.int pr), .val (.int pk), .val (.int pj), .val (.int po), .val (.ref b_1), .val (.int ((0 : Int32) + (1 : Int32))), .unset, .unset, .unset, .unset, .unset, .unset] [(.int (pk &&& (4 : Int32)))])) t
            refine XS.ifYes X_43.here hx rfl (pc0 := 57) (pc' := 68) rfl (hb hby at_57) rfl (XT.i0_eq_t c_53) (by decide) (by decide) ?_
            exact kt
          have hk : (((0 : Int32) + (1 : Int32)) : Int32).toInt = 1 := by decide
          exact law_68 l Z a0 hw pm pr pk pj po b_1 ((0 : Int32) + (1 : Int32)) h0 n0 Z0 p e s m below meth c hx hby hml hown hnm hret hlk hZ _ _ _ X_43 (rfl : T_43.heap = T_43.heap) N_43 K_51 f_44 BC (by omega) (by omega) o_1 z_1 f_45 Gsince__43 Glast__43 Grisk__43 Gfirst__43 Gheld__43
        · -- not (pk &&& (4 : Int32)) = 0
          refine Goes.go (U' := (T_43.setTop (mkF m 62 #[.val (.int pm), .val (.int pr), .val (.int pk), .val (.int pj), .val (.int po), .val (.ref b_1), .val (.int ((0 : Int32) + (1 : Int32))), .unset, .unset, .unset, .unset, .unset, .unset] [(.ref b_1)]))) (fun t kt => ?_) ?_
          · show Steps p.tables e below (T_43.setTop (mkF m 57 #[.val (.int pm), .val (.int pr), .val (.int pk), .val (.int pj), .val (.int po), .val (.ref b_1), .val (.int ((0 : Int32) + (1 : Int32))), .unset, .unset, .unset, .unset, .unset, .unset] [(.int (pk &&& (4 : Int32)))])) t
            refine XS.ifNo X_43.here hx rfl (hb hby at_57) rfl (XT.i0_eq_f c_53) ?_
            show Steps p.tables e below (T_43.setTop (mkF m 60 #[.val (.int pm), .val (.int pr), .val (.int pk), .val (.int pj), .val (.int po), .val (.ref b_1), .val (.int ((0 : Int32) + (1 : Int32))), .unset, .unset, .unset, .unset, .unset, .unset] [])) t
            refine XS.aload X_43.here hx rfl (hb hby at_60) rfl rfl ?_
            exact kt
          obtain ⟨v_54, T_54, L_54, X_54, q_54, st_54⟩ := callVirtual X_43 hx hZ (y := (⟨"com/example/dead_letter_replay/deadletterreplay/queue/Carries", "counted", "()V"⟩ : MethodName)) (z := (⟨"com/example/dead_letter_replay/deadletterreplay/queue/Carries", "counted", "()V"⟩ : MethodName)) (W := 0) hown (wdOf hw 16 rfl) (wdOf hw 17 rfl) (notFace_of_selects (args := #[]) (mvT hZ (wdOf hw 19 rfl))) (wdOf hw 19 rfl) (wdOf hw 18 rfl) (wdOf hw 2 rfl) (wdOf hw 20 rfl) (by decide) (rm_cn l Z a0 hw [] b_1 ((0 : Int32) + (1 : Int32)) (0 : Int32) (0 : Int32) .null .null T_43.heap n0 y_51 o_1 f_45 Gsince__43 Glast__43 Grisk__43 Gfirst__43 Gheld__43) (by decide) (by decide) (by decide) (by decide) (rfl : T_43.heap = T_43.heap) f_45 (g := (mkF m 62 #[.val (.int pm), .val (.int pr), .val (.int pk), .val (.int pj), .val (.int po), .val (.ref b_1), .val (.int ((0 : Int32) + (1 : Int32))), .unset, .unset, .unset, .unset, .unset, .unset] [(.ref b_1)])) rfl (by rw [hml]; rfl) (argsL := []) (rest := []) (lenOf pd_0 rfl) rfl rfl (Nat.le_refl _) (hb hby at_62)
          obtain ⟨rfl, n_54, K_54, GE__54, Gsince__54, Glast__54, Grisk__54, Gfirst__54, Gheld__54⟩ := q_54
          have N_54 := Fr.app N_43 n_54
          have f_55 : Old Z n0 T_54.heap := f_44.keep K_54 (allS o_1 all0)
          have f_56 : Exa Z T_54.heap b_1 "com/example/dead_letter_replay/deadletterreplay/queue/Carries" := f_45.keep K_54
          have K_62 : Keep h0 T_54.heap [] := K_51.trans K_54 (allS (P := fun x => x ∈ [] ∨ h0.size ≤ x) (Or.inr z_1) all0)
          have y_62 : n0 ≤ T_54.heap.size := Nat.le_trans Z0 K_62.1
          refine Goes.go (U' := (T_54.setTop (mkF m 65 #[.val (.int pm), .val (.int pr), .val (.int pk), .val (.int pj), .val (.int po), .val (.ref b_1), .val (.int ((0 : Int32) + (1 : Int32))), .unset, .unset, .unset, .unset, .unset, .unset] []))) st_54 ?_
          refine Goes.go (U' := (T_54.setTop (mkF m 68 #[.val (.int pm), .val (.int pr), .val (.int pk), .val (.int pj), .val (.int po), .val (.ref b_1), .val (.int (((0 : Int32) + (1 : Int32)) + (1 : Int32))), .unset, .unset, .unset, .unset, .unset, .unset] []))) (fun t kt => ?_) ?_
          · show Steps p.tables e below (T_54.setTop (mkF m 65 #[.val (.int pm), .val (.int pr), .val (.int pk), .val (.int pj), .val (.int po), .val (.ref b_1), .val (.int ((0 : Int32) + (1 : Int32))), .unset, .unset, .unset, .unset, .unset, .unset] [])) t
            refine XS.iinc X_54.here hx rfl (hb hby at_65) rfl (l' := #[.val (.int pm), .val (.int pr), .val (.int pk), .val (.int pj), .val (.int po), .val (.ref b_1), .val (.int (((0 : Int32) + (1 : Int32)) + (1 : Int32))), .unset, .unset, .unset, .unset, .unset, .unset]) rfl ?_
            exact kt
          have hk : ((((0 : Int32) + (1 : Int32)) + (1 : Int32)) : Int32).toInt = 2 := by decide
          exact law_68 l Z a0 hw pm pr pk pj po b_1 (((0 : Int32) + (1 : Int32)) + (1 : Int32)) h0 n0 Z0 p e s m below meth c hx hby hml hown hnm hret hlk hZ _ _ _ X_54 (rfl : T_54.heap = T_54.heap) N_54 K_62 f_55 BC (by omega) (by omega) o_1 z_1 f_56 Gsince__54 Glast__54 Grisk__54 Gfirst__54 Gheld__54
      · -- not (pk &&& (2 : Int32)) = 0
        refine Goes.go (U' := (T_43.setTop (mkF m 48 #[.val (.int pm), .val (.int pr), .val (.int pk), .val (.int pj), .val (.int po), .val (.ref b_1), .val (.int ((0 : Int32) + (1 : Int32))), .unset, .unset, .unset, .unset, .unset, .unset] [(.ref b_1)]))) (fun t kt => ?_) ?_
        · show Steps p.tables e below (T_43.setTop (mkF m 43 #[.val (.int pm), .val (.int pr), .val (.int pk), .val (.int pj), .val (.int po), .val (.ref b_1), .val (.int ((0 : Int32) + (1 : Int32))), .unset, .unset, .unset, .unset, .unset, .unset] [(.int (pk &&& (2 : Int32)))])) t
          refine XS.ifNo X_43.here hx rfl (hb hby at_43) rfl (XT.i0_eq_f c_52) ?_
          show Steps p.tables e below (T_43.setTop (mkF m 46 #[.val (.int pm), .val (.int pr), .val (.int pk), .val (.int pj), .val (.int po), .val (.ref b_1), .val (.int ((0 : Int32) + (1 : Int32))), .unset, .unset, .unset, .unset, .unset, .unset] [])) t
          refine XS.aload X_43.here hx rfl (hb hby at_46) rfl rfl ?_
          exact kt
        obtain ⟨v_63, T_63, L_63, X_63, q_63, st_63⟩ := callVirtual X_43 hx hZ (y := (⟨"com/example/dead_letter_replay/deadletterreplay/queue/Carries", "counted", "()V"⟩ : MethodName)) (z := (⟨"com/example/dead_letter_replay/deadletterreplay/queue/Carries", "counted", "()V"⟩ : MethodName)) (W := 0) hown (wdOf hw 16 rfl) (wdOf hw 17 rfl) (notFace_of_selects (args := #[]) (mvT hZ (wdOf hw 19 rfl))) (wdOf hw 19 rfl) (wdOf hw 18 rfl) (wdOf hw 2 rfl) (wdOf hw 20 rfl) (by decide) (rm_cn l Z a0 hw [] b_1 ((0 : Int32) + (1 : Int32)) (0 : Int32) (0 : Int32) .null .null T_43.heap n0 y_51 o_1 f_45 Gsince__43 Glast__43 Grisk__43 Gfirst__43 Gheld__43) (by decide) (by decide) (by decide) (by decide) (rfl : T_43.heap = T_43.heap) f_45 (g := (mkF m 48 #[.val (.int pm), .val (.int pr), .val (.int pk), .val (.int pj), .val (.int po), .val (.ref b_1), .val (.int ((0 : Int32) + (1 : Int32))), .unset, .unset, .unset, .unset, .unset, .unset] [(.ref b_1)])) rfl (by rw [hml]; rfl) (argsL := []) (rest := []) (lenOf pd_0 rfl) rfl rfl (Nat.le_refl _) (hb hby at_48)
        obtain ⟨rfl, n_63, K_63, GE__63, Gsince__63, Glast__63, Grisk__63, Gfirst__63, Gheld__63⟩ := q_63
        have N_63 := Fr.app N_43 n_63
        have f_64 : Old Z n0 T_63.heap := f_44.keep K_63 (allS o_1 all0)
        have f_65 : Exa Z T_63.heap b_1 "com/example/dead_letter_replay/deadletterreplay/queue/Carries" := f_45.keep K_63
        have K_71 : Keep h0 T_63.heap [] := K_51.trans K_63 (allS (P := fun x => x ∈ [] ∨ h0.size ≤ x) (Or.inr z_1) all0)
        have y_71 : n0 ≤ T_63.heap.size := Nat.le_trans Z0 K_71.1
        refine Goes.go (U' := (T_63.setTop (mkF m 51 #[.val (.int pm), .val (.int pr), .val (.int pk), .val (.int pj), .val (.int po), .val (.ref b_1), .val (.int ((0 : Int32) + (1 : Int32))), .unset, .unset, .unset, .unset, .unset, .unset] []))) st_63 ?_
        refine Goes.go (U' := (T_63.setTop (mkF m 57 #[.val (.int pm), .val (.int pr), .val (.int pk), .val (.int pj), .val (.int po), .val (.ref b_1), .val (.int (((0 : Int32) + (1 : Int32)) + (1 : Int32))), .unset, .unset, .unset, .unset, .unset, .unset] [(.int (pk &&& (4 : Int32)))]))) (fun t kt => ?_) ?_
        · show Steps p.tables e below (T_63.setTop (mkF m 51 #[.val (.int pm), .val (.int pr), .val (.int pk), .val (.int pj), .val (.int po), .val (.ref b_1), .val (.int ((0 : Int32) + (1 : Int32))), .unset, .unset, .unset, .unset, .unset, .unset] [])) t
          refine XS.iinc X_63.here hx rfl (hb hby at_51) rfl (l' := #[.val (.int pm), .val (.int pr), .val (.int pk), .val (.int pj), .val (.int po), .val (.ref b_1), .val (.int (((0 : Int32) + (1 : Int32)) + (1 : Int32))), .unset, .unset, .unset, .unset, .unset, .unset]) rfl ?_
          show Steps p.tables e below (T_63.setTop (mkF m 54 #[.val (.int pm), .val (.int pr), .val (.int pk), .val (.int pj), .val (.int po), .val (.ref b_1), .val (.int (((0 : Int32) + (1 : Int32)) + (1 : Int32))), .unset, .unset, .unset, .unset, .unset, .unset] [])) t
          refine XS.iloadN X_63.here hx rfl (hb hby at_54) rfl ?_
          show Steps p.tables e below (T_63.setTop (mkF m 55 #[.val (.int pm), .val (.int pr), .val (.int pk), .val (.int pj), .val (.int po), .val (.ref b_1), .val (.int (((0 : Int32) + (1 : Int32)) + (1 : Int32))), .unset, .unset, .unset, .unset, .unset, .unset] [(.int pk)])) t
          refine XS.iconst X_63.here hx rfl (hb hby at_55) ?_
          show Steps p.tables e below (T_63.setTop (mkF m 56 #[.val (.int pm), .val (.int pr), .val (.int pk), .val (.int pj), .val (.int po), .val (.ref b_1), .val (.int (((0 : Int32) + (1 : Int32)) + (1 : Int32))), .unset, .unset, .unset, .unset, .unset, .unset] [(.int (4 : Int32)), (.int pk)])) t
          refine XS.iand X_63.here hx rfl (hb hby at_56) rfl ?_
          exact kt
        by_cases c_72 : (pk &&& (4 : Int32)) = 0
        · -- (pk &&& (4 : Int32)) = 0
          refine Goes.go (U' := (T_63.setTop (mkF m 68 #[.val (.int pm), .val (.int pr), .val (.int pk), .val (.int pj), .val (.int po), .val (.ref b_1), .val (.int (((0 : Int32) + (1 : Int32)) + (1 : Int32))), .unset, .unset, .unset, .unset, .unset, .unset] []))) (fun t kt => ?_) ?_
          · show Steps p.tables e below (T_63.setTop (mkF m 57 #[.val (.int pm), .val (.int pr), .val (.int pk), .val (.int pj), .val (.int po), .val (.ref b_1), .val (.int (((0 : Int32) + (1 : Int32)) + (1 : Int32))), .unset, .unset, .unset, .unset, .unset, .unset] [(.int (pk &&& (4 : Int32)))])) t
            refine XS.ifYes X_63.here hx rfl (pc0 := 57) (pc' := 68) rfl (hb hby at_57) rfl (XT.i0_eq_t c_72) (by decide) (by decide) ?_
            exact kt
          have hk : ((((0 : Int32) + (1 : Int32)) + (1 : Int32)) : Int32).toInt = 2 := by decide
          exact law_68 l Z a0 hw pm pr pk pj po b_1 (((0 : Int32) + (1 : Int32)) + (1 : Int32)) h0 n0 Z0 p e s m below meth c hx hby hml hown hnm hret hlk hZ _ _ _ X_63 (rfl : T_63.heap = T_63.heap) N_63 K_71 f_64 BC (by omega) (by omega) o_1 z_1 f_65 Gsince__63 Glast__63 Grisk__63 Gfirst__63 Gheld__63
        · -- not (pk &&& (4 : Int32)) = 0
          refine Goes.go (U' := (T_63.setTop (mkF m 62 #[.val (.int pm), .val (.int pr), .val (.int pk), .val (.int pj), .val (.int po), .val (.ref b_1), .val (.int (((0 : Int32) + (1 : Int32)) + (1 : Int32))), .unset, .unset, .unset, .unset, .unset, .unset] [(.ref b_1)]))) (fun t kt => ?_) ?_
          · show Steps p.tables e below (T_63.setTop (mkF m 57 #[.val (.int pm), .val (.int pr), .val (.int pk), .val (.int pj), .val (.int po), .val (.ref b_1), .val (.int (((0 : Int32) + (1 : Int32)) + (1 : Int32))), .unset, .unset, .unset, .unset, .unset, .unset] [(.int (pk &&& (4 : Int32)))])) t
            refine XS.ifNo X_63.here hx rfl (hb hby at_57) rfl (XT.i0_eq_f c_72) ?_
            show Steps p.tables e below (T_63.setTop (mkF m 60 #[.val (.int pm), .val (.int pr), .val (.int pk), .val (.int pj), .val (.int po), .val (.ref b_1), .val (.int (((0 : Int32) + (1 : Int32)) + (1 : Int32))), .unset, .unset, .unset, .unset, .unset, .unset] [])) t
            refine XS.aload X_63.here hx rfl (hb hby at_60) rfl rfl ?_
            exact kt
          obtain ⟨v_73, T_73, L_73, X_73, q_73, st_73⟩ := callVirtual X_63 hx hZ (y := (⟨"com/example/dead_letter_replay/deadletterreplay/queue/Carries", "counted", "()V"⟩ : MethodName)) (z := (⟨"com/example/dead_letter_replay/deadletterreplay/queue/Carries", "counted", "()V"⟩ : MethodName)) (W := 0) hown (wdOf hw 16 rfl) (wdOf hw 17 rfl) (notFace_of_selects (args := #[]) (mvT hZ (wdOf hw 19 rfl))) (wdOf hw 19 rfl) (wdOf hw 18 rfl) (wdOf hw 2 rfl) (wdOf hw 20 rfl) (by decide) (rm_cn l Z a0 hw [] b_1 (((0 : Int32) + (1 : Int32)) + (1 : Int32)) (0 : Int32) (0 : Int32) .null .null T_63.heap n0 y_71 o_1 f_65 Gsince__63 Glast__63 Grisk__63 Gfirst__63 Gheld__63) (by decide) (by decide) (by decide) (by decide) (rfl : T_63.heap = T_63.heap) f_65 (g := (mkF m 62 #[.val (.int pm), .val (.int pr), .val (.int pk), .val (.int pj), .val (.int po), .val (.ref b_1), .val (.int (((0 : Int32) + (1 : Int32)) + (1 : Int32))), .unset, .unset, .unset, .unset, .unset, .unset] [(.ref b_1)])) rfl (by rw [hml]; rfl) (argsL := []) (rest := []) (lenOf pd_0 rfl) rfl rfl (Nat.le_refl _) (hb hby at_62)
          obtain ⟨rfl, n_73, K_73, GE__73, Gsince__73, Glast__73, Grisk__73, Gfirst__73, Gheld__73⟩ := q_73
          have N_73 := Fr.app N_63 n_73
          have f_74 : Old Z n0 T_73.heap := f_64.keep K_73 (allS o_1 all0)
          have f_75 : Exa Z T_73.heap b_1 "com/example/dead_letter_replay/deadletterreplay/queue/Carries" := f_65.keep K_73
          have K_81 : Keep h0 T_73.heap [] := K_71.trans K_73 (allS (P := fun x => x ∈ [] ∨ h0.size ≤ x) (Or.inr z_1) all0)
          have y_81 : n0 ≤ T_73.heap.size := Nat.le_trans Z0 K_81.1
          refine Goes.go (U' := (T_73.setTop (mkF m 65 #[.val (.int pm), .val (.int pr), .val (.int pk), .val (.int pj), .val (.int po), .val (.ref b_1), .val (.int (((0 : Int32) + (1 : Int32)) + (1 : Int32))), .unset, .unset, .unset, .unset, .unset, .unset] []))) st_73 ?_
          refine Goes.go (U' := (T_73.setTop (mkF m 68 #[.val (.int pm), .val (.int pr), .val (.int pk), .val (.int pj), .val (.int po), .val (.ref b_1), .val (.int ((((0 : Int32) + (1 : Int32)) + (1 : Int32)) + (1 : Int32))), .unset, .unset, .unset, .unset, .unset, .unset] []))) (fun t kt => ?_) ?_
          · show Steps p.tables e below (T_73.setTop (mkF m 65 #[.val (.int pm), .val (.int pr), .val (.int pk), .val (.int pj), .val (.int po), .val (.ref b_1), .val (.int (((0 : Int32) + (1 : Int32)) + (1 : Int32))), .unset, .unset, .unset, .unset, .unset, .unset] [])) t
            refine XS.iinc X_73.here hx rfl (hb hby at_65) rfl (l' := #[.val (.int pm), .val (.int pr), .val (.int pk), .val (.int pj), .val (.int po), .val (.ref b_1), .val (.int ((((0 : Int32) + (1 : Int32)) + (1 : Int32)) + (1 : Int32))), .unset, .unset, .unset, .unset, .unset, .unset]) rfl ?_
            exact kt
          have hk : (((((0 : Int32) + (1 : Int32)) + (1 : Int32)) + (1 : Int32)) : Int32).toInt = 3 := by decide
          exact law_68 l Z a0 hw pm pr pk pj po b_1 ((((0 : Int32) + (1 : Int32)) + (1 : Int32)) + (1 : Int32)) h0 n0 Z0 p e s m below meth c hx hby hml hown hnm hret hlk hZ _ _ _ X_73 (rfl : T_73.heap = T_73.heap) N_73 K_81 f_74 BC (by omega) (by omega) o_1 z_1 f_75 Gsince__73 Glast__73 Grisk__73 Gfirst__73 Gheld__73
set_option maxRecDepth 65536 in
set_option maxHeartbeats 40000000 in
theorem comes_1 {Post : Tables → Env → Array Value → State → Outcome → State → Prop} (hpost : ∀ tb e args s v u, (limb_1_1.after args s (.returned v) u = true ∧ limb_1_2.after args s (.returned v) u = true) → FrameEnd s (.returned v) u (Jvm.fieldLocs frame_1_writes args s ++ Jvm.arrayLocs frame_1_arrays args s ++ Jvm.staticLocs frame_1_statics s) 16 128 → Post tb e args s (.returned v) u) :
    ArmFor flags0 classFile x code maxLocals ret World_1 tables_1 room_1 Calls_1 rest_1 Pre_1 Post := by
  intro l hfl _ _ p e ha hc hk s m args below hf hA hF happ hP
  obtain ⟨hcalls, hrest, hpre⟩ := hP
  obtain ⟨-, -, -, hnamed, -, -, -, hat⟩ := (Spec.applies_iff hf).mp happ
  obtain ⟨hg, hn⟩ := and_e (Cond.before_iff.mp (show (Jvm.Cond.and given_1 narrow_1).before args s = true from hpre))
  obtain ⟨gc, gs⟩ := and_e hg
  obtain ⟨ga0, gs⟩ := and_e gs
  obtain ⟨ga1, gs⟩ := and_e gs
  obtain ⟨ga2, gs⟩ := and_e gs
  obtain ⟨ga3, gs⟩ := and_e gs
  have ga4 := gs
  obtain ⟨w0, w1, w2, w3, w4, rfl⟩ : ∃ w0 w1 w2 w3 w4 : Value, args = #[w0, w1, w2, w3, w4] := by
    have hs : args.size = 5 := by simpa [Cond.value, given_1] using gc
    obtain ⟨L⟩ := args
    match L, hs with
    | [w0, w1, w2, w3, w4], _ => exact ⟨w0, w1, w2, w3, w4, rfl⟩
  have hw := fun d (hd : d ∈ tables_1) => atoms_spec (ws := Jvm.Cond.code x code maxLocals ret :: tables_1) hat d (List.mem_cons_of_mem _ hd)
  have hfit : Fit s := fun {y c} hc i hi => by
    obtain ⟨ha, rfl⟩ := Array.getElem?_eq_some_iff.mp hc
    have q := List.all_eq_true.mp ((Array.all_eq_true_iff_forall_mem.mp hF) _ (Array.getElem_mem ha)) i (List.mem_range.mpr hi)
    simpa [Array.getElem?_eq_getElem hi] using q
  obtain ⟨i0, ei0⟩ := is_v ga0
  obtain rfl : w0 = (.int i0) := Option.some.inj ei0
  obtain ⟨i1, ei1⟩ := is_v ga1
  obtain rfl : w1 = (.int i1) := Option.some.inj ei1
  obtain ⟨i2, ei2⟩ := is_v ga2
  obtain rfl : w2 = (.int i2) := Option.some.inj ei2
  obtain ⟨i3, ei3⟩ := is_v ga3
  obtain rfl : w3 = (.int i3) := Option.some.inj ei3
  obtain ⟨i4, ei4⟩ := is_v ga4
  obtain rfl : w4 = (.int i4) := Option.some.inj ei4
  obtain ⟨hsets, hown0⟩ := atoms_of _ (rest_1_c_eq ▸ (show rest_1_c.before _ s = true from hrest))
  have BC : BoxC s "java/lang/Long$LongCache" "[Ljava/lang/Long;" "java/lang/Long" "J" (fun i => .long (i.toInt32 - 128).toInt64) := BoxC.start (wdOf hw 31 rfl) (wdOf hsets 0 rfl) (wdOf hsets 2 rfl) (wdOf hsets 4 rfl) (wdOf hsets 5 rfl) (fun _ => rfl) (fun _ => Or.inr ⟨_, rfl⟩)
  obtain ⟨n, o, h1, h2, h3, _, L, rfl, ⟨rfl, N⟩, hq⟩ := rm_law l s _ hw tables_1 i0 i1 i2 i3 i4 s.heap s.heap.size (Nat.le_refl _) (Old.start s) BC p e ha hc hk s m _ below hf ((Spec.applies_iff_loose hf).mp happ).1 ⟨rfl, State.Warmed39.refl s, rfl⟩ trivial
  refine ⟨n, _, h1, h2, h3, hpost _ _ _ _ _ _ ⟨Cond.after_iff.mpr rfl, Cond.after_iff.mpr (eq_i res_at (Term.int_eval (1)) rfl)⟩ ⟨hq.1, hq.2.1, (hq.2.2.sift fun y hy => Or.inr (N y hy)).mono (by decide) (by decide)⟩⟩
theorem main_1_1 : Claimed_1_1 := comes_1 fun _ _ _ _ _ _ h hF => ⟨h.1, hF⟩
theorem main_1_2 : Claimed_1_2 := comes_1 fun _ _ _ _ _ _ h hF => ⟨h.2, hF⟩
end Jvm.Pilot.@@N@@
namespace Jvm.Pilot.@@N@@
open Jvm Jvm.ClassFile Sem Op Lib Jvm.Free Jvm.Stand Jvm.Pilot.@@N@@.Jvm.D
/-! MADE BY PROGRAM (witnessworld.py) out of the Statement's table words and the real class files: 19 classes; the members and pool entries that the words name. The judged class is class 1, her method 1. -/
namespace start1
open Jvm.ClassFile
def u (s : String) : CpInfo := .utf8 (stringToUtf16 s)
/-- a pool by its gaps: so many unusable entries, then the entry; so many at the end -/
def gap : Nat → List CpInfo → List CpInfo
  | 0, r => r
  | n + 1, r => .unusable :: gap n r
def poolList (es : List (Nat × CpInfo)) (last : Nat) : List CpInfo := es.foldr (fun e r => gap e.1 (e.2 :: r)) (gap last [])
def pool (es : List (Nat × CpInfo)) (last : Nat) : Array CpInfo := ⟨poolList es last⟩
def fileOf (pool : Array CpInfo) (this : Nat) (attrs : Array Attribute := #[]) (ms : Array MethodInfo := #[]) (fl : Nat := 33) (sup : Nat := 0) (ifs : Array Nat := #[]) (fds : Array FieldInfo := #[]) : ClassFile where
  minorVersion := 0
  majorVersion := 65
  constantPool := pool
  accessFlags := fl
  thisClass := this
  superClass := sup
  interfaces := ifs
  fields := fds
  methods := ms
  attributes := attrs
def plain (name : String) (sup : Option ClassId) : Class where
  name := name
  kind := .ordinary
  loader := none
  accessFlags := 33
  super := sup
  interfaces := #[]
  cf := none
  fields := #[]
  methods := #[]
  instanceTypes := #[]
  staticTypes := #[]
  resolved := #[]
  callSites := []
  init := .initialized
  statics := none
  mirror := none

def pool0 : Array CpInfo := pool [(5, u "<init>"), (0, u "()V"), (1, .class_ 10), (1, u "java/lang/Object")] 113

def k0c0 : Code := { maxStack := 0, maxLocals := 1, code := object_method_1_code, exceptionTable := #[], attributes := #[] }
def k0m0 : Method := { name := "<init>", desc := "()V", sig := { parameters := [], returnType := none }, accessFlags := 1, code := some k0c0 }
/-- java/lang/Object -/
def k0 : Class := { plain "java/lang/Object" none with
  accessFlags := 33
  interfaces := #[]
  cf := some (fileOf pool0 8 #[] #[{ accessFlags := 1, nameIndex := 5, descriptorIndex := 6, attributes := #[] }] 33 0 #[] #[])
  fields := #[]
  methods := #[k0m0]
  instanceTypes := #[]
  staticTypes := #[]
  resolved := Array.replicate 124 none
  statics := none }

def pool1 : Array CpInfo := pool [(2, .class_ 4), (0, .nameAndType 5 6), (0, u "java/lang/Object"), (0, u "<init>"), (0, u "()V"), (0, .class_ 8), (0, u "com/example/dead_letter_replay/deadletterreplay/queue/Carries"), (0, .methodref 7 3), (0, .methodref 7 11), (0, .nameAndType 12 13), (0, u "due"), (0, u "(I)Z"), (0, .methodref 7 15), (0, .nameAndType 16 6), (0, u "counted"), (0, .class_ 18), (0, u "com/example/dead_letter_replay/deadletterreplay/queue/Carries$Carried"), (0, .methodref 20 21), (0, .class_ 22), (0, .nameAndType 23 24), (0, u "java/lang/Long"), (0, u "valueOf"), (0, u "(J)Ljava/lang/Long;"), (0, .methodref 17 26), (0, .nameAndType 5 27), (0, u "(Ljava/lang/Long;JJI)V"), (0, .methodref 7 29), (0, .nameAndType 30 31), (0, u "carried"), (0, u "(Lcom/example/dead_letter_replay/deadletterreplay/queue/Carries$Carried;)V"), (0, .methodref 33 34), (0, .class_ 35), (0, .nameAndType 36 37), (0, u "java/lang/Math"), (0, u "min"), (0, u "(JJ)J"), (0, .long 2), (1, .class_ 41), (0, u "com/example/dead_letter_replay/deadletterreplay/queue/CarriesDuePinLaw"), (2, u "law"), (0, u "(IIIII)Z")] 5

def k1m0 : Method := { name := "<init>", desc := "()V", sig := { parameters := [], returnType := none }, accessFlags := 2, code := none }
def k1c1 : Code := { maxStack := 9, maxLocals := 13, code := code, exceptionTable := #[], attributes := #[] }
def k1m1 : Method := { name := "law", desc := "(IIIII)Z", sig := { parameters := [.int, .int, .int, .int, .int], returnType := some .boolean }, accessFlags := 9, code := some k1c1 }
/-- com/example/dead_letter_replay/deadletterreplay/queue/CarriesDuePinLaw -/
def k1 : Class := { plain "com/example/dead_letter_replay/deadletterreplay/queue/CarriesDuePinLaw" (some 0) with
  accessFlags := 49
  interfaces := #[]
  cf := some (fileOf pool1 40 #[] #[{ accessFlags := 2, nameIndex := 5, descriptorIndex := 6, attributes := #[] }, { accessFlags := 9, nameIndex := 44, descriptorIndex := 45, attributes := #[] }] 49 2 #[] #[])
  fields := #[]
  methods := #[k1m0, k1m1]
  instanceTypes := #[]
  staticTypes := #[]
  resolved := Array.replicate 51 none
  statics := none }

def pool2 : Array CpInfo := pool [(1, .methodref 2 3), (0, .class_ 4), (0, .nameAndType 5 6), (0, u "java/lang/Object"), (0, u "<init>"), (0, u "()V"), (0, .fieldref 8 9), (0, .class_ 10), (0, .nameAndType 11 12), (0, u "com/example/dead_letter_replay/deadletterreplay/queue/Carries"), (0, u "since"), (0, u "I"), (0, .methodref 14 15), (0, .class_ 16), (0, .nameAndType 17 18), (0, u "java/lang/Math"), (0, u "max"), (0, u "(II)I"), (0, .fieldref 8 20), (0, .nameAndType 21 12), (0, u "risk"), (0, .fieldref 8 23), (0, .nameAndType 24 25), (0, u "held"), (0, u "Z"), (0, .fieldref 8 27), (0, .nameAndType 28 29), (0, u "first"), (0, u "Ljava/lang/Long;"), (0, .fieldref 8 31), (0, .nameAndType 32 33), (0, u "last"), (0, u "Lcom/example/dead_letter_replay/deadletterreplay/queue/Carries$Carried;"), (0, .methodref 8 35), (0, .nameAndType 36 37), (0, u "leftIfUndone"), (0, u "(Lcom/example/dead_letter_replay/deadletterreplay/queue/Carries$Carried;)I"), (0, .methodref 39 40), (0, .class_ 41), (0, .nameAndType 42 43), (0, u "com/example/dead_letter_replay/deadletterreplay/queue/Carries$Carried"), (0, u "era"), (0, u "()J"), (0, .methodref 45 46), (0, .class_ 47), (0, .nameAndType 48 49), (0, u "java/lang/Long"), (0, u "valueOf"), (0, u "(J)Ljava/lang/Long;"), (7, .methodref 39 58), (0, .nameAndType 59 60), (0, u "from"), (0, u "()Ljava/lang/Long;"), (3, .methodref 8 65), (0, .nameAndType 66 37), (0, u "countedBefore"), (0, .methodref 45 68), (0, .nameAndType 69 43), (0, u "longValue"), (0, .methodref 14 71), (0, .nameAndType 72 73), (0, u "min"), (0, u "(JJ)J"), (6, u "due"), (0, u "(I)Z"), (1, u "counted"), (0, u "carried"), (0, u "(Lcom/example/dead_letter_replay/deadletterreplay/queue/Carries$Carried;)V")] 5

def k2c0 : Code := { maxStack := 1, maxLocals := 1, code := prog_11_method_1_code, exceptionTable := #[], attributes := #[] }
def k2m0 : Method := { name := "<init>", desc := "()V", sig := { parameters := [], returnType := none }, accessFlags := 0, code := some k2c0 }
def k2c1 : Code := { maxStack := 4, maxLocals := 2, code := prog_11_method_2_code, exceptionTable := #[], attributes := #[] }
def k2m1 : Method := { name := "due", desc := "(I)Z", sig := { parameters := [.int], returnType := some .boolean }, accessFlags := 0, code := some k2c1 }
def k2c2 : Code := { maxStack := 3, maxLocals := 1, code := prog_11_method_3_code, exceptionTable := #[], attributes := #[] }
def k2m2 : Method := { name := "counted", desc := "()V", sig := { parameters := [], returnType := none }, accessFlags := 0, code := some k2c2 }
def k2c3 : Code := { maxStack := 3, maxLocals := 2, code := prog_11_method_5_code, exceptionTable := #[], attributes := #[] }
def k2m3 : Method := { name := "carried", desc := "(Lcom/example/dead_letter_replay/deadletterreplay/queue/Carries$Carried;)V", sig := { parameters := [(.object "com/example/dead_letter_replay/deadletterreplay/queue/Carries$Carried")], returnType := none }, accessFlags := 0, code := some k2c3 }
def k2c4 : Code := { maxStack := 6, maxLocals := 4, code := prog_11_method_6_code, exceptionTable := #[], attributes := #[] }
def k2m4 : Method := { name := "leftIfUndone", desc := "(Lcom/example/dead_letter_replay/deadletterreplay/queue/Carries$Carried;)I", sig := { parameters := [(.object "com/example/dead_letter_replay/deadletterreplay/queue/Carries$Carried")], returnType := some .int }, accessFlags := 2, code := some k2c4 }
def k2c5 : Code := { maxStack := 2, maxLocals := 2, code := prog_11_method_7_code, exceptionTable := #[], attributes := #[] }
def k2m5 : Method := { name := "countedBefore", desc := "(Lcom/example/dead_letter_replay/deadletterreplay/queue/Carries$Carried;)I", sig := { parameters := [(.object "com/example/dead_letter_replay/deadletterreplay/queue/Carries$Carried")], returnType := some .int }, accessFlags := 2, code := some k2c5 }
/-- com/example/dead_letter_replay/deadletterreplay/queue/Carries -/
def k2 : Class := { plain "com/example/dead_letter_replay/deadletterreplay/queue/Carries" (some 0) with
  accessFlags := 48
  interfaces := #[]
  cf := some (fileOf pool2 8 #[.nestMembers #[39]] #[{ accessFlags := 0, nameIndex := 5, descriptorIndex := 6, attributes := #[] }, { accessFlags := 0, nameIndex := 80, descriptorIndex := 81, attributes := #[] }, { accessFlags := 0, nameIndex := 83, descriptorIndex := 6, attributes := #[] }, { accessFlags := 0, nameIndex := 84, descriptorIndex := 85, attributes := #[] }, { accessFlags := 2, nameIndex := 36, descriptorIndex := 37, attributes := #[] }, { accessFlags := 2, nameIndex := 66, descriptorIndex := 37, attributes := #[] }] 48 2 #[] #[{ accessFlags := 2, nameIndex := 11, descriptorIndex := 12, attributes := #[] }, { accessFlags := 2, nameIndex := 32, descriptorIndex := 33, attributes := #[] }, { accessFlags := 2, nameIndex := 21, descriptorIndex := 12, attributes := #[] }, { accessFlags := 2, nameIndex := 28, descriptorIndex := 29, attributes := #[] }, { accessFlags := 2, nameIndex := 24, descriptorIndex := 25, attributes := #[] }])
  fields := #[{ name := "since", type := .int, accessFlags := 2, slot := 0, constantValue := 0 }, { name := "last", type := (.object "com/example/dead_letter_replay/deadletterreplay/queue/Carries$Carried"), accessFlags := 2, slot := 1, constantValue := 0 }, { name := "risk", type := .int, accessFlags := 2, slot := 2, constantValue := 0 }, { name := "first", type := (.object "java/lang/Long"), accessFlags := 2, slot := 3, constantValue := 0 }, { name := "held", type := .boolean, accessFlags := 2, slot := 4, constantValue := 0 }]
  methods := #[k2m0, k2m1, k2m2, k2m3, k2m4, k2m5]
  instanceTypes := #[.int, (.object "com/example/dead_letter_replay/deadletterreplay/queue/Carries$Carried"), .int, (.object "java/lang/Long"), .boolean]
  staticTypes := #[]
  resolved := Array.replicate 91 none
  statics := none }

def pool3 : Array CpInfo := pool [(1, .methodref 2 3), (0, .class_ 4), (0, .nameAndType 5 6), (0, u "java/lang/Object"), (0, u "<init>"), (0, u "()V"), (0, .class_ 8), (0, u "java/lang/Record")] 13

def k3c0 : Code := { maxStack := 1, maxLocals := 1, code := jdk_30_method_1_code, exceptionTable := #[], attributes := #[] }
def k3m0 : Method := { name := "<init>", desc := "()V", sig := { parameters := [], returnType := none }, accessFlags := 4, code := some k3c0 }
/-- java/lang/Record -/
def k3 : Class := { plain "java/lang/Record" (some 0) with
  accessFlags := 1057
  interfaces := #[]
  cf := some (fileOf pool3 7 #[] #[{ accessFlags := 4, nameIndex := 5, descriptorIndex := 6, attributes := #[] }] 1057 2 #[] #[])
  fields := #[]
  methods := #[k3m0]
  instanceTypes := #[]
  staticTypes := #[]
  resolved := Array.replicate 22 none
  statics := none }

def pool4 : Array CpInfo := pool [(1, .methodref 2 3), (0, .class_ 4), (0, .nameAndType 5 6), (0, u "java/lang/Record"), (0, u "<init>"), (0, u "()V"), (0, .fieldref 8 9), (0, .class_ 10), (0, .nameAndType 11 12), (0, u "com/example/dead_letter_replay/deadletterreplay/queue/Carries$Carried"), (0, u "from"), (0, u "Ljava/lang/Long;"), (0, .fieldref 8 14), (0, .nameAndType 15 16), (0, u "era"), (0, u "J"), (0, .fieldref 8 18), (0, .nameAndType 19 16), (0, u "transaction"), (0, .fieldref 8 21), (0, .nameAndType 22 23), (0, u "backend"), (0, u "I"), (12, u "(Ljava/lang/Long;JJI)V"), (6, u "()Ljava/lang/Long;"), (0, u "()J"), (3, .class_ 49), (0, u "com/example/dead_letter_replay/deadletterreplay/queue/Carries")] 22

def k4c0 : Code := { maxStack := 3, maxLocals := 7, code := prog_12_method_1_code, exceptionTable := #[], attributes := #[] }
def k4m0 : Method := { name := "<init>", desc := "(Ljava/lang/Long;JJI)V", sig := { parameters := [(.object "java/lang/Long"), .long, .long, .int], returnType := none }, accessFlags := 0, code := some k4c0 }
def k4c1 : Code := { maxStack := 1, maxLocals := 1, code := prog_12_method_5_code, exceptionTable := #[], attributes := #[] }
def k4m1 : Method := { name := "from", desc := "()Ljava/lang/Long;", sig := { parameters := [], returnType := some (.object "java/lang/Long") }, accessFlags := 1, code := some k4c1 }
def k4c2 : Code := { maxStack := 2, maxLocals := 1, code := prog_12_method_6_code, exceptionTable := #[], attributes := #[] }
def k4m2 : Method := { name := "era", desc := "()J", sig := { parameters := [], returnType := some .long }, accessFlags := 1, code := some k4c2 }
/-- com/example/dead_letter_replay/deadletterreplay/queue/Carries$Carried -/
def k4 : Class := { plain "com/example/dead_letter_replay/deadletterreplay/queue/Carries$Carried" (some 3) with
  accessFlags := 48
  interfaces := #[]
  cf := some (fileOf pool4 8 #[.nestHost 48] #[{ accessFlags := 0, nameIndex := 5, descriptorIndex := 36, attributes := #[] }, { accessFlags := 1, nameIndex := 11, descriptorIndex := 43, attributes := #[] }, { accessFlags := 1, nameIndex := 15, descriptorIndex := 44, attributes := #[] }] 48 2 #[] #[{ accessFlags := 18, nameIndex := 11, descriptorIndex := 12, attributes := #[] }, { accessFlags := 18, nameIndex := 15, descriptorIndex := 16, attributes := #[] }, { accessFlags := 18, nameIndex := 19, descriptorIndex := 16, attributes := #[] }, { accessFlags := 18, nameIndex := 22, descriptorIndex := 23, attributes := #[] }])
  fields := #[{ name := "from", type := (.object "java/lang/Long"), accessFlags := 18, slot := 0, constantValue := 0 }, { name := "era", type := .long, accessFlags := 18, slot := 1, constantValue := 0 }, { name := "transaction", type := .long, accessFlags := 18, slot := 2, constantValue := 0 }, { name := "backend", type := .int, accessFlags := 18, slot := 3, constantValue := 0 }]
  methods := #[k4m0, k4m1, k4m2]
  instanceTypes := #[(.object "java/lang/Long"), .long, .long, .int]
  staticTypes := #[]
  resolved := Array.replicate 72 none
  statics := none }

def pool5 : Array CpInfo := pool [(1, .class_ 2), (0, u "java/io/Serializable"), (0, .class_ 4), (0, u "java/lang/Object")] 2

/-- java/io/Serializable -/
def k5 : Class := { plain "java/io/Serializable" (some 0) with
  accessFlags := 1537
  interfaces := #[]
  cf := some (fileOf pool5 1 #[] #[] 1537 3 #[] #[])
  fields := #[]
  methods := #[]
  instanceTypes := #[]
  staticTypes := #[]
  resolved := Array.replicate 7 none
  statics := none }

def pool6 : Array CpInfo := pool [(1, .methodref 2 3), (0, .class_ 4), (0, .nameAndType 5 6), (0, u "java/lang/Object"), (0, u "<init>"), (0, u "()V"), (1, .class_ 10), (1, u "java/lang/Number"), (2, .class_ 14), (0, u "java/io/Serializable"), (0, u "serialVersionUID"), (0, u "J")] 20

def k6c0 : Code := { maxStack := 1, maxLocals := 1, code := jdk_18_method_1_code, exceptionTable := #[], attributes := #[] }
def k6m0 : Method := { name := "<init>", desc := "()V", sig := { parameters := [], returnType := none }, accessFlags := 1, code := some k6c0 }
/-- java/lang/Number -/
def k6 : Class := { plain "java/lang/Number" (some 0) with
  accessFlags := 1057
  interfaces := #[5]
  cf := some (fileOf pool6 8 #[] #[{ accessFlags := 1, nameIndex := 5, descriptorIndex := 6, attributes := #[] }] 1057 2 #[13] #[{ accessFlags := 26, nameIndex := 15, descriptorIndex := 16, attributes := #[] }])
  fields := #[{ name := "serialVersionUID", type := .long, accessFlags := 26, slot := 0, constantValue := 0 }]
  methods := #[k6m0]
  instanceTypes := #[]
  staticTypes := #[.long]
  resolved := Array.replicate 37 none
  statics := none }

def pool7 : Array CpInfo := pool [(1, .class_ 2), (0, u "java/lang/Comparable"), (0, .class_ 4), (0, u "java/lang/Object")] 7

/-- java/lang/Comparable -/
def k7 : Class := { plain "java/lang/Comparable" (some 0) with
  accessFlags := 1537
  interfaces := #[]
  cf := some (fileOf pool7 1 #[] #[] 1537 3 #[] #[])
  fields := #[]
  methods := #[]
  instanceTypes := #[]
  staticTypes := #[]
  resolved := Array.replicate 12 none
  statics := none }

def pool8 : Array CpInfo := pool [(1, .class_ 2), (0, u "java/lang/constant/Constable"), (0, .class_ 4), (0, u "java/lang/Object")] 6

/-- java/lang/constant/Constable -/
def k8 : Class := { plain "java/lang/constant/Constable" (some 0) with
  accessFlags := 1537
  interfaces := #[]
  cf := some (fileOf pool8 1 #[] #[] 1537 3 #[] #[])
  fields := #[]
  methods := #[]
  instanceTypes := #[]
  staticTypes := #[]
  resolved := Array.replicate 11 none
  statics := none }

def pool9 : Array CpInfo := pool [(1, .class_ 2), (0, u "java/lang/constant/ConstantDesc"), (0, .class_ 4), (0, u "java/lang/Object")] 32

/-- java/lang/constant/ConstantDesc -/
def k9 : Class := { plain "java/lang/constant/ConstantDesc" (some 0) with
  accessFlags := 1537
  interfaces := #[]
  cf := some (fileOf pool9 1 #[] #[] 1537 3 #[] #[])
  fields := #[]
  methods := #[]
  instanceTypes := #[]
  staticTypes := #[]
  resolved := Array.replicate 37 none
  statics := none }

def pool10 : Array CpInfo := pool [(1, .class_ 2), (0, u "java/lang/Long"), (55, .nameAndType 59 60), (0, u "<init>"), (0, u "()V"), (24, u "valueOf"), (143, u "(J)Ljava/lang/Long;"), (0, .long 18446744073709551488), (1, .long 127), (1, .fieldref 235 236), (0, .class_ 237), (0, .nameAndType 238 239), (0, u "java/lang/Long$LongCache"), (0, u "cache"), (0, u "[Ljava/lang/Long;"), (0, .methodref 1 241), (0, .nameAndType 59 242), (0, u "(J)V"), (27, .methodref 271 58), (0, .class_ 272), (0, u "java/lang/Number"), (0, .fieldref 1 274), (0, .nameAndType 275 276), (0, u "value"), (0, u "J"), (5, u "longValue"), (0, u "()J"), (77, u "TYPE"), (0, u "Ljava/lang/Class;"), (0, .class_ 364), (0, u "java/lang/Comparable"), (0, .class_ 366), (0, u "java/lang/constant/Constable"), (0, .class_ 368), (0, u "java/lang/constant/ConstantDesc"), (0, u "MIN_VALUE"), (1, u "MAX_VALUE"), (4, u "SIZE"), (0, u "I"), (1, u "BYTES"), (1, u "serialVersionUID")] 142

def k10c0 : Code := { maxStack := 4, maxLocals := 3, code := jdk_35_method_24_code, exceptionTable := #[], attributes := #[] }
def k10m0 : Method := { name := "valueOf", desc := "(J)Ljava/lang/Long;", sig := { parameters := [.long], returnType := some (.object "java/lang/Long") }, accessFlags := 9, code := some k10c0 }
def k10c1 : Code := { maxStack := 3, maxLocals := 3, code := jdk_35_method_26_code, exceptionTable := #[], attributes := #[] }
def k10m1 : Method := { name := "<init>", desc := "(J)V", sig := { parameters := [.long], returnType := none }, accessFlags := 1, code := some k10c1 }
def k10c2 : Code := { maxStack := 2, maxLocals := 1, code := jdk_35_method_31_code, exceptionTable := #[], attributes := #[] }
def k10m2 : Method := { name := "longValue", desc := "()J", sig := { parameters := [], returnType := some .long }, accessFlags := 1, code := some k10c2 }
/-- java/lang/Long -/
def k10 : Class := { plain "java/lang/Long" (some 6) with
  accessFlags := 49
  interfaces := #[7, 8, 9]
  cf := some (fileOf pool10 1 #[.nestMembers #[235]] #[{ accessFlags := 9, nameIndex := 85, descriptorIndex := 229, attributes := #[] }, { accessFlags := 1, nameIndex := 59, descriptorIndex := 242, attributes := #[] }, { accessFlags := 1, nameIndex := 282, descriptorIndex := 283, attributes := #[] }] 49 271 #[363, 365, 367] #[{ accessFlags := 25, nameIndex := 369, descriptorIndex := 276, attributes := #[] }, { accessFlags := 25, nameIndex := 371, descriptorIndex := 276, attributes := #[] }, { accessFlags := 25, nameIndex := 361, descriptorIndex := 362, attributes := #[] }, { accessFlags := 18, nameIndex := 275, descriptorIndex := 276, attributes := #[] }, { accessFlags := 25, nameIndex := 376, descriptorIndex := 377, attributes := #[] }, { accessFlags := 25, nameIndex := 379, descriptorIndex := 377, attributes := #[] }, { accessFlags := 26, nameIndex := 381, descriptorIndex := 276, attributes := #[] }])
  fields := #[{ name := "MIN_VALUE", type := .long, accessFlags := 25, slot := 0, constantValue := 0 }, { name := "MAX_VALUE", type := .long, accessFlags := 25, slot := 1, constantValue := 0 }, { name := "TYPE", type := (.object "java/lang/Class"), accessFlags := 25, slot := 2, constantValue := 0 }, { name := "value", type := .long, accessFlags := 18, slot := 0, constantValue := 0 }, { name := "SIZE", type := .int, accessFlags := 25, slot := 3, constantValue := 0 }, { name := "BYTES", type := .int, accessFlags := 25, slot := 4, constantValue := 0 }, { name := "serialVersionUID", type := .long, accessFlags := 26, slot := 5, constantValue := 0 }]
  methods := #[k10m0, k10m1, k10m2]
  instanceTypes := #[.long]
  staticTypes := #[.long, .long, (.object "java/lang/Class"), .int, .int, .long]
  resolved := Array.replicate 524 none
  statics := none }

def pool11 : Array CpInfo := pool [(2, .class_ 4), (1, u "java/lang/Object"), (0, u "<init>"), (0, u "()V"), (0, .class_ 8), (0, u "java/lang/Long"), (7, .class_ 18), (1, u "java/lang/Long$LongCache"), (0, u "$assertionsDisabled"), (0, u "Z"), (8, u "archivedCache"), (0, u "[Ljava/lang/Long;"), (7, u "cache")] 24

def k11m0 : Method := { name := "<init>", desc := "()V", sig := { parameters := [], returnType := none }, accessFlags := 2, code := none }
/-- java/lang/Long$LongCache -/
def k11 : Class := { plain "java/lang/Long$LongCache" (some 0) with
  accessFlags := 48
  interfaces := #[]
  cf := some (fileOf pool11 16 #[.nestHost 7] #[{ accessFlags := 2, nameIndex := 5, descriptorIndex := 6, attributes := #[] }] 48 2 #[] #[{ accessFlags := 24, nameIndex := 38, descriptorIndex := 30, attributes := #[] }, { accessFlags := 8, nameIndex := 29, descriptorIndex := 30, attributes := #[] }, { accessFlags := 4120, nameIndex := 19, descriptorIndex := 20, attributes := #[] }])
  fields := #[{ name := "cache", type := (.array (.object "java/lang/Long")), accessFlags := 24, slot := 0, constantValue := 0 }, { name := "archivedCache", type := (.array (.object "java/lang/Long")), accessFlags := 8, slot := 1, constantValue := 0 }, { name := "$assertionsDisabled", type := .boolean, accessFlags := 4120, slot := 2, constantValue := 0 }]
  methods := #[k11m0]
  instanceTypes := #[]
  staticTypes := #[(.array (.object "java/lang/Long")), (.array (.object "java/lang/Long")), .boolean]
  resolved := Array.replicate 63 none
  statics := some 0 }

def pool12 : Array CpInfo := pool [(1, .class_ 2), (0, u "java/lang/Math"), (1, .class_ 6), (1, u "java/lang/Object"), (0, u "<init>"), (0, u "()V"), (89, .class_ 100), (1, u "java/lang/Math$RandomNumberGeneratorHolder"), (20, u "(JJ)J"), (50, u "negativeZeroFloatBits"), (0, u "J"), (2, u "negativeZeroDoubleBits"), (21, u "max"), (2, u "min"), (43, u "$assertionsDisabled"), (0, u "Z"), (88, u "(II)I"), (2, u "twoToTheDoubleScaleDown"), (0, u "D"), (4, u "twoToTheDoubleScaleUp"), (9, u "E"), (3, u "PI"), (2, u "TAU"), (2, u "DEGREES_TO_RADIANS"), (0, u "RADIANS_TO_DEGREES")] 94

def k12m0 : Method := { name := "<init>", desc := "()V", sig := { parameters := [], returnType := none }, accessFlags := 2, code := none }
def k12c1 : Code := { maxStack := 2, maxLocals := 2, code := jdk_29_method_65_code, exceptionTable := #[], attributes := #[] }
def k12m1 : Method := { name := "max", desc := "(II)I", sig := { parameters := [.int, .int], returnType := some .int }, accessFlags := 9, code := some k12c1 }
def k12c2 : Code := { maxStack := 4, maxLocals := 4, code := jdk_29_method_70_code, exceptionTable := #[], attributes := #[] }
def k12m2 : Method := { name := "min", desc := "(JJ)J", sig := { parameters := [.long, .long], returnType := some .long }, accessFlags := 9, code := some k12c2 }
/-- java/lang/Math -/
def k12 : Class := { plain "java/lang/Math" (some 0) with
  accessFlags := 49
  interfaces := #[]
  cf := some (fileOf pool12 1 #[.nestMembers #[98]] #[{ accessFlags := 2, nameIndex := 7, descriptorIndex := 8, attributes := #[] }, { accessFlags := 9, nameIndex := 198, descriptorIndex := 335, attributes := #[] }, { accessFlags := 9, nameIndex := 201, descriptorIndex := 121, attributes := #[] }] 49 4 #[] #[{ accessFlags := 25, nameIndex := 354, descriptorIndex := 339, attributes := #[] }, { accessFlags := 25, nameIndex := 358, descriptorIndex := 339, attributes := #[] }, { accessFlags := 25, nameIndex := 361, descriptorIndex := 339, attributes := #[] }, { accessFlags := 26, nameIndex := 364, descriptorIndex := 339, attributes := #[] }, { accessFlags := 26, nameIndex := 365, descriptorIndex := 339, attributes := #[] }, { accessFlags := 26, nameIndex := 172, descriptorIndex := 173, attributes := #[] }, { accessFlags := 26, nameIndex := 176, descriptorIndex := 173, attributes := #[] }, { accessFlags := 8, nameIndex := 344, descriptorIndex := 339, attributes := #[] }, { accessFlags := 8, nameIndex := 338, descriptorIndex := 339, attributes := #[] }, { accessFlags := 4120, nameIndex := 245, descriptorIndex := 246, attributes := #[] }])
  fields := #[{ name := "E", type := .double, accessFlags := 25, slot := 0, constantValue := 0 }, { name := "PI", type := .double, accessFlags := 25, slot := 1, constantValue := 0 }, { name := "TAU", type := .double, accessFlags := 25, slot := 2, constantValue := 0 }, { name := "DEGREES_TO_RADIANS", type := .double, accessFlags := 26, slot := 3, constantValue := 0 }, { name := "RADIANS_TO_DEGREES", type := .double, accessFlags := 26, slot := 4, constantValue := 0 }, { name := "negativeZeroFloatBits", type := .long, accessFlags := 26, slot := 5, constantValue := 0 }, { name := "negativeZeroDoubleBits", type := .long, accessFlags := 26, slot := 6, constantValue := 0 }, { name := "twoToTheDoubleScaleUp", type := .double, accessFlags := 8, slot := 7, constantValue := 0 }, { name := "twoToTheDoubleScaleDown", type := .double, accessFlags := 8, slot := 8, constantValue := 0 }, { name := "$assertionsDisabled", type := .boolean, accessFlags := 4120, slot := 9, constantValue := 0 }]
  methods := #[k12m0, k12m1, k12m2]
  instanceTypes := #[]
  staticTypes := #[.double, .double, .double, .double, .double, .long, .long, .double, .double, .boolean]
  resolved := Array.replicate 460 none
  statics := none }

def pool13 : Array CpInfo := pool [(1, u "java/lang/Cloneable"), (0, .class_ 1), (0, u "java/lang/Object"), (0, .class_ 3)] 3

/-- java/lang/Cloneable -/
def k13 : Class := { plain "java/lang/Cloneable" (some 0) with
  accessFlags := 1537
  interfaces := #[]
  cf := some (fileOf pool13 2 #[] #[] 1537 4 #[] #[])
  fields := #[]
  methods := #[]
  instanceTypes := #[]
  staticTypes := #[]
  resolved := Array.replicate 8 none
  statics := none }

/-- the primitive byte -/
def k14 : Class := { plain "byte" none with kind := .primitive 'B', accessFlags := 0x411 }
/-- [B -/
def k15 : Class := { plain "[B" (some 0) with kind := .array 14 .byte, interfaces := #[13, 5], accessFlags := 1041 }

/-- the primitive int -/
def k16 : Class := { plain "int" none with kind := .primitive 'I', accessFlags := 0x411 }
/-- [I -/
def k17 : Class := { plain "[I" (some 0) with kind := .array 16 .int, interfaces := #[13, 5], accessFlags := 1041 }

/-- [Ljava/lang/Long; -/
def k18 : Class := { plain "[Ljava/lang/Long;" (some 0) with kind := .array 10 (.object "java/lang/Long"), interfaces := #[13, 5], accessFlags := 1041 }

def heap : Heap := #[{ cls := 11, slots := #[.ref 1, .null, .int 0], vm := .statics 11 },
  { cls := 18, slots := #[.ref 2, .ref 3, .ref 4, .ref 5, .ref 6, .ref 7, .ref 8, .ref 9, .ref 10, .ref 11, .ref 12, .ref 13, .ref 14, .ref 15, .ref 16, .ref 17, .ref 18, .ref 19, .ref 20, .ref 21, .ref 22, .ref 23, .ref 24, .ref 25, .ref 26, .ref 27, .ref 28, .ref 29, .ref 30, .ref 31, .ref 32, .ref 33, .ref 34, .ref 35, .ref 36, .ref 37, .ref 38, .ref 39, .ref 40, .ref 41, .ref 42, .ref 43, .ref 44, .ref 45, .ref 46, .ref 47, .ref 48, .ref 49, .ref 50, .ref 51, .ref 52, .ref 53, .ref 54, .ref 55, .ref 56, .ref 57, .ref 58, .ref 59, .ref 60, .ref 61, .ref 62, .ref 63, .ref 64, .ref 65, .ref 66, .ref 67, .ref 68, .ref 69, .ref 70, .ref 71, .ref 72, .ref 73, .ref 74, .ref 75, .ref 76, .ref 77, .ref 78, .ref 79, .ref 80, .ref 81, .ref 82, .ref 83, .ref 84, .ref 85, .ref 86, .ref 87, .ref 88, .ref 89, .ref 90, .ref 91, .ref 92, .ref 93, .ref 94, .ref 95, .ref 96, .ref 97, .ref 98, .ref 99, .ref 100, .ref 101, .ref 102, .ref 103, .ref 104, .ref 105, .ref 106, .ref 107, .ref 108, .ref 109, .ref 110, .ref 111, .ref 112, .ref 113, .ref 114, .ref 115, .ref 116, .ref 117, .ref 118, .ref 119, .ref 120, .ref 121, .ref 122, .ref 123, .ref 124, .ref 125, .ref 126, .ref 127, .ref 128, .ref 129, .ref 130, .ref 131, .ref 132, .ref 133, .ref 134, .ref 135, .ref 136, .ref 137, .ref 138, .ref 139, .ref 140, .ref 141, .ref 142, .ref 143, .ref 144, .ref 145, .ref 146, .ref 147, .ref 148, .ref 149, .ref 150, .ref 151, .ref 152, .ref 153, .ref 154, .ref 155, .ref 156, .ref 157, .ref 158, .ref 159, .ref 160, .ref 161, .ref 162, .ref 163, .ref 164, .ref 165, .ref 166, .ref 167, .ref 168, .ref 169, .ref 170, .ref 171, .ref 172, .ref 173, .ref 174, .ref 175, .ref 176, .ref 177, .ref 178, .ref 179, .ref 180, .ref 181, .ref 182, .ref 183, .ref 184, .ref 185, .ref 186, .ref 187, .ref 188, .ref 189, .ref 190, .ref 191, .ref 192, .ref 193, .ref 194, .ref 195, .ref 196, .ref 197, .ref 198, .ref 199, .ref 200, .ref 201, .ref 202, .ref 203, .ref 204, .ref 205, .ref 206, .ref 207, .ref 208, .ref 209, .ref 210, .ref 211, .ref 212, .ref 213, .ref 214, .ref 215, .ref 216, .ref 217, .ref 218, .ref 219, .ref 220, .ref 221, .ref 222, .ref 223, .ref 224, .ref 225, .ref 226, .ref 227, .ref 228, .ref 229, .ref 230, .ref 231, .ref 232, .ref 233, .ref 234, .ref 235, .ref 236, .ref 237, .ref 238, .ref 239, .ref 240, .ref 241, .ref 242, .ref 243, .ref 244, .ref 245, .ref 246, .ref 247, .ref 248, .ref 249, .ref 250, .ref 251, .ref 252, .ref 253, .ref 254, .ref 255, .ref 256, .ref 257], vm := .none },
  { cls := 10, slots := #[.long (-128)], vm := .none },
  { cls := 10, slots := #[.long (-127)], vm := .none },
  { cls := 10, slots := #[.long (-126)], vm := .none },
  { cls := 10, slots := #[.long (-125)], vm := .none },
  { cls := 10, slots := #[.long (-124)], vm := .none },
  { cls := 10, slots := #[.long (-123)], vm := .none },
  { cls := 10, slots := #[.long (-122)], vm := .none },
  { cls := 10, slots := #[.long (-121)], vm := .none },
  { cls := 10, slots := #[.long (-120)], vm := .none },
  { cls := 10, slots := #[.long (-119)], vm := .none },
  { cls := 10, slots := #[.long (-118)], vm := .none },
  { cls := 10, slots := #[.long (-117)], vm := .none },
  { cls := 10, slots := #[.long (-116)], vm := .none },
  { cls := 10, slots := #[.long (-115)], vm := .none },
  { cls := 10, slots := #[.long (-114)], vm := .none },
  { cls := 10, slots := #[.long (-113)], vm := .none },
  { cls := 10, slots := #[.long (-112)], vm := .none },
  { cls := 10, slots := #[.long (-111)], vm := .none },
  { cls := 10, slots := #[.long (-110)], vm := .none },
  { cls := 10, slots := #[.long (-109)], vm := .none },
  { cls := 10, slots := #[.long (-108)], vm := .none },
  { cls := 10, slots := #[.long (-107)], vm := .none },
  { cls := 10, slots := #[.long (-106)], vm := .none },
  { cls := 10, slots := #[.long (-105)], vm := .none },
  { cls := 10, slots := #[.long (-104)], vm := .none },
  { cls := 10, slots := #[.long (-103)], vm := .none },
  { cls := 10, slots := #[.long (-102)], vm := .none },
  { cls := 10, slots := #[.long (-101)], vm := .none },
  { cls := 10, slots := #[.long (-100)], vm := .none },
  { cls := 10, slots := #[.long (-99)], vm := .none },
  { cls := 10, slots := #[.long (-98)], vm := .none },
  { cls := 10, slots := #[.long (-97)], vm := .none },
  { cls := 10, slots := #[.long (-96)], vm := .none },
  { cls := 10, slots := #[.long (-95)], vm := .none },
  { cls := 10, slots := #[.long (-94)], vm := .none },
  { cls := 10, slots := #[.long (-93)], vm := .none },
  { cls := 10, slots := #[.long (-92)], vm := .none },
  { cls := 10, slots := #[.long (-91)], vm := .none },
  { cls := 10, slots := #[.long (-90)], vm := .none },
  { cls := 10, slots := #[.long (-89)], vm := .none },
  { cls := 10, slots := #[.long (-88)], vm := .none },
  { cls := 10, slots := #[.long (-87)], vm := .none },
  { cls := 10, slots := #[.long (-86)], vm := .none },
  { cls := 10, slots := #[.long (-85)], vm := .none },
  { cls := 10, slots := #[.long (-84)], vm := .none },
  { cls := 10, slots := #[.long (-83)], vm := .none },
  { cls := 10, slots := #[.long (-82)], vm := .none },
  { cls := 10, slots := #[.long (-81)], vm := .none },
  { cls := 10, slots := #[.long (-80)], vm := .none },
  { cls := 10, slots := #[.long (-79)], vm := .none },
  { cls := 10, slots := #[.long (-78)], vm := .none },
  { cls := 10, slots := #[.long (-77)], vm := .none },
  { cls := 10, slots := #[.long (-76)], vm := .none },
  { cls := 10, slots := #[.long (-75)], vm := .none },
  { cls := 10, slots := #[.long (-74)], vm := .none },
  { cls := 10, slots := #[.long (-73)], vm := .none },
  { cls := 10, slots := #[.long (-72)], vm := .none },
  { cls := 10, slots := #[.long (-71)], vm := .none },
  { cls := 10, slots := #[.long (-70)], vm := .none },
  { cls := 10, slots := #[.long (-69)], vm := .none },
  { cls := 10, slots := #[.long (-68)], vm := .none },
  { cls := 10, slots := #[.long (-67)], vm := .none },
  { cls := 10, slots := #[.long (-66)], vm := .none },
  { cls := 10, slots := #[.long (-65)], vm := .none },
  { cls := 10, slots := #[.long (-64)], vm := .none },
  { cls := 10, slots := #[.long (-63)], vm := .none },
  { cls := 10, slots := #[.long (-62)], vm := .none },
  { cls := 10, slots := #[.long (-61)], vm := .none },
  { cls := 10, slots := #[.long (-60)], vm := .none },
  { cls := 10, slots := #[.long (-59)], vm := .none },
  { cls := 10, slots := #[.long (-58)], vm := .none },
  { cls := 10, slots := #[.long (-57)], vm := .none },
  { cls := 10, slots := #[.long (-56)], vm := .none },
  { cls := 10, slots := #[.long (-55)], vm := .none },
  { cls := 10, slots := #[.long (-54)], vm := .none },
  { cls := 10, slots := #[.long (-53)], vm := .none },
  { cls := 10, slots := #[.long (-52)], vm := .none },
  { cls := 10, slots := #[.long (-51)], vm := .none },
  { cls := 10, slots := #[.long (-50)], vm := .none },
  { cls := 10, slots := #[.long (-49)], vm := .none },
  { cls := 10, slots := #[.long (-48)], vm := .none },
  { cls := 10, slots := #[.long (-47)], vm := .none },
  { cls := 10, slots := #[.long (-46)], vm := .none },
  { cls := 10, slots := #[.long (-45)], vm := .none },
  { cls := 10, slots := #[.long (-44)], vm := .none },
  { cls := 10, slots := #[.long (-43)], vm := .none },
  { cls := 10, slots := #[.long (-42)], vm := .none },
  { cls := 10, slots := #[.long (-41)], vm := .none },
  { cls := 10, slots := #[.long (-40)], vm := .none },
  { cls := 10, slots := #[.long (-39)], vm := .none },
  { cls := 10, slots := #[.long (-38)], vm := .none },
  { cls := 10, slots := #[.long (-37)], vm := .none },
  { cls := 10, slots := #[.long (-36)], vm := .none },
  { cls := 10, slots := #[.long (-35)], vm := .none },
  { cls := 10, slots := #[.long (-34)], vm := .none },
  { cls := 10, slots := #[.long (-33)], vm := .none },
  { cls := 10, slots := #[.long (-32)], vm := .none },
  { cls := 10, slots := #[.long (-31)], vm := .none },
  { cls := 10, slots := #[.long (-30)], vm := .none },
  { cls := 10, slots := #[.long (-29)], vm := .none },
  { cls := 10, slots := #[.long (-28)], vm := .none },
  { cls := 10, slots := #[.long (-27)], vm := .none },
  { cls := 10, slots := #[.long (-26)], vm := .none },
  { cls := 10, slots := #[.long (-25)], vm := .none },
  { cls := 10, slots := #[.long (-24)], vm := .none },
  { cls := 10, slots := #[.long (-23)], vm := .none },
  { cls := 10, slots := #[.long (-22)], vm := .none },
  { cls := 10, slots := #[.long (-21)], vm := .none },
  { cls := 10, slots := #[.long (-20)], vm := .none },
  { cls := 10, slots := #[.long (-19)], vm := .none },
  { cls := 10, slots := #[.long (-18)], vm := .none },
  { cls := 10, slots := #[.long (-17)], vm := .none },
  { cls := 10, slots := #[.long (-16)], vm := .none },
  { cls := 10, slots := #[.long (-15)], vm := .none },
  { cls := 10, slots := #[.long (-14)], vm := .none },
  { cls := 10, slots := #[.long (-13)], vm := .none },
  { cls := 10, slots := #[.long (-12)], vm := .none },
  { cls := 10, slots := #[.long (-11)], vm := .none },
  { cls := 10, slots := #[.long (-10)], vm := .none },
  { cls := 10, slots := #[.long (-9)], vm := .none },
  { cls := 10, slots := #[.long (-8)], vm := .none },
  { cls := 10, slots := #[.long (-7)], vm := .none },
  { cls := 10, slots := #[.long (-6)], vm := .none },
  { cls := 10, slots := #[.long (-5)], vm := .none },
  { cls := 10, slots := #[.long (-4)], vm := .none },
  { cls := 10, slots := #[.long (-3)], vm := .none },
  { cls := 10, slots := #[.long (-2)], vm := .none },
  { cls := 10, slots := #[.long (-1)], vm := .none },
  { cls := 10, slots := #[.long 0], vm := .none },
  { cls := 10, slots := #[.long 1], vm := .none },
  { cls := 10, slots := #[.long 2], vm := .none },
  { cls := 10, slots := #[.long 3], vm := .none },
  { cls := 10, slots := #[.long 4], vm := .none },
  { cls := 10, slots := #[.long 5], vm := .none },
  { cls := 10, slots := #[.long 6], vm := .none },
  { cls := 10, slots := #[.long 7], vm := .none },
  { cls := 10, slots := #[.long 8], vm := .none },
  { cls := 10, slots := #[.long 9], vm := .none },
  { cls := 10, slots := #[.long 10], vm := .none },
  { cls := 10, slots := #[.long 11], vm := .none },
  { cls := 10, slots := #[.long 12], vm := .none },
  { cls := 10, slots := #[.long 13], vm := .none },
  { cls := 10, slots := #[.long 14], vm := .none },
  { cls := 10, slots := #[.long 15], vm := .none },
  { cls := 10, slots := #[.long 16], vm := .none },
  { cls := 10, slots := #[.long 17], vm := .none },
  { cls := 10, slots := #[.long 18], vm := .none },
  { cls := 10, slots := #[.long 19], vm := .none },
  { cls := 10, slots := #[.long 20], vm := .none },
  { cls := 10, slots := #[.long 21], vm := .none },
  { cls := 10, slots := #[.long 22], vm := .none },
  { cls := 10, slots := #[.long 23], vm := .none },
  { cls := 10, slots := #[.long 24], vm := .none },
  { cls := 10, slots := #[.long 25], vm := .none },
  { cls := 10, slots := #[.long 26], vm := .none },
  { cls := 10, slots := #[.long 27], vm := .none },
  { cls := 10, slots := #[.long 28], vm := .none },
  { cls := 10, slots := #[.long 29], vm := .none },
  { cls := 10, slots := #[.long 30], vm := .none },
  { cls := 10, slots := #[.long 31], vm := .none },
  { cls := 10, slots := #[.long 32], vm := .none },
  { cls := 10, slots := #[.long 33], vm := .none },
  { cls := 10, slots := #[.long 34], vm := .none },
  { cls := 10, slots := #[.long 35], vm := .none },
  { cls := 10, slots := #[.long 36], vm := .none },
  { cls := 10, slots := #[.long 37], vm := .none },
  { cls := 10, slots := #[.long 38], vm := .none },
  { cls := 10, slots := #[.long 39], vm := .none },
  { cls := 10, slots := #[.long 40], vm := .none },
  { cls := 10, slots := #[.long 41], vm := .none },
  { cls := 10, slots := #[.long 42], vm := .none },
  { cls := 10, slots := #[.long 43], vm := .none },
  { cls := 10, slots := #[.long 44], vm := .none },
  { cls := 10, slots := #[.long 45], vm := .none },
  { cls := 10, slots := #[.long 46], vm := .none },
  { cls := 10, slots := #[.long 47], vm := .none },
  { cls := 10, slots := #[.long 48], vm := .none },
  { cls := 10, slots := #[.long 49], vm := .none },
  { cls := 10, slots := #[.long 50], vm := .none },
  { cls := 10, slots := #[.long 51], vm := .none },
  { cls := 10, slots := #[.long 52], vm := .none },
  { cls := 10, slots := #[.long 53], vm := .none },
  { cls := 10, slots := #[.long 54], vm := .none },
  { cls := 10, slots := #[.long 55], vm := .none },
  { cls := 10, slots := #[.long 56], vm := .none },
  { cls := 10, slots := #[.long 57], vm := .none },
  { cls := 10, slots := #[.long 58], vm := .none },
  { cls := 10, slots := #[.long 59], vm := .none },
  { cls := 10, slots := #[.long 60], vm := .none },
  { cls := 10, slots := #[.long 61], vm := .none },
  { cls := 10, slots := #[.long 62], vm := .none },
  { cls := 10, slots := #[.long 63], vm := .none },
  { cls := 10, slots := #[.long 64], vm := .none },
  { cls := 10, slots := #[.long 65], vm := .none },
  { cls := 10, slots := #[.long 66], vm := .none },
  { cls := 10, slots := #[.long 67], vm := .none },
  { cls := 10, slots := #[.long 68], vm := .none },
  { cls := 10, slots := #[.long 69], vm := .none },
  { cls := 10, slots := #[.long 70], vm := .none },
  { cls := 10, slots := #[.long 71], vm := .none },
  { cls := 10, slots := #[.long 72], vm := .none },
  { cls := 10, slots := #[.long 73], vm := .none },
  { cls := 10, slots := #[.long 74], vm := .none },
  { cls := 10, slots := #[.long 75], vm := .none },
  { cls := 10, slots := #[.long 76], vm := .none },
  { cls := 10, slots := #[.long 77], vm := .none },
  { cls := 10, slots := #[.long 78], vm := .none },
  { cls := 10, slots := #[.long 79], vm := .none },
  { cls := 10, slots := #[.long 80], vm := .none },
  { cls := 10, slots := #[.long 81], vm := .none },
  { cls := 10, slots := #[.long 82], vm := .none },
  { cls := 10, slots := #[.long 83], vm := .none },
  { cls := 10, slots := #[.long 84], vm := .none },
  { cls := 10, slots := #[.long 85], vm := .none },
  { cls := 10, slots := #[.long 86], vm := .none },
  { cls := 10, slots := #[.long 87], vm := .none },
  { cls := 10, slots := #[.long 88], vm := .none },
  { cls := 10, slots := #[.long 89], vm := .none },
  { cls := 10, slots := #[.long 90], vm := .none },
  { cls := 10, slots := #[.long 91], vm := .none },
  { cls := 10, slots := #[.long 92], vm := .none },
  { cls := 10, slots := #[.long 93], vm := .none },
  { cls := 10, slots := #[.long 94], vm := .none },
  { cls := 10, slots := #[.long 95], vm := .none },
  { cls := 10, slots := #[.long 96], vm := .none },
  { cls := 10, slots := #[.long 97], vm := .none },
  { cls := 10, slots := #[.long 98], vm := .none },
  { cls := 10, slots := #[.long 99], vm := .none },
  { cls := 10, slots := #[.long 100], vm := .none },
  { cls := 10, slots := #[.long 101], vm := .none },
  { cls := 10, slots := #[.long 102], vm := .none },
  { cls := 10, slots := #[.long 103], vm := .none },
  { cls := 10, slots := #[.long 104], vm := .none },
  { cls := 10, slots := #[.long 105], vm := .none },
  { cls := 10, slots := #[.long 106], vm := .none },
  { cls := 10, slots := #[.long 107], vm := .none },
  { cls := 10, slots := #[.long 108], vm := .none },
  { cls := 10, slots := #[.long 109], vm := .none },
  { cls := 10, slots := #[.long 110], vm := .none },
  { cls := 10, slots := #[.long 111], vm := .none },
  { cls := 10, slots := #[.long 112], vm := .none },
  { cls := 10, slots := #[.long 113], vm := .none },
  { cls := 10, slots := #[.long 114], vm := .none },
  { cls := 10, slots := #[.long 115], vm := .none },
  { cls := 10, slots := #[.long 116], vm := .none },
  { cls := 10, slots := #[.long 117], vm := .none },
  { cls := 10, slots := #[.long 118], vm := .none },
  { cls := 10, slots := #[.long 119], vm := .none },
  { cls := 10, slots := #[.long 120], vm := .none },
  { cls := 10, slots := #[.long 121], vm := .none },
  { cls := 10, slots := #[.long 122], vm := .none },
  { cls := 10, slots := #[.long 123], vm := .none },
  { cls := 10, slots := #[.long 124], vm := .none },
  { cls := 10, slots := #[.long 125], vm := .none },
  { cls := 10, slots := #[.long 126], vm := .none },
  { cls := 10, slots := #[.long 127], vm := .none }]
def classes : Array Class := #[k0, k1, k2, k3, k4, k5, k6, k7, k8, k9, k10, k11, k12, k13, k14, k15, k16, k17, k18]
def interned : List (Array UInt16 × Addr) := []
def slotsUsed : Nat := 515
def theMethod : MethodId := ⟨1, 1⟩
def args0 : Array Value := #[.int 5, .int 6, .int 7, .int 8, .int 9]
def aboutOver (below : List Frame) : State where
  vm := { classes := classes, interned := interned.toArray }
  heap := heap
  slotsUsed := slotsUsed
  threads := #[{ frames := .invoking theMethod args0 :: below }]
def below0 : List Frame := [.native { method := ⟨0, 0⟩, args := #[] }]
def about1 : State := aboutOver below0
def p0 : Program := .bare "" "" ""
def e0 : Env := launch0.env 0 0 0
theorem w_frames : about1.frames = Frame.invoking theMethod args0 :: below0 := rfl
set_option maxRecDepth 65536 in
theorem w_args : argsFit about1.vm theMethod args0 = true := by decide +kernel
set_option maxRecDepth 65536 in
theorem w_heap : heapFits about1 = true := by decide +kernel
set_option maxRecDepth 65536 in
theorem w_runnable : about1.curStatus? = some .runnable := by decide +kernel
set_option maxRecDepth 65536 in
theorem w_alone : about1.alone = true := by decide +kernel
set_option maxRecDepth 65536 in
theorem w_named : about1.methodNamed? x = some theMethod := by decide +kernel
set_option maxRecDepth 65536 in
theorem w_hears : about1.hears theMethod below0 = true := by decide +kernel
set_option maxRecDepth 65536 in
theorem w_ripe : about1.ripe theMethod args0 below0 = true := by decide +kernel
theorem w_running : about1.status = .running := rfl
set_option maxRecDepth 65536 in
theorem w_room : about1.hasRoom e0.platform room_1 = true :=
  launch0.hasRoom_least _ room_1 (by decide +kernel) (by decide +kernel) (by decide +kernel) (by decide +kernel) (by decide +kernel) (by decide +kernel)
theorem allAtoms_all (ts : List Jvm.Cond) (a : Array Jvm.Value) (st : Jvm.State) : (allAtoms ts).before a st = ts.all (fun c => c.before a st) := by
  induction ts with
  | nil => rfl
  | cons c t ih =>
    show (Jvm.Cond.and c (allAtoms t)).before a st = _
    rw [Jvm.Cond.before_and, ih, List.all_cons]
def words1 : List Jvm.Cond := Jvm.Cond.code x code maxLocals ret :: tables_1
/-- a 'code' word, met by the world's own term for the bytes: nothing is compared byte by byte -/
theorem code_word {y : MethodName} {bytes : ByteArray} {mx : Nat} {rt : Option FieldType} {a : Array Value} {s : State} {m : MethodId} {meth : Method} {c : Code} (h1 : s.methodNamed? y = some m) (h2 : s.vm.method? m = some meth) (h3 : meth.code = some c) (h4 : c.code = bytes)
    (h5 : (c.maxLocals == mx && c.exceptionTable.isEmpty && decide (c.maxStack ≤ mostOperands) && decide (meth.sig.returnType = rt) && !meth.locks && decide (parseMethodDescriptor y.desc = some meth.sig)) = true) : (Jvm.Cond.code y bytes mx rt).before a s = true := by
  simp only [Bool.and_eq_true, beq_iff_eq, Bool.not_eq_true', decide_eq_true_eq] at h5
  obtain ⟨⟨⟨⟨⟨g1, g2⟩, g3⟩, g4⟩, g5⟩, g6⟩ := h5
  simp [Cond.before, Cond.holds, Cond.value, h1, h2, h3, h4, g1, g2, g3, g4, g5, g6]
def isCode : Jvm.Cond → Bool
  | .code _ _ _ _ => true
  | _ => false
theorem all_split {L : List Jvm.Cond} {P : Jvm.Cond → Bool} (h1 : L.all (fun c => isCode c || P c) = true) (h2 : ∀ c ∈ L.filter isCode, P c = true) : L.all P = true := by
  refine List.all_eq_true.mpr fun c hc => ?_
  have h := List.all_eq_true.mp h1 c hc
  rcases Bool.eq_false_or_eq_true (isCode c) with hi | hi
  · exact h2 c (List.mem_filter.mpr ⟨hc, hi⟩)
  · simpa [hi] using h
set_option maxRecDepth 65536 in
theorem w_c0 : (Jvm.Cond.code x code maxLocals ret).before args0 about1 = true := code_word (m := ⟨1, 1⟩) (meth := k1m1) (c := k1c1) (by decide +kernel) rfl rfl rfl (by decide +kernel)
set_option maxRecDepth 65536 in
theorem w_c1 : (Jvm.Cond.code ({ cls := "com/example/dead_letter_replay/deadletterreplay/queue/Carries", name := "<init>", desc := "()V" } : Jvm.MethodName) prog_11_method_1_code (1 : Nat) (Option.none : Option Jvm.ClassFile.FieldType)).before args0 about1 = true := code_word (m := ⟨2, 0⟩) (meth := k2m0) (c := k2c0) (by decide +kernel) rfl rfl rfl (by decide +kernel)
set_option maxRecDepth 65536 in
theorem w_c2 : (Jvm.Cond.code ({ cls := "java/lang/Object", name := "<init>", desc := "()V" } : Jvm.MethodName) object_method_1_code (1 : Nat) (Option.none : Option Jvm.ClassFile.FieldType)).before args0 about1 = true := code_word (m := ⟨0, 0⟩) (meth := k0m0) (c := k0c0) (by decide +kernel) rfl rfl rfl (by decide +kernel)
set_option maxRecDepth 65536 in
theorem w_c3 : (Jvm.Cond.code ({ cls := "com/example/dead_letter_replay/deadletterreplay/queue/Carries", name := "due", desc := "(I)Z" } : Jvm.MethodName) prog_11_method_2_code (2 : Nat) (Option.some Jvm.ClassFile.FieldType.boolean)).before args0 about1 = true := code_word (m := ⟨2, 1⟩) (meth := k2m1) (c := k2c1) (by decide +kernel) rfl rfl rfl (by decide +kernel)
set_option maxRecDepth 65536 in
theorem w_c4 : (Jvm.Cond.code ({ cls := "com/example/dead_letter_replay/deadletterreplay/queue/Carries", name := "counted", desc := "()V" } : Jvm.MethodName) prog_11_method_3_code (1 : Nat) (Option.none : Option Jvm.ClassFile.FieldType)).before args0 about1 = true := code_word (m := ⟨2, 2⟩) (meth := k2m2) (c := k2c2) (by decide +kernel) rfl rfl rfl (by decide +kernel)
set_option maxRecDepth 65536 in
theorem w_c5 : (Jvm.Cond.code ({ cls := "java/lang/Long", name := "valueOf", desc := "(J)Ljava/lang/Long;" } : Jvm.MethodName) jdk_35_method_24_code (3 : Nat) (Option.some (Jvm.ClassFile.FieldType.object "java/lang/Long"))).before args0 about1 = true := code_word (m := ⟨10, 0⟩) (meth := k10m0) (c := k10c0) (by decide +kernel) rfl rfl rfl (by decide +kernel)
set_option maxRecDepth 65536 in
theorem w_c6 : (Jvm.Cond.code ({ cls := "com/example/dead_letter_replay/deadletterreplay/queue/Carries$Carried", name := "<init>", desc := "(Ljava/lang/Long;JJI)V" } : Jvm.MethodName) prog_12_method_1_code (7 : Nat) (Option.none : Option Jvm.ClassFile.FieldType)).before args0 about1 = true := code_word (m := ⟨4, 0⟩) (meth := k4m0) (c := k4c0) (by decide +kernel) rfl rfl rfl (by decide +kernel)
set_option maxRecDepth 65536 in
theorem w_c7 : (Jvm.Cond.code ({ cls := "java/lang/Record", name := "<init>", desc := "()V" } : Jvm.MethodName) jdk_30_method_1_code (1 : Nat) (Option.none : Option Jvm.ClassFile.FieldType)).before args0 about1 = true := code_word (m := ⟨3, 0⟩) (meth := k3m0) (c := k3c0) (by decide +kernel) rfl rfl rfl (by decide +kernel)
set_option maxRecDepth 65536 in
theorem w_c8 : (Jvm.Cond.code ({ cls := "com/example/dead_letter_replay/deadletterreplay/queue/Carries", name := "carried", desc := "(Lcom/example/dead_letter_replay/deadletterreplay/queue/Carries$Carried;)V" } : Jvm.MethodName) prog_11_method_5_code (2 : Nat) (Option.none : Option Jvm.ClassFile.FieldType)).before args0 about1 = true := code_word (m := ⟨2, 3⟩) (meth := k2m3) (c := k2c3) (by decide +kernel) rfl rfl rfl (by decide +kernel)
set_option maxRecDepth 65536 in
theorem w_c9 : (Jvm.Cond.code ({ cls := "com/example/dead_letter_replay/deadletterreplay/queue/Carries", name := "leftIfUndone", desc := "(Lcom/example/dead_letter_replay/deadletterreplay/queue/Carries$Carried;)I" } : Jvm.MethodName) prog_11_method_6_code (4 : Nat) (Option.some Jvm.ClassFile.FieldType.int)).before args0 about1 = true := code_word (m := ⟨2, 4⟩) (meth := k2m4) (c := k2c4) (by decide +kernel) rfl rfl rfl (by decide +kernel)
set_option maxRecDepth 65536 in
theorem w_c10 : (Jvm.Cond.code ({ cls := "com/example/dead_letter_replay/deadletterreplay/queue/Carries$Carried", name := "from", desc := "()Ljava/lang/Long;" } : Jvm.MethodName) prog_12_method_5_code (1 : Nat) (Option.some (Jvm.ClassFile.FieldType.object "java/lang/Long"))).before args0 about1 = true := code_word (m := ⟨4, 1⟩) (meth := k4m1) (c := k4c1) (by decide +kernel) rfl rfl rfl (by decide +kernel)
set_option maxRecDepth 65536 in
theorem w_c11 : (Jvm.Cond.code ({ cls := "com/example/dead_letter_replay/deadletterreplay/queue/Carries", name := "countedBefore", desc := "(Lcom/example/dead_letter_replay/deadletterreplay/queue/Carries$Carried;)I" } : Jvm.MethodName) prog_11_method_7_code (2 : Nat) (Option.some Jvm.ClassFile.FieldType.int)).before args0 about1 = true := code_word (m := ⟨2, 5⟩) (meth := k2m5) (c := k2c5) (by decide +kernel) rfl rfl rfl (by decide +kernel)
set_option maxRecDepth 65536 in
theorem w_c12 : (Jvm.Cond.code ({ cls := "com/example/dead_letter_replay/deadletterreplay/queue/Carries$Carried", name := "era", desc := "()J" } : Jvm.MethodName) prog_12_method_6_code (1 : Nat) (Option.some Jvm.ClassFile.FieldType.long)).before args0 about1 = true := code_word (m := ⟨4, 2⟩) (meth := k4m2) (c := k4c2) (by decide +kernel) rfl rfl rfl (by decide +kernel)
set_option maxRecDepth 65536 in
theorem w_c13 : (Jvm.Cond.code ({ cls := "java/lang/Long", name := "longValue", desc := "()J" } : Jvm.MethodName) jdk_35_method_31_code (1 : Nat) (Option.some Jvm.ClassFile.FieldType.long)).before args0 about1 = true := code_word (m := ⟨10, 2⟩) (meth := k10m2) (c := k10c2) (by decide +kernel) rfl rfl rfl (by decide +kernel)
set_option maxRecDepth 65536 in
theorem w_c14 : (Jvm.Cond.code ({ cls := "java/lang/Math", name := "min", desc := "(JJ)J" } : Jvm.MethodName) jdk_29_method_70_code (4 : Nat) (Option.some Jvm.ClassFile.FieldType.long)).before args0 about1 = true := code_word (m := ⟨12, 2⟩) (meth := k12m2) (c := k12c2) (by decide +kernel) rfl rfl rfl (by decide +kernel)
set_option maxRecDepth 65536 in
theorem w_c15 : (Jvm.Cond.code ({ cls := "java/lang/Math", name := "max", desc := "(II)I" } : Jvm.MethodName) jdk_29_method_65_code (2 : Nat) (Option.some Jvm.ClassFile.FieldType.int)).before args0 about1 = true := code_word (m := ⟨12, 1⟩) (meth := k12m1) (c := k12c1) (by decide +kernel) rfl rfl rfl (by decide +kernel)
set_option maxRecDepth 65536 in
theorem w_c16 : (Jvm.Cond.code ({ cls := "java/lang/Long", name := "<init>", desc := "(J)V" } : Jvm.MethodName) jdk_35_method_26_code (3 : Nat) (Option.none : Option Jvm.ClassFile.FieldType)).before args0 about1 = true := code_word (m := ⟨10, 1⟩) (meth := k10m1) (c := k10c1) (by decide +kernel) rfl rfl rfl (by decide +kernel)
set_option maxRecDepth 65536 in
theorem w_c17 : (Jvm.Cond.code ({ cls := "java/lang/Number", name := "<init>", desc := "()V" } : Jvm.MethodName) jdk_18_method_1_code (1 : Nat) (Option.none : Option Jvm.ClassFile.FieldType)).before args0 about1 = true := code_word (m := ⟨6, 0⟩) (meth := k6m0) (c := k6c0) (by decide +kernel) rfl rfl rfl (by decide +kernel)
def codes1 : List Jvm.Cond := [Jvm.Cond.code x code maxLocals ret, Jvm.Cond.code ({ cls := "com/example/dead_letter_replay/deadletterreplay/queue/Carries", name := "<init>", desc := "()V" } : Jvm.MethodName) prog_11_method_1_code (1 : Nat) (Option.none : Option Jvm.ClassFile.FieldType), Jvm.Cond.code ({ cls := "java/lang/Object", name := "<init>", desc := "()V" } : Jvm.MethodName) object_method_1_code (1 : Nat) (Option.none : Option Jvm.ClassFile.FieldType), Jvm.Cond.code ({ cls := "com/example/dead_letter_replay/deadletterreplay/queue/Carries", name := "due", desc := "(I)Z" } : Jvm.MethodName) prog_11_method_2_code (2 : Nat) (Option.some Jvm.ClassFile.FieldType.boolean), Jvm.Cond.code ({ cls := "com/example/dead_letter_replay/deadletterreplay/queue/Carries", name := "counted", desc := "()V" } : Jvm.MethodName) prog_11_method_3_code (1 : Nat) (Option.none : Option Jvm.ClassFile.FieldType), Jvm.Cond.code ({ cls := "java/lang/Long", name := "valueOf", desc := "(J)Ljava/lang/Long;" } : Jvm.MethodName) jdk_35_method_24_code (3 : Nat) (Option.some (Jvm.ClassFile.FieldType.object "java/lang/Long")), Jvm.Cond.code ({ cls := "com/example/dead_letter_replay/deadletterreplay/queue/Carries$Carried", name := "<init>", desc := "(Ljava/lang/Long;JJI)V" } : Jvm.MethodName) prog_12_method_1_code (7 : Nat) (Option.none : Option Jvm.ClassFile.FieldType), Jvm.Cond.code ({ cls := "java/lang/Record", name := "<init>", desc := "()V" } : Jvm.MethodName) jdk_30_method_1_code (1 : Nat) (Option.none : Option Jvm.ClassFile.FieldType), Jvm.Cond.code ({ cls := "com/example/dead_letter_replay/deadletterreplay/queue/Carries", name := "carried", desc := "(Lcom/example/dead_letter_replay/deadletterreplay/queue/Carries$Carried;)V" } : Jvm.MethodName) prog_11_method_5_code (2 : Nat) (Option.none : Option Jvm.ClassFile.FieldType), Jvm.Cond.code ({ cls := "com/example/dead_letter_replay/deadletterreplay/queue/Carries", name := "leftIfUndone", desc := "(Lcom/example/dead_letter_replay/deadletterreplay/queue/Carries$Carried;)I" } : Jvm.MethodName) prog_11_method_6_code (4 : Nat) (Option.some Jvm.ClassFile.FieldType.int), Jvm.Cond.code ({ cls := "com/example/dead_letter_replay/deadletterreplay/queue/Carries$Carried", name := "from", desc := "()Ljava/lang/Long;" } : Jvm.MethodName) prog_12_method_5_code (1 : Nat) (Option.some (Jvm.ClassFile.FieldType.object "java/lang/Long")), Jvm.Cond.code ({ cls := "com/example/dead_letter_replay/deadletterreplay/queue/Carries", name := "countedBefore", desc := "(Lcom/example/dead_letter_replay/deadletterreplay/queue/Carries$Carried;)I" } : Jvm.MethodName) prog_11_method_7_code (2 : Nat) (Option.some Jvm.ClassFile.FieldType.int), Jvm.Cond.code ({ cls := "com/example/dead_letter_replay/deadletterreplay/queue/Carries$Carried", name := "era", desc := "()J" } : Jvm.MethodName) prog_12_method_6_code (1 : Nat) (Option.some Jvm.ClassFile.FieldType.long), Jvm.Cond.code ({ cls := "java/lang/Long", name := "longValue", desc := "()J" } : Jvm.MethodName) jdk_35_method_31_code (1 : Nat) (Option.some Jvm.ClassFile.FieldType.long), Jvm.Cond.code ({ cls := "java/lang/Math", name := "min", desc := "(JJ)J" } : Jvm.MethodName) jdk_29_method_70_code (4 : Nat) (Option.some Jvm.ClassFile.FieldType.long), Jvm.Cond.code ({ cls := "java/lang/Math", name := "max", desc := "(II)I" } : Jvm.MethodName) jdk_29_method_65_code (2 : Nat) (Option.some Jvm.ClassFile.FieldType.int), Jvm.Cond.code ({ cls := "java/lang/Long", name := "<init>", desc := "(J)V" } : Jvm.MethodName) jdk_35_method_26_code (3 : Nat) (Option.none : Option Jvm.ClassFile.FieldType), Jvm.Cond.code ({ cls := "java/lang/Number", name := "<init>", desc := "()V" } : Jvm.MethodName) jdk_18_method_1_code (1 : Nat) (Option.none : Option Jvm.ClassFile.FieldType)]
set_option maxRecDepth 65536 in
theorem codes_eq : words1.filter isCode = codes1 := rfl
theorem w_codes : ∀ c ∈ words1.filter isCode, c.before args0 about1 = true := by
  rw [codes_eq]
  intro c hc
  simp only [codes1, List.mem_cons, List.not_mem_nil, or_false] at hc
  rcases hc with rfl | rfl | rfl | rfl | rfl | rfl | rfl | rfl | rfl | rfl | rfl | rfl | rfl | rfl | rfl | rfl | rfl | rfl
  · exact w_c0
  · exact w_c1
  · exact w_c2
  · exact w_c3
  · exact w_c4
  · exact w_c5
  · exact w_c6
  · exact w_c7
  · exact w_c8
  · exact w_c9
  · exact w_c10
  · exact w_c11
  · exact w_c12
  · exact w_c13
  · exact w_c14
  · exact w_c15
  · exact w_c16
  · exact w_c17
set_option maxRecDepth 65536 in
theorem w_t1 : (words1.take 24).all (fun c => isCode c || c.before args0 about1) = true := by decide +kernel
set_option maxRecDepth 65536 in
theorem w_t2 : ((words1.drop 24).take 24).all (fun c => isCode c || c.before args0 about1) = true := by decide +kernel
set_option maxRecDepth 65536 in
theorem w_t3 : (((words1.drop 24).drop 24).take 24).all (fun c => isCode c || c.before args0 about1) = true := by decide +kernel
set_option maxRecDepth 65536 in
theorem w_t4 : ((((words1.drop 24).drop 24).drop 24).take 24).all (fun c => isCode c || c.before args0 about1) = true := by decide +kernel
set_option maxRecDepth 65536 in
theorem w_t5 : ((((words1.drop 24).drop 24).drop 24).drop 24).all (fun c => isCode c || c.before args0 about1) = true := by decide +kernel
theorem w_tables : (allAtoms (Jvm.Cond.code x code maxLocals ret :: tables_1)).before args0 about1 = true := by
  rw [allAtoms_all]
  show words1.all (fun c => c.before args0 about1) = true
  refine all_split ?_ w_codes
  rw [← List.take_append_drop 24 words1, List.all_append, w_t1, ← List.take_append_drop 24 (words1.drop 24), List.all_append, w_t2, ← List.take_append_drop 24 ((words1.drop 24).drop 24), List.all_append, w_t3, ← List.take_append_drop 24 (((words1.drop 24).drop 24).drop 24), List.all_append, w_t4, w_t5]
  rfl
set_option maxRecDepth 65536 in
theorem w_rest : rest_1_c.before args0 about1 = true := by decide +kernel
set_option maxRecDepth 65536 in
theorem w_case : (Jvm.Cond.and given_1 narrow_1).before args0 about1 = true := by decide +kernel
theorem w_applies : (headSpec (Jvm.Cond.code x code maxLocals ret :: tables_1) room_1).applies x e0.platform about1 = true :=
  (Spec.applies_iff w_frames).mpr ⟨w_running, w_runnable, w_alone, w_named, w_hears, w_ripe, w_room, w_tables⟩
theorem atStart : AtStart classFile x code maxLocals ret World_1 tables_1 room_1 Calls_1 rest_1 Pre_1 launch0 p0 e0 about1 theMethod args0 below0 :=
  ⟨lists_1, trivial, launch0.admits_env _ _ _, launch0.least_env, fairChoices_fair.cas, fairChoices_fair.clock, w_frames, w_args, w_heap, w_applies, trivial, w_rest, w_case⟩
end start1
theorem witness_1 : WitnessClaimed_1 := ⟨start1.p0, start1.e0, start1.about1, start1.theMethod, start1.args0, start1.below0, start1.atStart⟩
end Jvm.Pilot.@@N@@
