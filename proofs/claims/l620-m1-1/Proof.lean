import JvmDerived
import JvmDerived.Pilot.@@N@@Statement
import JvmDerived.Pilot.@@N@@Code
set_option linter.unusedVariables false
set_option linter.unusedSimpArgs false
namespace Jvm.Pilot.@@N@@
open Jvm Jvm.ClassFile Sem Op Lib Jvm.Free Jvm.Stand Jvm.LawKit Jvm.RoadKit Bundle Jvm.Pilot.@@N@@.Jvm.D
/-! own_: the walk's goal in one piece (from this state on the body returns, and what it leaves says Q), its steps, its ends, its calls -/
section OwnKit
variable {p : Program} {l : Launch} {e : Env} {R : Room} {s : State} {m : MethodId} {args : Array Value} {below : List Frame} {meth : Method} {c : Code} {T : State} {locs : List Loc} {cells slots : Nat} {Z : State} {a0 : Array Value} {h : Heap}
def own_Fin (p : Program) (e : Env) (below : List Frame) (s : State) (Q : Option Value → Heap → List Loc → Prop) (k n : Nat) (U : State) : Prop :=
  ∃ (s₂ : State) (o : Outcome), Steps p.tables e below U s₂ ∧ s₂.status = .running ∧ Ended s₂ below o ∧ ∃ v L, o = .returned v ∧ Q v s₂.heap L ∧ FrameEnd s o s₂ L k n
variable {Q : Option Value → Heap → List Loc → Prop} {k n : Nat}
theorem own_go {U U' : State} (st : ∀ t, Steps p.tables e below U' t → Steps p.tables e below U t) (F : own_Fin p e below s Q k n U') : own_Fin p e below s Q k n U := by
  obtain ⟨s2, o, h1, h2⟩ := F
  exact ⟨s2, o, st _ h1, h2⟩
theorem own_ret (X : Stand p l e R s m args below meth c T locs cells slots) (hx : p.tables.exec = Jvm.exec) {t : FieldType} (hret : meth.sig.returnType = some t) (hlk : meth.locks = false) {pc : Nat} {Ls : Array Slot} {w : Value} {i : Instr} {rest : List Value} (hn : narrow t w = w)
    (hi : (i = .ireturn ∧ (t = .int ∨ t = .boolean ∨ t = .byte ∨ t = .char ∨ t = .short) ∧ ∃ z, w = .int z) ∨ (i = .lreturn ∧ t = .long ∧ ∃ z, w = .long z) ∨ (i = .dreturn ∧ t = .double ∧ ∃ z, w = .double z) ∨ (i = .freturn ∧ t = .float ∧ ∃ z, w = .float z) ∨ (i = .areturn ∧ t.isReference = true ∧ w.isRef = true))
    (hd : decode c.code pc = .ok (i, 1)) (hQ : Q (some w) T.heap locs) (hc : cells ≤ k) (hs : slots ≤ n) : own_Fin p e below s Q k n (T.setTop (mkF m pc Ls (w :: rest))) := by
  obtain ⟨fs, hr, hrun, hended, hW, hsame⟩ := X.leave (v := some w) (fun h => by rw [hret] at h; cases h) hlk
  exact ⟨_, _, retOut X hx hret hn hi hd hr, hrun, hended, _, _, rfl, hQ, ⟨_, rfl⟩, hW, hsame.mono hc hs⟩
theorem own_retI (X : Stand p l e R s m args below meth c T locs cells slots) (hx : p.tables.exec = Jvm.exec) (hret : meth.sig.returnType = some .int) (hlk : meth.locks = false) {pc : Nat} {Ls : Array Slot} {z : Int32} {rest : List Value}
    (hd : decode c.code pc = .ok (.ireturn, 1)) (hQ : Q (some (.int z)) T.heap locs) (hc : cells ≤ k) (hs : slots ≤ n) : own_Fin p e below s Q k n (T.setTop (mkF m pc Ls (.int z :: rest))) :=
  own_ret X hx hret hlk rfl (Or.inl ⟨rfl, Or.inl rfl, z, rfl⟩) hd hQ hc hs
theorem own_retN (X : Stand p l e R s m args below meth c T locs cells slots) (hx : p.tables.exec = Jvm.exec) {t : FieldType} (hret : meth.sig.returnType = some t) (ht : t = .boolean ∨ t = .byte ∨ t = .char ∨ t = .short) (hlk : meth.locks = false) {pc : Nat} {Ls : Array Slot} {z : Int32} {rest : List Value}
    (hd : decode c.code pc = .ok (.ireturn, 1)) (hQ : Q (some (.int (nar t z))) T.heap locs) (hc : cells ≤ k) (hs : slots ≤ n) : own_Fin p e below s Q k n (T.setTop (mkF m pc Ls (.int z :: rest))) := by
  obtain ⟨fs, hr, hrun, hended, hW, hsame⟩ := X.leave (v := some (.int (nar t z))) (fun h => by rw [hret] at h; cases h) hlk
  exact ⟨_, _, retN X hx hret ht hd hr, hrun, hended, _, _, rfl, hQ, ⟨_, rfl⟩, hW, hsame.mono hc hs⟩
theorem own_retL (X : Stand p l e R s m args below meth c T locs cells slots) (hx : p.tables.exec = Jvm.exec) (hret : meth.sig.returnType = some .long) (hlk : meth.locks = false) {pc : Nat} {Ls : Array Slot} {z : Int64} {rest : List Value}
    (hd : decode c.code pc = .ok (.lreturn, 1)) (hQ : Q (some (.long z)) T.heap locs) (hc : cells ≤ k) (hs : slots ≤ n) : own_Fin p e below s Q k n (T.setTop (mkF m pc Ls (.long z :: rest))) :=
  own_ret X hx hret hlk rfl (Or.inr (Or.inl ⟨rfl, rfl, z, rfl⟩)) hd hQ hc hs
theorem own_retA (X : Stand p l e R s m args below meth c T locs cells slots) (hx : p.tables.exec = Jvm.exec) {t : FieldType} (hret : meth.sig.returnType = some t) (ht : t.isReference = true) (hlk : meth.locks = false) {pc : Nat} {Ls : Array Slot} {w : Value} {rest : List Value} (hw : w.isRef = true)
    (hd : decode c.code pc = .ok (.areturn, 1)) (hQ : Q (some w) T.heap locs) (hc : cells ≤ k) (hs : slots ≤ n) : own_Fin p e below s Q k n (T.setTop (mkF m pc Ls (w :: rest))) :=
  own_ret X hx hret hlk (by rcases ref_cases hw with rfl | ⟨z, rfl⟩ <;> cases t <;> rfl) (Or.inr (Or.inr (Or.inr (Or.inr ⟨rfl, ht, hw⟩)))) hd hQ hc hs
theorem own_retV (X : Stand p l e R s m args below meth c T locs cells slots) (hx : p.tables.exec = Jvm.exec) (hret : meth.sig.returnType = none) (hlk : meth.locks = false) {pc : Nat} {Ls : Array Slot}
    (hd : decode c.code pc = .ok (.return_, 1)) (hQ : Q none T.heap locs) (hc : cells ≤ k) (hs : slots ≤ n) : own_Fin p e below s Q k n (T.setTop (mkF m pc Ls [])) := by
  obtain ⟨fs, hr, hrun, hended, hW, hsame⟩ := X.leave (v := none) (fun _ => rfl) hlk
  exact ⟨_, _, X.returnOut hx hret hd hr, hrun, hended, _, _, rfl, hQ, ⟨_, rfl⟩, hW, hsame.mono hc hs⟩
/-- a body's contract: called with these arguments at this heap it returns, and what it leaves says Q -/
abbrev own_C (l : Launch) (Z : State) (y : MethodName) (bytes : ByteArray) (maxL : Nat) (ret : Option FieldType) (ws : List Jvm.Cond) (rm : Room) (as' : Array Value) (h0 : Heap) (Q : Option Value → Heap → List Loc → Prop) : Prop :=
  MetFree l y (head1 (Jvm.Cond.code y bytes maxL ret :: ws) rm) (fun a U => a = as' ∧ Z.Warmed39 U.vm ∧ U.heap = h0) (fun _ _ _ _ _ => True) (fun _ U o U' => ∃ v L, o = .returned v ∧ Q v U'.heap L ∧ FrameEnd U o U' L rm.cells rm.slots)
theorem own_body {y : MethodName} {bytes : ByteArray} {maxL : Nat} {ret : Option FieldType} {ws : List Jvm.Cond} {rm : Room} {as' : Array Value} {h0 : Heap} (hpn : plainFor y = true)
    (body : ∀ (p : Program) (e : Env) (s : State) (m : MethodId) (below : List Frame) (meth : Method) (c : Code) (s₁ : State), p.tables.exec = Jvm.exec → c.code = bytes → c.maxLocals = maxL → meth.sig.returnType = ret → meth.locks = false → s.vm.findClass y.cls = some m.cls → meth.name = y.name → Z.Warmed39 s.vm →
      Stand p l e rm s m as' below meth c s₁ [] 0 0 → s₁.heap = h0 → own_Fin p e below s Q rm.cells rm.slots (s₁.setTop (entryFrame m as' maxL))) : own_C l Z y bytes maxL ret ws rm as' h0 Q := by
  refine MetFree.of_bodySF hpn hisR ?_
  intro p e s m args below meth c s₁ Bd hml0 hP hK
  obtain ⟨rfl, hZ, hh⟩ := hP
  exact body p e s m below meth c s₁ Bd.exec Bd.bytes hml0 Bd.returns Bd.notSynchronized (findClass_of_methodNamed Bd.named) (name_of_methodNamed Bd.named Bd.method).1 hZ (Stand.of_body Bd) (by rw [← hh, Bd.state]; rfl)
theorem own_callS (X : Stand p l e R s m args below meth c T locs cells slots) (hx : p.tables.exec = Jvm.exec) (hZ : Z.Warmed39 s.vm) {own : String} {index : Nat} {y : MethodName} {bytes : ByteArray} {maxL : Nat} {ret : Option FieldType} (hown : s.vm.findClass own = some m.cls)
    (w1 : (Cond.methodLink own index y).before a0 Z = true) (w2 : (Cond.static y).before a0 Z = true) (w3 : (Cond.initialized y.cls).before a0 Z = true) (w4 : (Cond.code y bytes maxL ret).before a0 Z = true) (hy : y.cls ≠ "java/lang/invoke/MethodHandle" ∧ y.cls ≠ "java/lang/invoke/VarHandle")
    {rm : Room} {argsL rest : List Value} {as' : Array Value} (hM : own_C l Z y bytes maxL ret [] rm as' h Q) {W : Nat} (hf : rm.frames + 1 ≤ R.frames) (hl : W + (maxL + 11) + rm.locals ≤ R.locals) {g : JFrame} (hg : g.method = m) (hsize : g.locals.size = c.maxLocals)
    (hlen : ∀ sig, parseMethodDescriptor y.desc = some sig → argsL.length = sig.parameters.length) (hstack : g.stack = argsL.reverse ++ rest) (has : argsL.toArray = as') (hW : 2 * g.monitorRoom + (rest.map fun v => v.category).sum ≤ W) (hdg : decode c.code g.pc = .ok (.invokestatic index, 3)) (eT : T.heap = h)
    (hc : cells + rm.cells ≤ R.cells) (hs : slots + rm.slots ≤ R.slots) :
    ∃ (v : Option Value) (T' : State) (h' : Heap) (L : List Loc), T'.heap = h' ∧ Stand p l e R s m args below meth c T' (locs ++ L) (cells + rm.cells) (slots + rm.slots) ∧ Q v h' L ∧ ∀ target, Steps p.tables e below (T'.setTop { g with pc := g.pc + 3, stack := v.toList ++ rest }) target → Steps p.tables e below (T.setTop g) target := by
  obtain ⟨v, vm, ⟨T', L', k', n'⟩, -, X', ⟨Lc, hQ, l1, y1, z1⟩, st⟩ := Jvm.LawKit.callS X hx (y := y) hown (mvT hZ w1) (mvT hZ w2) (mvT hZ w3) (mvT hZ w4) hy (backOf (W := W) hM hZ w4 w3 hf hl) hg hsize hlen hstack hW hdg (fun _ _ => ⟨has, eT, hc, hs⟩)
  dsimp only [Pt.U, Pt.locs, Pt.cells, Pt.slots] at X' l1 y1 z1 st hQ
  subst l1 y1 z1
  exact ⟨v, T', _, Lc, rfl, X', hQ, st⟩
theorem own_callC (X : Stand p l e R s m args below meth c T locs cells slots) (hx : p.tables.exec = Jvm.exec) (hZ : Z.Warmed39 s.vm) {own : String} {index : Nat} {y : MethodName} {bytes : ByteArray} {maxL : Nat} (hy1 : y.name = "<init>") (hown : s.vm.findClass own = some m.cls)
    (w1 : (Cond.methodLink own index y).before a0 Z = true) (w2 : (Cond.instanceMethod y).before a0 Z = true) (w3 : (Cond.initialized y.cls).before a0 Z = true) (w4 : (Cond.code y bytes maxL none).before a0 Z = true) (hy : y.cls ≠ "java/lang/invoke/MethodHandle" ∧ y.cls ≠ "java/lang/invoke/VarHandle")
    {rm : Room} {a : Addr} {argsL rest : List Value} {as' : Array Value} (hM : own_C l Z y bytes maxL none [] rm as' h Q) {W : Nat} (hf : rm.frames + 1 ≤ R.frames) (hl : W + (maxL + 11) + rm.locals ≤ R.locals) {g : JFrame} (hg : g.method = m) (hsize : g.locals.size = c.maxLocals)
    (hlen : ∀ sig, parseMethodDescriptor y.desc = some sig → argsL.length = sig.parameters.length) (hstack : g.stack = argsL.reverse ++ .ref a :: rest) (has : (.ref a :: argsL).toArray = as') (hW : 2 * g.monitorRoom + (rest.map fun v => v.category).sum ≤ W) (hdg : decode c.code g.pc = .ok (.invokespecial index, 3)) (eT : T.heap = h)
    (hc : cells + rm.cells ≤ R.cells) (hs : slots + rm.slots ≤ R.slots) :
    ∃ (v : Option Value) (T' : State) (h' : Heap) (L : List Loc), T'.heap = h' ∧ Stand p l e R s m args below meth c T' (locs ++ L) (cells + rm.cells) (slots + rm.slots) ∧ Q v h' L ∧ ∀ target, Steps p.tables e below (T'.setTop { g with pc := g.pc + 3, stack := v.toList ++ rest }) target → Steps p.tables e below (T.setTop g) target := by
  obtain ⟨v, vm, ⟨T', L', k', n'⟩, -, X', ⟨Lc, hQ, l1, y1, z1⟩, st⟩ := X.specialBack hx (y := y) hy1 hown (mvT hZ w1) (mvT hZ w2) (mvT hZ w4) hy (backOf (W := W) hM hZ w4 w3 hf hl) hg hsize (Steps.refl _) hlen hstack hW hdg (fun _ _ => ⟨has, eT, hc, hs⟩)
  dsimp only [Pt.U, Pt.locs, Pt.cells, Pt.slots] at X' l1 y1 z1 st hQ
  subst l1 y1 z1
  exact ⟨v, T', _, Lc, rfl, X', hQ, fun _ k => st.trans k⟩
theorem own_callV (X : Stand p l e R s m args below meth c T locs cells slots) (hx : p.tables.exec = Jvm.exec) (hZ : Z.Warmed39 s.vm) {own C : String} {index : Nat} {y z : MethodName} {bytes : ByteArray} {maxL : Nat} {ret : Option FieldType} (hown : s.vm.findClass own = some m.cls)
    (w1 : (Cond.methodLink own index y).before a0 Z = true) (w2 : (Cond.declares y).before a0 Z = true) (hnf : NotFace s y) (w5 : (Cond.selects C y z).before a0 Z = true) (w6 : (Cond.instanceMethod z).before a0 Z = true) (w3 : (Cond.initialized z.cls).before a0 Z = true) (w4 : (Cond.code z bytes maxL ret).before a0 Z = true) (hy : y.cls ≠ "java/lang/invoke/MethodHandle" ∧ y.cls ≠ "java/lang/invoke/VarHandle")
    {rm : Room} {a : Addr} (E : Exa Z h a C) {argsL rest : List Value} {as' : Array Value} (hM : own_C l Z z bytes maxL ret [] rm as' h Q) {W : Nat} (hf : rm.frames + 1 ≤ R.frames) (hl : W + (maxL + 11) + rm.locals ≤ R.locals) {g : JFrame} (hg : g.method = m) (hsize : g.locals.size = c.maxLocals)
    (hlen : ∀ sig, parseMethodDescriptor y.desc = some sig → argsL.length = sig.parameters.length) (hstack : g.stack = argsL.reverse ++ .ref a :: rest) (has : (.ref a :: argsL).toArray = as') (hW : 2 * g.monitorRoom + (rest.map fun v => v.category).sum ≤ W) (hdg : decode c.code g.pc = .ok (.invokevirtual index, 3)) (eT : T.heap = h)
    (hc : cells + rm.cells ≤ R.cells) (hs : slots + rm.slots ≤ R.slots) :
    ∃ (v : Option Value) (T' : State) (h' : Heap) (L : List Loc), T'.heap = h' ∧ Stand p l e R s m args below meth c T' (locs ++ L) (cells + rm.cells) (slots + rm.slots) ∧ Q v h' L ∧ ∀ target, Steps p.tables e below (T'.setTop { g with pc := g.pc + 3, stack := v.toList ++ rest }) target → Steps p.tables e below (T.setTop g) target := by
  obtain ⟨cq, kq, qa, qb, qc⟩ := isOf hZ eT E
  obtain ⟨v, vm, ⟨T', L', k', n'⟩, -, X', ⟨Lc, hQ, l1, y1, z1⟩, st⟩ := X.virtualBack hx (y := y) (z := z) hown (mvT hZ w1) (mvT hZ w2) hnf (mvT hZ w5) (mvT hZ w6) hy (backOf (W := W) hM hZ w4 w3 hf hl) qa qc hg hsize (Steps.refl _) hlen hstack hW hdg (fun _ _ => ⟨has, eT, hc, hs⟩)
  dsimp only [Pt.U, Pt.locs, Pt.cells, Pt.slots] at X' l1 y1 z1 st hQ
  subst l1 y1 z1
  exact ⟨v, T', _, Lc, rfl, X', hQ, fun _ k => st.trans k⟩
theorem own_callI (X : Stand p l e R s m args below meth c T locs cells slots) (hx : p.tables.exec = Jvm.exec) (hZ : Z.Warmed39 s.vm) {own C : String} {index count : Nat} {y z : MethodName} {bytes : ByteArray} {maxL : Nat} {ret : Option FieldType} (hown : s.vm.findClass own = some m.cls)
    (w1 : (Cond.methodLink own index y).before a0 Z = true) (w2 : (Cond.declares y).before a0 Z = true) (w7 : (Cond.interfaceMethod y.cls y.cls y.name y.desc).before args s = true) (w5 : (Cond.selects C y z).before a0 Z = true) (w6 : (Cond.instanceMethod z).before a0 Z = true) (w8 : (Cond.publicMethod z).before a0 Z = true)
    (w9 : (Cond.unhidden C y.name y.desc).before a0 Z = true) (w10 : (Cond.castable C y.cls).before a0 Z = true) (w3 : (Cond.initialized z.cls).before a0 Z = true) (w4 : (Cond.code z bytes maxL ret).before a0 Z = true) (hy : y.cls ≠ "java/lang/invoke/MethodHandle" ∧ y.cls ≠ "java/lang/invoke/VarHandle")
    {rm : Room} {a : Addr} (E : Exa Z h a C) {argsL rest : List Value} {as' : Array Value} (hM : own_C l Z z bytes maxL ret [] rm as' h Q) {W : Nat} (hf : rm.frames + 1 ≤ R.frames) (hl : W + (maxL + 11) + rm.locals ≤ R.locals) {g : JFrame} (hg : g.method = m) (hsize : g.locals.size = c.maxLocals)
    (hlen : ∀ sig, parseMethodDescriptor y.desc = some sig → argsL.length = sig.parameters.length) (hstack : g.stack = argsL.reverse ++ .ref a :: rest) (has : (.ref a :: argsL).toArray = as') (hW : 2 * g.monitorRoom + (rest.map fun v => v.category).sum ≤ W) (hdg : decode c.code g.pc = .ok (.invokeinterface index count, 5)) (eT : T.heap = h)
    (hc : cells + rm.cells ≤ R.cells) (hs : slots + rm.slots ≤ R.slots) :
    ∃ (v : Option Value) (T' : State) (h' : Heap) (L : List Loc), T'.heap = h' ∧ Stand p l e R s m args below meth c T' (locs ++ L) (cells + rm.cells) (slots + rm.slots) ∧ Q v h' L ∧ ∀ target, Steps p.tables e below (T'.setTop { g with pc := g.pc + 5, stack := v.toList ++ rest }) target → Steps p.tables e below (T.setTop g) target := by
  obtain ⟨cq, kq, qa, qb, qc⟩ := isOf hZ eT E
  obtain ⟨v, vm, ⟨T', L', k', n'⟩, -, X', ⟨Lc, hQ, l1, y1, z1⟩, st⟩ := X.interfaceBack hx (xi := y) (y := z) hown (mvT hZ w1) (mvT hZ w2) w7 (mvT hZ w5) (mvT hZ w6) (mvT hZ w8) (mvT hZ w9) (mvT hZ w10) hy (backOf (W := W) hM hZ w4 w3 hf hl) qa qb qc hg hsize (Steps.refl _) hlen hstack hW hdg (fun _ _ => ⟨has, eT, hc, hs⟩)
  dsimp only [Pt.U, Pt.locs, Pt.cells, Pt.slots] at X' l1 y1 z1 st hQ
  subst l1 y1 z1
  exact ⟨v, T', _, Lc, rfl, X', hQ, fun _ k => st.trans k⟩
theorem own_callP (X : Stand p l e R s m args below meth c T locs cells slots) (hx : p.tables.exec = Jvm.exec) (hZ : Z.Warmed39 s.vm) {own C : String} {index : Nat} {y : MethodName} {bytes : ByteArray} {maxL : Nat} {ret : Option FieldType} (hown : s.vm.findClass own = some m.cls)
    (w1 : (Cond.methodLink own index y).before a0 Z = true) (w6 : (Cond.instanceMethod y).before a0 Z = true) (w5 : (Cond.selects y.cls y y).before a0 Z = true) (w7 : (Cond.privateMethod y).before a0 Z = true) (w3 : (Cond.initialized y.cls).before a0 Z = true) (w4 : (Cond.code y bytes maxL ret).before a0 Z = true) (hy : y.cls ≠ "java/lang/invoke/MethodHandle" ∧ y.cls ≠ "java/lang/invoke/VarHandle")
    {rm : Room} {a : Addr} (E : Exa Z h a C) {argsL rest : List Value} {as' : Array Value} (hM : own_C l Z y bytes maxL ret [] rm as' h Q) {W : Nat} (hf : rm.frames + 1 ≤ R.frames) (hl : W + (maxL + 11) + rm.locals ≤ R.locals) {g : JFrame} (hg : g.method = m) (hsize : g.locals.size = c.maxLocals)
    (hlen : ∀ sig, parseMethodDescriptor y.desc = some sig → argsL.length = sig.parameters.length) (hstack : g.stack = argsL.reverse ++ .ref a :: rest) (has : (.ref a :: argsL).toArray = as') (hW : 2 * g.monitorRoom + (rest.map fun v => v.category).sum ≤ W) (hdg : decode c.code g.pc = .ok (.invokevirtual index, 3)) (eT : T.heap = h)
    (hc : cells + rm.cells ≤ R.cells) (hs : slots + rm.slots ≤ R.slots) :
    ∃ (v : Option Value) (T' : State) (h' : Heap) (L : List Loc), T'.heap = h' ∧ Stand p l e R s m args below meth c T' (locs ++ L) (cells + rm.cells) (slots + rm.slots) ∧ Q v h' L ∧ ∀ target, Steps p.tables e below (T'.setTop { g with pc := g.pc + 3, stack := v.toList ++ rest }) target → Steps p.tables e below (T.setTop g) target := by
  obtain ⟨cq, q, q'⟩ := E.cell
  obtain ⟨v, vm, ⟨T', L', k', n'⟩, -, X', ⟨Lc, hQ, l1, y1, z1⟩, st⟩ := X.privateBack hx (y := y) hown (mvT hZ w1) (mvT hZ w6) (mvT hZ w5) (Cond.privateMethod_at (mvP hZ w7 (args := #[]))) (mvT hZ w4) hy (backOf (W := W) hM hZ w4 w3 hf hl) hg hsize (Steps.refl _) (a := a) (by rw [eT]; exact q) q' hlen hstack hW hdg (fun _ _ => ⟨has, eT, hc, hs⟩)
  dsimp only [Pt.U, Pt.locs, Pt.cells, Pt.slots] at X' l1 y1 z1 st hQ
  subst l1 y1 z1
  exact ⟨v, T', _, Lc, rfl, X', hQ, fun _ k => st.trans k⟩
theorem own_lremM {g : JFrame} {target : State} (X : Stand p l e R s m args below meth c T locs cells slots) (hx : p.tables.exec = Jvm.exec) (hg : g.method = m) {x y : Int64} {rest : List Value} (hd : decode c.code g.pc = .ok (.lrem, 1)) (hs : g.stack = .long y :: .long x :: rest) (hy : y ≠ 0)
    (hr : Steps p.tables e below (T.setTop { g with pc := g.pc + 1, stack := .long (x % y) :: rest }) target) : Steps p.tables e below (T.setTop g) target :=
  XS.lrem X.here hx hg hd hs hy (by rw [lrem_mod]; exact hr)
theorem own_mono (X : Stand p l e R s m args below meth c T locs cells slots) {cells' slots' : Nat} (hc : cells ≤ cells') (hs : slots ≤ slots') : Stand p l e R s m args below meth c T locs cells' slots' :=
  ⟨X.admits, X.cas, X.clock, X.frames, X.room, X.hears, X.method, X.code, X.here, X.tail, X.warmed, X.limits, X.bytes, X.same.mono hc hs⟩
end OwnKit
/-! the plain law -/
abbrev own_sh (z : Int64) (k : Int32) : Int64 := ((z.toUInt64 >>> (k &&& 0x3f).toInt64.toUInt64).toInt64)
def own_nt (c x : Int64) : Int64 := x * ((2 : Int64) - (c * x))
def own_inv (c : Int64) : Int64 := own_nt c (own_nt c (own_nt c (own_nt c (own_nt c c))))
def own_c1 : Int64 := (-4658895280553007687 : Int64)
def own_c2 : Int64 := (-7723592293110705685 : Int64)
def own_mix (w : Int64) : Int64 :=
  let a := (w ^^^ own_sh w 30) * own_c1
  let b := (a ^^^ own_sh a 27) * own_c2
  b ^^^ own_sh b 31
def own_unmix (z : Int64) : Int64 :=
  let a := ((z ^^^ own_sh z 31) ^^^ own_sh z 62) * own_inv own_c2
  let b := ((a ^^^ own_sh a 27) ^^^ own_sh a 54) * own_inv own_c1
  (b ^^^ own_sh b 30) ^^^ own_sh b 60
theorem own_xs (z : BitVec 64) (k : Nat) (hk : 64 ≤ k + k + k) :
    ((z ^^^ z >>> k) ^^^ (z ^^^ z >>> k) >>> k) ^^^ (z ^^^ z >>> k) >>> (k + k) = z := by
  rw [BitVec.ushiftRight_xor_distrib, BitVec.ushiftRight_xor_distrib, ← BitVec.shiftRight_add, ← BitVec.shiftRight_add]
  have h0 : z >>> (k + (k + k)) = 0#64 := BitVec.ushiftRight_eq_zero (by omega)
  rw [h0]
  apply BitVec.eq_of_getLsbD_eq
  intro i hi
  simp only [BitVec.getLsbD_xor, BitVec.getLsbD_zero]
  cases z.getLsbD i <;> cases (z >>> k).getLsbD i <;> cases (z >>> (k + k)).getLsbD i <;> rfl
theorem own_xs64 (z : Int64) (k k2 : Int32) (n : Nat) (h1 : ∀ x : Int64, (own_sh x k).toBitVec = x.toBitVec >>> n) (h2 : ∀ x : Int64, (own_sh x k2).toBitVec = x.toBitVec >>> (n + n)) (hn : 64 ≤ n + n + n) :
    (((z ^^^ own_sh z k) ^^^ own_sh (z ^^^ own_sh z k) k) ^^^ own_sh (z ^^^ own_sh z k) k2) = z := by
  apply Int64.toBitVec_inj.mp
  rw [Int64.toBitVec_xor, Int64.toBitVec_xor, h2, h1, Int64.toBitVec_xor, h1]
  exact own_xs _ n hn
theorem own_i1 : own_c1 * own_inv own_c1 = 1 := by decide +kernel
theorem own_i2 : own_c2 * own_inv own_c2 = 1 := by decide +kernel
theorem own_plain (w : Int64) : own_unmix (own_mix w) = w := by
  unfold own_unmix own_mix
  simp only
  rw [own_xs64 _ 31 62 31 (fun _ => rfl) (fun _ => rfl) (by decide), Int64.mul_assoc, own_i2, Int64.mul_one]
  rw [own_xs64 _ 27 54 27 (fun _ => rfl) (fun _ => rfl) (by decide), Int64.mul_assoc, own_i1, Int64.mul_one]
  exact own_xs64 _ 30 60 30 (fun _ => rfl) (fun _ => rfl) (by decide)
theorem d1_0 : decode prog_42_method_11_code 0 = .ok (.lload_n 0, 1) := by decide +kernel
theorem d1_1 : decode prog_42_method_11_code 1 = .ok (.lload_n 0, 1) := by decide +kernel
theorem d1_2 : decode prog_42_method_11_code 2 = .ok (.bipush 30, 2) := by decide +kernel
theorem d1_4 : decode prog_42_method_11_code 4 = .ok (.lushr, 1) := by decide +kernel
theorem d1_5 : decode prog_42_method_11_code 5 = .ok (.lxor, 1) := by decide +kernel
theorem d1_6 : decode prog_42_method_11_code 6 = .ok (.ldc2_w 118, 3) := by decide +kernel
theorem d1_9 : decode prog_42_method_11_code 9 = .ok (.lmul, 1) := by decide +kernel
theorem d1_10 : decode prog_42_method_11_code 10 = .ok (.lstore_n 2, 1) := by decide +kernel
theorem d1_11 : decode prog_42_method_11_code 11 = .ok (.lload_n 2, 1) := by decide +kernel
theorem d1_12 : decode prog_42_method_11_code 12 = .ok (.lload_n 2, 1) := by decide +kernel
theorem d1_13 : decode prog_42_method_11_code 13 = .ok (.bipush 27, 2) := by decide +kernel
theorem d1_15 : decode prog_42_method_11_code 15 = .ok (.lushr, 1) := by decide +kernel
theorem d1_16 : decode prog_42_method_11_code 16 = .ok (.lxor, 1) := by decide +kernel
theorem d1_17 : decode prog_42_method_11_code 17 = .ok (.ldc2_w 120, 3) := by decide +kernel
theorem d1_20 : decode prog_42_method_11_code 20 = .ok (.lmul, 1) := by decide +kernel
theorem d1_21 : decode prog_42_method_11_code 21 = .ok (.lstore_n 2, 1) := by decide +kernel
theorem d1_22 : decode prog_42_method_11_code 22 = .ok (.lload_n 2, 1) := by decide +kernel
theorem d1_23 : decode prog_42_method_11_code 23 = .ok (.lload_n 2, 1) := by decide +kernel
theorem d1_24 : decode prog_42_method_11_code 24 = .ok (.bipush 31, 2) := by decide +kernel
theorem d1_26 : decode prog_42_method_11_code 26 = .ok (.lushr, 1) := by decide +kernel
theorem d1_27 : decode prog_42_method_11_code 27 = .ok (.lxor, 1) := by decide +kernel
theorem d1_28 : decode prog_42_method_11_code 28 = .ok (.lreturn, 1) := by decide +kernel
theorem own_pn0 : plainName "com/example/minwise/minwise/service/MinHasher" = true := by first | (simp [plainName, overriddenIn]; done) | decide +kernel
theorem own_ef1 (m : MethodId) (q1 : Int64) : entryFrame m #[(.long q1)] 4 = mkF m 0 #[.val (.long q1), .second, .unset, .unset] [] := by first | (simp [entryFrame, mkF, argsToLocals, Value.category]; done) | rfl
set_option maxRecDepth 65536 in
set_option maxHeartbeats 40000000 in
theorem own_rm1 (l : Launch) (Z : State) (a0 : Array Value) (hw : ∀ d ∈ tables_1, d.before a0 Z = true) (q1 : Int64) (h0 : Heap)  :
    own_C l Z (⟨"com/example/minwise/minwise/service/MinHasher", "mix", "(J)J"⟩ : MethodName) prog_42_method_11_code 4 (some .long) [] ({ frames := 0, cells := 0, slots := 0, locals := 0 } : Room) #[(.long q1)] h0 (fun v h L => v = some (.long (own_mix q1)) ∧ L = [] ∧ h = h0) := by
  refine own_body (plainFor_of_name own_pn0) fun p e s m below meth c s₁ hx hby hml hret hlk hown hnm hZ X0 e0 => ?_
  rw [own_ef1 m q1]
  refine own_go (U' := s₁.setTop (mkF m 1 #[.val (.long q1), .second, .unset, .unset] [(.long q1)])) (fun t k => XS.lloadN X0.here hx rfl (hb hby d1_0) rfl k) ?_
  refine own_go (U' := s₁.setTop (mkF m 2 #[.val (.long q1), .second, .unset, .unset] [(.long q1), (.long q1)])) (fun t k => XS.lloadN X0.here hx rfl (hb hby d1_1) rfl k) ?_
  refine own_go (U' := s₁.setTop (mkF m 4 #[.val (.long q1), .second, .unset, .unset] [(.int (30 : Int32)), (.long q1), (.long q1)])) (fun t k => XS.bipush X0.here hx rfl (hb hby d1_2) k) ?_
  refine own_go (U' := s₁.setTop (mkF m 5 #[.val (.long q1), .second, .unset, .unset] [(.long ((q1.toUInt64 >>> ((30 : Int32) &&& 0x3f).toInt64.toUInt64).toInt64)), (.long q1)])) (fun t k => XS.lushr X0.here hx rfl (hb hby d1_4) rfl k) ?_
  refine own_go (U' := s₁.setTop (mkF m 6 #[.val (.long q1), .second, .unset, .unset] [(.long (q1 ^^^ ((q1.toUInt64 >>> ((30 : Int32) &&& 0x3f).toInt64.toUInt64).toInt64)))])) (fun t k => XS.lxor X0.here hx rfl (hb hby d1_5) rfl k) ?_
  refine own_go (U' := s₁.setTop (mkF m 9 #[.val (.long q1), .second, .unset, .unset] [(.long (-4658895280553007687 : Int64)), (.long (q1 ^^^ ((q1.toUInt64 >>> ((30 : Int32) &&& 0x3f).toInt64.toUInt64).toInt64)))])) (fun t k => X0.ldc2Long hx hown (mvT hZ (hw _ (List.mem_of_getElem? (i := 4) rfl))) (g := (mkF m 6 #[.val (.long q1), .second, .unset, .unset] [(.long (q1 ^^^ ((q1.toUInt64 >>> ((30 : Int32) &&& 0x3f).toInt64.toUInt64).toInt64)))])) rfl (hb hby d1_6) _ k) ?_
  refine own_go (U' := s₁.setTop (mkF m 10 #[.val (.long q1), .second, .unset, .unset] [(.long ((q1 ^^^ ((q1.toUInt64 >>> ((30 : Int32) &&& 0x3f).toInt64.toUInt64).toInt64)) * (-4658895280553007687 : Int64)))])) (fun t k => XS.lmul X0.here hx rfl (hb hby d1_9) rfl k) ?_
  generalize hv_x1 : ((q1 ^^^ ((q1.toUInt64 >>> ((30 : Int32) &&& 0x3f).toInt64.toUInt64).toInt64)) * (-4658895280553007687 : Int64)) = x1
  refine own_go (U' := s₁.setTop (mkF m 11 #[.val (.long q1), .second, .val (.long x1), .second] [])) (fun t k => XS.lstoreN X0.here hx rfl (hb hby d1_10) rfl (l' := #[.val (.long q1), .second, .val (.long x1), .second]) rfl k) ?_
  refine own_go (U' := s₁.setTop (mkF m 12 #[.val (.long q1), .second, .val (.long x1), .second] [(.long x1)])) (fun t k => XS.lloadN X0.here hx rfl (hb hby d1_11) rfl k) ?_
  refine own_go (U' := s₁.setTop (mkF m 13 #[.val (.long q1), .second, .val (.long x1), .second] [(.long x1), (.long x1)])) (fun t k => XS.lloadN X0.here hx rfl (hb hby d1_12) rfl k) ?_
  refine own_go (U' := s₁.setTop (mkF m 15 #[.val (.long q1), .second, .val (.long x1), .second] [(.int (27 : Int32)), (.long x1), (.long x1)])) (fun t k => XS.bipush X0.here hx rfl (hb hby d1_13) k) ?_
  refine own_go (U' := s₁.setTop (mkF m 16 #[.val (.long q1), .second, .val (.long x1), .second] [(.long ((x1.toUInt64 >>> ((27 : Int32) &&& 0x3f).toInt64.toUInt64).toInt64)), (.long x1)])) (fun t k => XS.lushr X0.here hx rfl (hb hby d1_15) rfl k) ?_
  refine own_go (U' := s₁.setTop (mkF m 17 #[.val (.long q1), .second, .val (.long x1), .second] [(.long (x1 ^^^ ((x1.toUInt64 >>> ((27 : Int32) &&& 0x3f).toInt64.toUInt64).toInt64)))])) (fun t k => XS.lxor X0.here hx rfl (hb hby d1_16) rfl k) ?_
  refine own_go (U' := s₁.setTop (mkF m 20 #[.val (.long q1), .second, .val (.long x1), .second] [(.long (-7723592293110705685 : Int64)), (.long (x1 ^^^ ((x1.toUInt64 >>> ((27 : Int32) &&& 0x3f).toInt64.toUInt64).toInt64)))])) (fun t k => X0.ldc2Long hx hown (mvT hZ (hw _ (List.mem_of_getElem? (i := 5) rfl))) (g := (mkF m 17 #[.val (.long q1), .second, .val (.long x1), .second] [(.long (x1 ^^^ ((x1.toUInt64 >>> ((27 : Int32) &&& 0x3f).toInt64.toUInt64).toInt64)))])) rfl (hb hby d1_17) _ k) ?_
  refine own_go (U' := s₁.setTop (mkF m 21 #[.val (.long q1), .second, .val (.long x1), .second] [(.long ((x1 ^^^ ((x1.toUInt64 >>> ((27 : Int32) &&& 0x3f).toInt64.toUInt64).toInt64)) * (-7723592293110705685 : Int64)))])) (fun t k => XS.lmul X0.here hx rfl (hb hby d1_20) rfl k) ?_
  generalize hv_x2 : ((x1 ^^^ ((x1.toUInt64 >>> ((27 : Int32) &&& 0x3f).toInt64.toUInt64).toInt64)) * (-7723592293110705685 : Int64)) = x2
  refine own_go (U' := s₁.setTop (mkF m 22 #[.val (.long q1), .second, .val (.long x2), .second] [])) (fun t k => XS.lstoreN X0.here hx rfl (hb hby d1_21) rfl (l' := #[.val (.long q1), .second, .val (.long x2), .second]) rfl k) ?_
  refine own_go (U' := s₁.setTop (mkF m 23 #[.val (.long q1), .second, .val (.long x2), .second] [(.long x2)])) (fun t k => XS.lloadN X0.here hx rfl (hb hby d1_22) rfl k) ?_
  refine own_go (U' := s₁.setTop (mkF m 24 #[.val (.long q1), .second, .val (.long x2), .second] [(.long x2), (.long x2)])) (fun t k => XS.lloadN X0.here hx rfl (hb hby d1_23) rfl k) ?_
  refine own_go (U' := s₁.setTop (mkF m 26 #[.val (.long q1), .second, .val (.long x2), .second] [(.int (31 : Int32)), (.long x2), (.long x2)])) (fun t k => XS.bipush X0.here hx rfl (hb hby d1_24) k) ?_
  refine own_go (U' := s₁.setTop (mkF m 27 #[.val (.long q1), .second, .val (.long x2), .second] [(.long ((x2.toUInt64 >>> ((31 : Int32) &&& 0x3f).toInt64.toUInt64).toInt64)), (.long x2)])) (fun t k => XS.lushr X0.here hx rfl (hb hby d1_26) rfl k) ?_
  refine own_go (U' := s₁.setTop (mkF m 28 #[.val (.long q1), .second, .val (.long x2), .second] [(.long (x2 ^^^ ((x2.toUInt64 >>> ((31 : Int32) &&& 0x3f).toInt64.toUInt64).toInt64)))])) (fun t k => XS.lxor X0.here hx rfl (hb hby d1_27) rfl k) ?_
  refine own_retL X0 hx hret hlk (hb hby d1_28) ?_ (by decide) (by decide)
  subst hv_x2 hv_x1
  exact ⟨rfl, rfl, e0⟩
theorem d3_0 : decode method_2_code 0 = .ok (.lload_n 0, 1) := by decide +kernel
theorem d3_1 : decode method_2_code 1 = .ok (.lstore_n 2, 1) := by decide +kernel
theorem d3_2 : decode method_2_code 2 = .ok (.lload_n 2, 1) := by decide +kernel
theorem d3_3 : decode method_2_code 3 = .ok (.ldc2_w 7, 3) := by decide +kernel
theorem d3_6 : decode method_2_code 6 = .ok (.lload_n 0, 1) := by decide +kernel
theorem d3_7 : decode method_2_code 7 = .ok (.lload_n 2, 1) := by decide +kernel
theorem d3_8 : decode method_2_code 8 = .ok (.lmul, 1) := by decide +kernel
theorem d3_9 : decode method_2_code 9 = .ok (.lsub, 1) := by decide +kernel
theorem d3_10 : decode method_2_code 10 = .ok (.lmul, 1) := by decide +kernel
theorem d3_11 : decode method_2_code 11 = .ok (.lstore_n 2, 1) := by decide +kernel
theorem d3_12 : decode method_2_code 12 = .ok (.lload_n 2, 1) := by decide +kernel
theorem d3_13 : decode method_2_code 13 = .ok (.ldc2_w 7, 3) := by decide +kernel
theorem d3_16 : decode method_2_code 16 = .ok (.lload_n 0, 1) := by decide +kernel
theorem d3_17 : decode method_2_code 17 = .ok (.lload_n 2, 1) := by decide +kernel
theorem d3_18 : decode method_2_code 18 = .ok (.lmul, 1) := by decide +kernel
theorem d3_19 : decode method_2_code 19 = .ok (.lsub, 1) := by decide +kernel
theorem d3_20 : decode method_2_code 20 = .ok (.lmul, 1) := by decide +kernel
theorem d3_21 : decode method_2_code 21 = .ok (.lstore_n 2, 1) := by decide +kernel
theorem d3_22 : decode method_2_code 22 = .ok (.lload_n 2, 1) := by decide +kernel
theorem d3_23 : decode method_2_code 23 = .ok (.ldc2_w 7, 3) := by decide +kernel
theorem d3_26 : decode method_2_code 26 = .ok (.lload_n 0, 1) := by decide +kernel
theorem d3_27 : decode method_2_code 27 = .ok (.lload_n 2, 1) := by decide +kernel
theorem d3_28 : decode method_2_code 28 = .ok (.lmul, 1) := by decide +kernel
theorem d3_29 : decode method_2_code 29 = .ok (.lsub, 1) := by decide +kernel
theorem d3_30 : decode method_2_code 30 = .ok (.lmul, 1) := by decide +kernel
theorem d3_31 : decode method_2_code 31 = .ok (.lstore_n 2, 1) := by decide +kernel
theorem d3_32 : decode method_2_code 32 = .ok (.lload_n 2, 1) := by decide +kernel
theorem d3_33 : decode method_2_code 33 = .ok (.ldc2_w 7, 3) := by decide +kernel
theorem d3_36 : decode method_2_code 36 = .ok (.lload_n 0, 1) := by decide +kernel
theorem d3_37 : decode method_2_code 37 = .ok (.lload_n 2, 1) := by decide +kernel
theorem d3_38 : decode method_2_code 38 = .ok (.lmul, 1) := by decide +kernel
theorem d3_39 : decode method_2_code 39 = .ok (.lsub, 1) := by decide +kernel
theorem d3_40 : decode method_2_code 40 = .ok (.lmul, 1) := by decide +kernel
theorem d3_41 : decode method_2_code 41 = .ok (.lstore_n 2, 1) := by decide +kernel
theorem d3_42 : decode method_2_code 42 = .ok (.lload_n 2, 1) := by decide +kernel
theorem d3_43 : decode method_2_code 43 = .ok (.ldc2_w 7, 3) := by decide +kernel
theorem d3_46 : decode method_2_code 46 = .ok (.lload_n 0, 1) := by decide +kernel
theorem d3_47 : decode method_2_code 47 = .ok (.lload_n 2, 1) := by decide +kernel
theorem d3_48 : decode method_2_code 48 = .ok (.lmul, 1) := by decide +kernel
theorem d3_49 : decode method_2_code 49 = .ok (.lsub, 1) := by decide +kernel
theorem d3_50 : decode method_2_code 50 = .ok (.lmul, 1) := by decide +kernel
theorem d3_51 : decode method_2_code 51 = .ok (.lstore_n 2, 1) := by decide +kernel
theorem d3_52 : decode method_2_code 52 = .ok (.lload_n 2, 1) := by decide +kernel
theorem d3_53 : decode method_2_code 53 = .ok (.lreturn, 1) := by decide +kernel
theorem own_pn1 : plainName "com/example/minwise/minwise/service/MinHasherMixPinLaw" = true := by first | (simp [plainName, overriddenIn]; done) | decide +kernel
theorem own_ef3 (m : MethodId) (q1 : Int64) : entryFrame m #[(.long q1)] 4 = mkF m 0 #[.val (.long q1), .second, .unset, .unset] [] := by first | (simp [entryFrame, mkF, argsToLocals, Value.category]; done) | rfl
set_option maxRecDepth 65536 in
set_option maxHeartbeats 40000000 in
theorem own_rm3 (l : Launch) (Z : State) (a0 : Array Value) (hw : ∀ d ∈ tables_1, d.before a0 Z = true) (q1 : Int64) (h0 : Heap)  :
    own_C l Z (⟨"com/example/minwise/minwise/service/MinHasherMixPinLaw", "inverse", "(J)J"⟩ : MethodName) method_2_code 4 (some .long) [] ({ frames := 0, cells := 0, slots := 0, locals := 0 } : Room) #[(.long q1)] h0 (fun v h L => v = some (.long (own_inv q1)) ∧ L = [] ∧ h = h0) := by
  refine own_body (plainFor_of_name own_pn1) fun p e s m below meth c s₁ hx hby hml hret hlk hown hnm hZ X0 e0 => ?_
  rw [own_ef3 m q1]
  refine own_go (U' := s₁.setTop (mkF m 1 #[.val (.long q1), .second, .unset, .unset] [(.long q1)])) (fun t k => XS.lloadN X0.here hx rfl (hb hby d3_0) rfl k) ?_
  refine own_go (U' := s₁.setTop (mkF m 2 #[.val (.long q1), .second, .val (.long q1), .second] [])) (fun t k => XS.lstoreN X0.here hx rfl (hb hby d3_1) rfl (l' := #[.val (.long q1), .second, .val (.long q1), .second]) rfl k) ?_
  refine own_go (U' := s₁.setTop (mkF m 3 #[.val (.long q1), .second, .val (.long q1), .second] [(.long q1)])) (fun t k => XS.lloadN X0.here hx rfl (hb hby d3_2) rfl k) ?_
  refine own_go (U' := s₁.setTop (mkF m 6 #[.val (.long q1), .second, .val (.long q1), .second] [(.long (2 : Int64)), (.long q1)])) (fun t k => X0.ldc2Long hx hown (mvT hZ (hw _ (List.mem_of_getElem? (i := 14) rfl))) (g := (mkF m 3 #[.val (.long q1), .second, .val (.long q1), .second] [(.long q1)])) rfl (hb hby d3_3) _ k) ?_
  refine own_go (U' := s₁.setTop (mkF m 7 #[.val (.long q1), .second, .val (.long q1), .second] [(.long q1), (.long (2 : Int64)), (.long q1)])) (fun t k => XS.lloadN X0.here hx rfl (hb hby d3_6) rfl k) ?_
  refine own_go (U' := s₁.setTop (mkF m 8 #[.val (.long q1), .second, .val (.long q1), .second] [(.long q1), (.long q1), (.long (2 : Int64)), (.long q1)])) (fun t k => XS.lloadN X0.here hx rfl (hb hby d3_7) rfl k) ?_
  refine own_go (U' := s₁.setTop (mkF m 9 #[.val (.long q1), .second, .val (.long q1), .second] [(.long (q1 * q1)), (.long (2 : Int64)), (.long q1)])) (fun t k => XS.lmul X0.here hx rfl (hb hby d3_8) rfl k) ?_
  refine own_go (U' := s₁.setTop (mkF m 10 #[.val (.long q1), .second, .val (.long q1), .second] [(.long ((2 : Int64) - (q1 * q1))), (.long q1)])) (fun t k => XS.lsub X0.here hx rfl (hb hby d3_9) rfl k) ?_
  refine own_go (U' := s₁.setTop (mkF m 11 #[.val (.long q1), .second, .val (.long q1), .second] [(.long (q1 * ((2 : Int64) - (q1 * q1))))])) (fun t k => XS.lmul X0.here hx rfl (hb hby d3_10) rfl k) ?_
  generalize hv_x1 : (q1 * ((2 : Int64) - (q1 * q1))) = x1
  refine own_go (U' := s₁.setTop (mkF m 12 #[.val (.long q1), .second, .val (.long x1), .second] [])) (fun t k => XS.lstoreN X0.here hx rfl (hb hby d3_11) rfl (l' := #[.val (.long q1), .second, .val (.long x1), .second]) rfl k) ?_
  refine own_go (U' := s₁.setTop (mkF m 13 #[.val (.long q1), .second, .val (.long x1), .second] [(.long x1)])) (fun t k => XS.lloadN X0.here hx rfl (hb hby d3_12) rfl k) ?_
  refine own_go (U' := s₁.setTop (mkF m 16 #[.val (.long q1), .second, .val (.long x1), .second] [(.long (2 : Int64)), (.long x1)])) (fun t k => X0.ldc2Long hx hown (mvT hZ (hw _ (List.mem_of_getElem? (i := 14) rfl))) (g := (mkF m 13 #[.val (.long q1), .second, .val (.long x1), .second] [(.long x1)])) rfl (hb hby d3_13) _ k) ?_
  refine own_go (U' := s₁.setTop (mkF m 17 #[.val (.long q1), .second, .val (.long x1), .second] [(.long q1), (.long (2 : Int64)), (.long x1)])) (fun t k => XS.lloadN X0.here hx rfl (hb hby d3_16) rfl k) ?_
  refine own_go (U' := s₁.setTop (mkF m 18 #[.val (.long q1), .second, .val (.long x1), .second] [(.long x1), (.long q1), (.long (2 : Int64)), (.long x1)])) (fun t k => XS.lloadN X0.here hx rfl (hb hby d3_17) rfl k) ?_
  refine own_go (U' := s₁.setTop (mkF m 19 #[.val (.long q1), .second, .val (.long x1), .second] [(.long (q1 * x1)), (.long (2 : Int64)), (.long x1)])) (fun t k => XS.lmul X0.here hx rfl (hb hby d3_18) rfl k) ?_
  refine own_go (U' := s₁.setTop (mkF m 20 #[.val (.long q1), .second, .val (.long x1), .second] [(.long ((2 : Int64) - (q1 * x1))), (.long x1)])) (fun t k => XS.lsub X0.here hx rfl (hb hby d3_19) rfl k) ?_
  refine own_go (U' := s₁.setTop (mkF m 21 #[.val (.long q1), .second, .val (.long x1), .second] [(.long (x1 * ((2 : Int64) - (q1 * x1))))])) (fun t k => XS.lmul X0.here hx rfl (hb hby d3_20) rfl k) ?_
  generalize hv_x2 : (x1 * ((2 : Int64) - (q1 * x1))) = x2
  refine own_go (U' := s₁.setTop (mkF m 22 #[.val (.long q1), .second, .val (.long x2), .second] [])) (fun t k => XS.lstoreN X0.here hx rfl (hb hby d3_21) rfl (l' := #[.val (.long q1), .second, .val (.long x2), .second]) rfl k) ?_
  refine own_go (U' := s₁.setTop (mkF m 23 #[.val (.long q1), .second, .val (.long x2), .second] [(.long x2)])) (fun t k => XS.lloadN X0.here hx rfl (hb hby d3_22) rfl k) ?_
  refine own_go (U' := s₁.setTop (mkF m 26 #[.val (.long q1), .second, .val (.long x2), .second] [(.long (2 : Int64)), (.long x2)])) (fun t k => X0.ldc2Long hx hown (mvT hZ (hw _ (List.mem_of_getElem? (i := 14) rfl))) (g := (mkF m 23 #[.val (.long q1), .second, .val (.long x2), .second] [(.long x2)])) rfl (hb hby d3_23) _ k) ?_
  refine own_go (U' := s₁.setTop (mkF m 27 #[.val (.long q1), .second, .val (.long x2), .second] [(.long q1), (.long (2 : Int64)), (.long x2)])) (fun t k => XS.lloadN X0.here hx rfl (hb hby d3_26) rfl k) ?_
  refine own_go (U' := s₁.setTop (mkF m 28 #[.val (.long q1), .second, .val (.long x2), .second] [(.long x2), (.long q1), (.long (2 : Int64)), (.long x2)])) (fun t k => XS.lloadN X0.here hx rfl (hb hby d3_27) rfl k) ?_
  refine own_go (U' := s₁.setTop (mkF m 29 #[.val (.long q1), .second, .val (.long x2), .second] [(.long (q1 * x2)), (.long (2 : Int64)), (.long x2)])) (fun t k => XS.lmul X0.here hx rfl (hb hby d3_28) rfl k) ?_
  refine own_go (U' := s₁.setTop (mkF m 30 #[.val (.long q1), .second, .val (.long x2), .second] [(.long ((2 : Int64) - (q1 * x2))), (.long x2)])) (fun t k => XS.lsub X0.here hx rfl (hb hby d3_29) rfl k) ?_
  refine own_go (U' := s₁.setTop (mkF m 31 #[.val (.long q1), .second, .val (.long x2), .second] [(.long (x2 * ((2 : Int64) - (q1 * x2))))])) (fun t k => XS.lmul X0.here hx rfl (hb hby d3_30) rfl k) ?_
  generalize hv_x3 : (x2 * ((2 : Int64) - (q1 * x2))) = x3
  refine own_go (U' := s₁.setTop (mkF m 32 #[.val (.long q1), .second, .val (.long x3), .second] [])) (fun t k => XS.lstoreN X0.here hx rfl (hb hby d3_31) rfl (l' := #[.val (.long q1), .second, .val (.long x3), .second]) rfl k) ?_
  refine own_go (U' := s₁.setTop (mkF m 33 #[.val (.long q1), .second, .val (.long x3), .second] [(.long x3)])) (fun t k => XS.lloadN X0.here hx rfl (hb hby d3_32) rfl k) ?_
  refine own_go (U' := s₁.setTop (mkF m 36 #[.val (.long q1), .second, .val (.long x3), .second] [(.long (2 : Int64)), (.long x3)])) (fun t k => X0.ldc2Long hx hown (mvT hZ (hw _ (List.mem_of_getElem? (i := 14) rfl))) (g := (mkF m 33 #[.val (.long q1), .second, .val (.long x3), .second] [(.long x3)])) rfl (hb hby d3_33) _ k) ?_
  refine own_go (U' := s₁.setTop (mkF m 37 #[.val (.long q1), .second, .val (.long x3), .second] [(.long q1), (.long (2 : Int64)), (.long x3)])) (fun t k => XS.lloadN X0.here hx rfl (hb hby d3_36) rfl k) ?_
  refine own_go (U' := s₁.setTop (mkF m 38 #[.val (.long q1), .second, .val (.long x3), .second] [(.long x3), (.long q1), (.long (2 : Int64)), (.long x3)])) (fun t k => XS.lloadN X0.here hx rfl (hb hby d3_37) rfl k) ?_
  refine own_go (U' := s₁.setTop (mkF m 39 #[.val (.long q1), .second, .val (.long x3), .second] [(.long (q1 * x3)), (.long (2 : Int64)), (.long x3)])) (fun t k => XS.lmul X0.here hx rfl (hb hby d3_38) rfl k) ?_
  refine own_go (U' := s₁.setTop (mkF m 40 #[.val (.long q1), .second, .val (.long x3), .second] [(.long ((2 : Int64) - (q1 * x3))), (.long x3)])) (fun t k => XS.lsub X0.here hx rfl (hb hby d3_39) rfl k) ?_
  refine own_go (U' := s₁.setTop (mkF m 41 #[.val (.long q1), .second, .val (.long x3), .second] [(.long (x3 * ((2 : Int64) - (q1 * x3))))])) (fun t k => XS.lmul X0.here hx rfl (hb hby d3_40) rfl k) ?_
  generalize hv_x4 : (x3 * ((2 : Int64) - (q1 * x3))) = x4
  refine own_go (U' := s₁.setTop (mkF m 42 #[.val (.long q1), .second, .val (.long x4), .second] [])) (fun t k => XS.lstoreN X0.here hx rfl (hb hby d3_41) rfl (l' := #[.val (.long q1), .second, .val (.long x4), .second]) rfl k) ?_
  refine own_go (U' := s₁.setTop (mkF m 43 #[.val (.long q1), .second, .val (.long x4), .second] [(.long x4)])) (fun t k => XS.lloadN X0.here hx rfl (hb hby d3_42) rfl k) ?_
  refine own_go (U' := s₁.setTop (mkF m 46 #[.val (.long q1), .second, .val (.long x4), .second] [(.long (2 : Int64)), (.long x4)])) (fun t k => X0.ldc2Long hx hown (mvT hZ (hw _ (List.mem_of_getElem? (i := 14) rfl))) (g := (mkF m 43 #[.val (.long q1), .second, .val (.long x4), .second] [(.long x4)])) rfl (hb hby d3_43) _ k) ?_
  refine own_go (U' := s₁.setTop (mkF m 47 #[.val (.long q1), .second, .val (.long x4), .second] [(.long q1), (.long (2 : Int64)), (.long x4)])) (fun t k => XS.lloadN X0.here hx rfl (hb hby d3_46) rfl k) ?_
  refine own_go (U' := s₁.setTop (mkF m 48 #[.val (.long q1), .second, .val (.long x4), .second] [(.long x4), (.long q1), (.long (2 : Int64)), (.long x4)])) (fun t k => XS.lloadN X0.here hx rfl (hb hby d3_47) rfl k) ?_
  refine own_go (U' := s₁.setTop (mkF m 49 #[.val (.long q1), .second, .val (.long x4), .second] [(.long (q1 * x4)), (.long (2 : Int64)), (.long x4)])) (fun t k => XS.lmul X0.here hx rfl (hb hby d3_48) rfl k) ?_
  refine own_go (U' := s₁.setTop (mkF m 50 #[.val (.long q1), .second, .val (.long x4), .second] [(.long ((2 : Int64) - (q1 * x4))), (.long x4)])) (fun t k => XS.lsub X0.here hx rfl (hb hby d3_49) rfl k) ?_
  refine own_go (U' := s₁.setTop (mkF m 51 #[.val (.long q1), .second, .val (.long x4), .second] [(.long (x4 * ((2 : Int64) - (q1 * x4))))])) (fun t k => XS.lmul X0.here hx rfl (hb hby d3_50) rfl k) ?_
  generalize hv_x5 : (x4 * ((2 : Int64) - (q1 * x4))) = x5
  refine own_go (U' := s₁.setTop (mkF m 52 #[.val (.long q1), .second, .val (.long x5), .second] [])) (fun t k => XS.lstoreN X0.here hx rfl (hb hby d3_51) rfl (l' := #[.val (.long q1), .second, .val (.long x5), .second]) rfl k) ?_
  refine own_go (U' := s₁.setTop (mkF m 53 #[.val (.long q1), .second, .val (.long x5), .second] [(.long x5)])) (fun t k => XS.lloadN X0.here hx rfl (hb hby d3_52) rfl k) ?_
  refine own_retL X0 hx hret hlk (hb hby d3_53) ?_ (by decide) (by decide)
  subst hv_x5 hv_x4 hv_x3 hv_x2 hv_x1
  exact ⟨rfl, rfl, e0⟩
theorem own_pd0 : parseMethodDescriptor "(J)J" = some ⟨[.long], some .long⟩ := by decide +kernel
theorem d2_0 : decode method_3_code 0 = .ok (.lload_n 0, 1) := by decide +kernel
theorem d2_1 : decode method_3_code 1 = .ok (.lload_n 0, 1) := by decide +kernel
theorem d2_2 : decode method_3_code 2 = .ok (.bipush 31, 2) := by decide +kernel
theorem d2_4 : decode method_3_code 4 = .ok (.lushr, 1) := by decide +kernel
theorem d2_5 : decode method_3_code 5 = .ok (.lxor, 1) := by decide +kernel
theorem d2_6 : decode method_3_code 6 = .ok (.lload_n 0, 1) := by decide +kernel
theorem d2_7 : decode method_3_code 7 = .ok (.bipush 62, 2) := by decide +kernel
theorem d2_9 : decode method_3_code 9 = .ok (.lushr, 1) := by decide +kernel
theorem d2_10 : decode method_3_code 10 = .ok (.lxor, 1) := by decide +kernel
theorem d2_11 : decode method_3_code 11 = .ok (.lstore_n 0, 1) := by decide +kernel
theorem d2_12 : decode method_3_code 12 = .ok (.lload_n 0, 1) := by decide +kernel
theorem d2_13 : decode method_3_code 13 = .ok (.ldc2_w 9, 3) := by decide +kernel
theorem d2_16 : decode method_3_code 16 = .ok (.invokestatic 11, 3) := by decide +kernel
theorem d2_19 : decode method_3_code 19 = .ok (.lmul, 1) := by decide +kernel
theorem d2_20 : decode method_3_code 20 = .ok (.lstore_n 0, 1) := by decide +kernel
theorem d2_21 : decode method_3_code 21 = .ok (.lload_n 0, 1) := by decide +kernel
theorem d2_22 : decode method_3_code 22 = .ok (.lload_n 0, 1) := by decide +kernel
theorem d2_23 : decode method_3_code 23 = .ok (.bipush 27, 2) := by decide +kernel
theorem d2_25 : decode method_3_code 25 = .ok (.lushr, 1) := by decide +kernel
theorem d2_26 : decode method_3_code 26 = .ok (.lxor, 1) := by decide +kernel
theorem d2_27 : decode method_3_code 27 = .ok (.lload_n 0, 1) := by decide +kernel
theorem d2_28 : decode method_3_code 28 = .ok (.bipush 54, 2) := by decide +kernel
theorem d2_30 : decode method_3_code 30 = .ok (.lushr, 1) := by decide +kernel
theorem d2_31 : decode method_3_code 31 = .ok (.lxor, 1) := by decide +kernel
theorem d2_32 : decode method_3_code 32 = .ok (.lstore_n 0, 1) := by decide +kernel
theorem d2_33 : decode method_3_code 33 = .ok (.lload_n 0, 1) := by decide +kernel
theorem d2_34 : decode method_3_code 34 = .ok (.ldc2_w 17, 3) := by decide +kernel
theorem d2_37 : decode method_3_code 37 = .ok (.invokestatic 11, 3) := by decide +kernel
theorem d2_40 : decode method_3_code 40 = .ok (.lmul, 1) := by decide +kernel
theorem d2_41 : decode method_3_code 41 = .ok (.lstore_n 0, 1) := by decide +kernel
theorem d2_42 : decode method_3_code 42 = .ok (.lload_n 0, 1) := by decide +kernel
theorem d2_43 : decode method_3_code 43 = .ok (.lload_n 0, 1) := by decide +kernel
theorem d2_44 : decode method_3_code 44 = .ok (.bipush 30, 2) := by decide +kernel
theorem d2_46 : decode method_3_code 46 = .ok (.lushr, 1) := by decide +kernel
theorem d2_47 : decode method_3_code 47 = .ok (.lxor, 1) := by decide +kernel
theorem d2_48 : decode method_3_code 48 = .ok (.lload_n 0, 1) := by decide +kernel
theorem d2_49 : decode method_3_code 49 = .ok (.bipush 60, 2) := by decide +kernel
theorem d2_51 : decode method_3_code 51 = .ok (.lushr, 1) := by decide +kernel
theorem d2_52 : decode method_3_code 52 = .ok (.lxor, 1) := by decide +kernel
theorem d2_53 : decode method_3_code 53 = .ok (.lstore_n 0, 1) := by decide +kernel
theorem d2_54 : decode method_3_code 54 = .ok (.lload_n 0, 1) := by decide +kernel
theorem d2_55 : decode method_3_code 55 = .ok (.lreturn, 1) := by decide +kernel
theorem own_ef2 (m : MethodId) (q1 : Int64) : entryFrame m #[(.long q1)] 2 = mkF m 0 #[.val (.long q1), .second] [] := by first | (simp [entryFrame, mkF, argsToLocals, Value.category]; done) | rfl
set_option maxRecDepth 65536 in
set_option maxHeartbeats 40000000 in
theorem own_rm2 (l : Launch) (Z : State) (a0 : Array Value) (hw : ∀ d ∈ tables_1, d.before a0 Z = true) (q1 : Int64) (h0 : Heap)  :
    own_C l Z (⟨"com/example/minwise/minwise/service/MinHasherMixPinLaw", "unmix", "(J)J"⟩ : MethodName) method_3_code 2 (some .long) [] ({ frames := 1, cells := 0, slots := 0, locals := 20 } : Room) #[(.long q1)] h0 (fun v h L => v = some (.long (own_unmix q1)) ∧ L = [] ∧ h = h0) := by
  refine own_body (plainFor_of_name own_pn1) fun p e s m below meth c s₁ hx hby hml hret hlk hown hnm hZ X0 e0 => ?_
  rw [own_ef2 m q1]
  refine own_go (U' := s₁.setTop (mkF m 1 #[.val (.long q1), .second] [(.long q1)])) (fun t k => XS.lloadN X0.here hx rfl (hb hby d2_0) rfl k) ?_
  refine own_go (U' := s₁.setTop (mkF m 2 #[.val (.long q1), .second] [(.long q1), (.long q1)])) (fun t k => XS.lloadN X0.here hx rfl (hb hby d2_1) rfl k) ?_
  refine own_go (U' := s₁.setTop (mkF m 4 #[.val (.long q1), .second] [(.int (31 : Int32)), (.long q1), (.long q1)])) (fun t k => XS.bipush X0.here hx rfl (hb hby d2_2) k) ?_
  refine own_go (U' := s₁.setTop (mkF m 5 #[.val (.long q1), .second] [(.long ((q1.toUInt64 >>> ((31 : Int32) &&& 0x3f).toInt64.toUInt64).toInt64)), (.long q1)])) (fun t k => XS.lushr X0.here hx rfl (hb hby d2_4) rfl k) ?_
  refine own_go (U' := s₁.setTop (mkF m 6 #[.val (.long q1), .second] [(.long (q1 ^^^ ((q1.toUInt64 >>> ((31 : Int32) &&& 0x3f).toInt64.toUInt64).toInt64)))])) (fun t k => XS.lxor X0.here hx rfl (hb hby d2_5) rfl k) ?_
  refine own_go (U' := s₁.setTop (mkF m 7 #[.val (.long q1), .second] [(.long q1), (.long (q1 ^^^ ((q1.toUInt64 >>> ((31 : Int32) &&& 0x3f).toInt64.toUInt64).toInt64)))])) (fun t k => XS.lloadN X0.here hx rfl (hb hby d2_6) rfl k) ?_
  refine own_go (U' := s₁.setTop (mkF m 9 #[.val (.long q1), .second] [(.int (62 : Int32)), (.long q1), (.long (q1 ^^^ ((q1.toUInt64 >>> ((31 : Int32) &&& 0x3f).toInt64.toUInt64).toInt64)))])) (fun t k => XS.bipush X0.here hx rfl (hb hby d2_7) k) ?_
  refine own_go (U' := s₁.setTop (mkF m 10 #[.val (.long q1), .second] [(.long ((q1.toUInt64 >>> ((62 : Int32) &&& 0x3f).toInt64.toUInt64).toInt64)), (.long (q1 ^^^ ((q1.toUInt64 >>> ((31 : Int32) &&& 0x3f).toInt64.toUInt64).toInt64)))])) (fun t k => XS.lushr X0.here hx rfl (hb hby d2_9) rfl k) ?_
  refine own_go (U' := s₁.setTop (mkF m 11 #[.val (.long q1), .second] [(.long ((q1 ^^^ ((q1.toUInt64 >>> ((31 : Int32) &&& 0x3f).toInt64.toUInt64).toInt64)) ^^^ ((q1.toUInt64 >>> ((62 : Int32) &&& 0x3f).toInt64.toUInt64).toInt64)))])) (fun t k => XS.lxor X0.here hx rfl (hb hby d2_10) rfl k) ?_
  generalize hv_x1 : ((q1 ^^^ ((q1.toUInt64 >>> ((31 : Int32) &&& 0x3f).toInt64.toUInt64).toInt64)) ^^^ ((q1.toUInt64 >>> ((62 : Int32) &&& 0x3f).toInt64.toUInt64).toInt64)) = x1
  refine own_go (U' := s₁.setTop (mkF m 12 #[.val (.long x1), .second] [])) (fun t k => XS.lstoreN X0.here hx rfl (hb hby d2_11) rfl (l' := #[.val (.long x1), .second]) rfl k) ?_
  refine own_go (U' := s₁.setTop (mkF m 13 #[.val (.long x1), .second] [(.long x1)])) (fun t k => XS.lloadN X0.here hx rfl (hb hby d2_12) rfl k) ?_
  refine own_go (U' := s₁.setTop (mkF m 16 #[.val (.long x1), .second] [(.long (-7723592293110705685 : Int64)), (.long x1)])) (fun t k => X0.ldc2Long hx hown (mvT hZ (hw _ (List.mem_of_getElem? (i := 10) rfl))) (g := (mkF m 13 #[.val (.long x1), .second] [(.long x1)])) rfl (hb hby d2_13) _ k) ?_
  obtain ⟨v1, T1, h1, L1, e1, X1, hQ1, st1⟩ := own_callS X0 hx hZ (y := (⟨"com/example/minwise/minwise/service/MinHasherMixPinLaw", "inverse", "(J)J"⟩ : MethodName)) hown (hw _ (List.mem_of_getElem? (i := 11) rfl)) (hw _ (List.mem_of_getElem? (i := 12) rfl)) (hw _ (List.mem_of_getElem? (i := 8) rfl)) (hw _ (List.mem_of_getElem? (i := 13) rfl)) (by decide) (own_rm3 l Z a0 hw own_c2 h0) (W := 2) (by decide) (by decide) (g := (mkF m 16 #[.val (.long x1), .second] [(.long (-7723592293110705685 : Int64)), (.long x1)])) rfl (by rw [hml]; rfl) (argsL := [(.long (-7723592293110705685 : Int64))]) (rest := [(.long x1)]) (lenOf own_pd0 rfl) rfl rfl (by show 2 * 0 + _ ≤ _; exact Nat.le_of_eq rfl) (hb hby d2_16) e0 (by decide) (by decide)
  obtain ⟨rfl, rfl, eh1⟩ := hQ1
  have e1 := e1.trans eh1
  rw [List.append_nil] at X1
  refine own_go (U' := T1.setTop (mkF m 19 #[.val (.long x1), .second] [(.long (own_inv own_c2)), (.long x1)])) st1 ?_
  refine own_go (U' := T1.setTop (mkF m 20 #[.val (.long x1), .second] [(.long (x1 * (own_inv own_c2)))])) (fun t k => XS.lmul X1.here hx rfl (hb hby d2_19) rfl k) ?_
  generalize hv_x2 : (x1 * (own_inv own_c2)) = x2
  refine own_go (U' := T1.setTop (mkF m 21 #[.val (.long x2), .second] [])) (fun t k => XS.lstoreN X1.here hx rfl (hb hby d2_20) rfl (l' := #[.val (.long x2), .second]) rfl k) ?_
  refine own_go (U' := T1.setTop (mkF m 22 #[.val (.long x2), .second] [(.long x2)])) (fun t k => XS.lloadN X1.here hx rfl (hb hby d2_21) rfl k) ?_
  refine own_go (U' := T1.setTop (mkF m 23 #[.val (.long x2), .second] [(.long x2), (.long x2)])) (fun t k => XS.lloadN X1.here hx rfl (hb hby d2_22) rfl k) ?_
  refine own_go (U' := T1.setTop (mkF m 25 #[.val (.long x2), .second] [(.int (27 : Int32)), (.long x2), (.long x2)])) (fun t k => XS.bipush X1.here hx rfl (hb hby d2_23) k) ?_
  refine own_go (U' := T1.setTop (mkF m 26 #[.val (.long x2), .second] [(.long ((x2.toUInt64 >>> ((27 : Int32) &&& 0x3f).toInt64.toUInt64).toInt64)), (.long x2)])) (fun t k => XS.lushr X1.here hx rfl (hb hby d2_25) rfl k) ?_
  refine own_go (U' := T1.setTop (mkF m 27 #[.val (.long x2), .second] [(.long (x2 ^^^ ((x2.toUInt64 >>> ((27 : Int32) &&& 0x3f).toInt64.toUInt64).toInt64)))])) (fun t k => XS.lxor X1.here hx rfl (hb hby d2_26) rfl k) ?_
  refine own_go (U' := T1.setTop (mkF m 28 #[.val (.long x2), .second] [(.long x2), (.long (x2 ^^^ ((x2.toUInt64 >>> ((27 : Int32) &&& 0x3f).toInt64.toUInt64).toInt64)))])) (fun t k => XS.lloadN X1.here hx rfl (hb hby d2_27) rfl k) ?_
  refine own_go (U' := T1.setTop (mkF m 30 #[.val (.long x2), .second] [(.int (54 : Int32)), (.long x2), (.long (x2 ^^^ ((x2.toUInt64 >>> ((27 : Int32) &&& 0x3f).toInt64.toUInt64).toInt64)))])) (fun t k => XS.bipush X1.here hx rfl (hb hby d2_28) k) ?_
  refine own_go (U' := T1.setTop (mkF m 31 #[.val (.long x2), .second] [(.long ((x2.toUInt64 >>> ((54 : Int32) &&& 0x3f).toInt64.toUInt64).toInt64)), (.long (x2 ^^^ ((x2.toUInt64 >>> ((27 : Int32) &&& 0x3f).toInt64.toUInt64).toInt64)))])) (fun t k => XS.lushr X1.here hx rfl (hb hby d2_30) rfl k) ?_
  refine own_go (U' := T1.setTop (mkF m 32 #[.val (.long x2), .second] [(.long ((x2 ^^^ ((x2.toUInt64 >>> ((27 : Int32) &&& 0x3f).toInt64.toUInt64).toInt64)) ^^^ ((x2.toUInt64 >>> ((54 : Int32) &&& 0x3f).toInt64.toUInt64).toInt64)))])) (fun t k => XS.lxor X1.here hx rfl (hb hby d2_31) rfl k) ?_
  generalize hv_x3 : ((x2 ^^^ ((x2.toUInt64 >>> ((27 : Int32) &&& 0x3f).toInt64.toUInt64).toInt64)) ^^^ ((x2.toUInt64 >>> ((54 : Int32) &&& 0x3f).toInt64.toUInt64).toInt64)) = x3
  refine own_go (U' := T1.setTop (mkF m 33 #[.val (.long x3), .second] [])) (fun t k => XS.lstoreN X1.here hx rfl (hb hby d2_32) rfl (l' := #[.val (.long x3), .second]) rfl k) ?_
  refine own_go (U' := T1.setTop (mkF m 34 #[.val (.long x3), .second] [(.long x3)])) (fun t k => XS.lloadN X1.here hx rfl (hb hby d2_33) rfl k) ?_
  refine own_go (U' := T1.setTop (mkF m 37 #[.val (.long x3), .second] [(.long (-4658895280553007687 : Int64)), (.long x3)])) (fun t k => X1.ldc2Long hx hown (mvT hZ (hw _ (List.mem_of_getElem? (i := 15) rfl))) (g := (mkF m 34 #[.val (.long x3), .second] [(.long x3)])) rfl (hb hby d2_34) _ k) ?_
  obtain ⟨v2, T2, h2, L2, e2, X2, hQ2, st2⟩ := own_callS X1 hx hZ (y := (⟨"com/example/minwise/minwise/service/MinHasherMixPinLaw", "inverse", "(J)J"⟩ : MethodName)) hown (hw _ (List.mem_of_getElem? (i := 11) rfl)) (hw _ (List.mem_of_getElem? (i := 12) rfl)) (hw _ (List.mem_of_getElem? (i := 8) rfl)) (hw _ (List.mem_of_getElem? (i := 13) rfl)) (by decide) (own_rm3 l Z a0 hw own_c1 h0) (W := 2) (by decide) (by decide) (g := (mkF m 37 #[.val (.long x3), .second] [(.long (-4658895280553007687 : Int64)), (.long x3)])) rfl (by rw [hml]; rfl) (argsL := [(.long (-4658895280553007687 : Int64))]) (rest := [(.long x3)]) (lenOf own_pd0 rfl) rfl rfl (by show 2 * 0 + _ ≤ _; exact Nat.le_of_eq rfl) (hb hby d2_37) e1 (by decide) (by decide)
  obtain ⟨rfl, rfl, eh2⟩ := hQ2
  have e2 := e2.trans eh2
  rw [List.append_nil] at X2
  refine own_go (U' := T2.setTop (mkF m 40 #[.val (.long x3), .second] [(.long (own_inv own_c1)), (.long x3)])) st2 ?_
  refine own_go (U' := T2.setTop (mkF m 41 #[.val (.long x3), .second] [(.long (x3 * (own_inv own_c1)))])) (fun t k => XS.lmul X2.here hx rfl (hb hby d2_40) rfl k) ?_
  generalize hv_x4 : (x3 * (own_inv own_c1)) = x4
  refine own_go (U' := T2.setTop (mkF m 42 #[.val (.long x4), .second] [])) (fun t k => XS.lstoreN X2.here hx rfl (hb hby d2_41) rfl (l' := #[.val (.long x4), .second]) rfl k) ?_
  refine own_go (U' := T2.setTop (mkF m 43 #[.val (.long x4), .second] [(.long x4)])) (fun t k => XS.lloadN X2.here hx rfl (hb hby d2_42) rfl k) ?_
  refine own_go (U' := T2.setTop (mkF m 44 #[.val (.long x4), .second] [(.long x4), (.long x4)])) (fun t k => XS.lloadN X2.here hx rfl (hb hby d2_43) rfl k) ?_
  refine own_go (U' := T2.setTop (mkF m 46 #[.val (.long x4), .second] [(.int (30 : Int32)), (.long x4), (.long x4)])) (fun t k => XS.bipush X2.here hx rfl (hb hby d2_44) k) ?_
  refine own_go (U' := T2.setTop (mkF m 47 #[.val (.long x4), .second] [(.long ((x4.toUInt64 >>> ((30 : Int32) &&& 0x3f).toInt64.toUInt64).toInt64)), (.long x4)])) (fun t k => XS.lushr X2.here hx rfl (hb hby d2_46) rfl k) ?_
  refine own_go (U' := T2.setTop (mkF m 48 #[.val (.long x4), .second] [(.long (x4 ^^^ ((x4.toUInt64 >>> ((30 : Int32) &&& 0x3f).toInt64.toUInt64).toInt64)))])) (fun t k => XS.lxor X2.here hx rfl (hb hby d2_47) rfl k) ?_
  refine own_go (U' := T2.setTop (mkF m 49 #[.val (.long x4), .second] [(.long x4), (.long (x4 ^^^ ((x4.toUInt64 >>> ((30 : Int32) &&& 0x3f).toInt64.toUInt64).toInt64)))])) (fun t k => XS.lloadN X2.here hx rfl (hb hby d2_48) rfl k) ?_
  refine own_go (U' := T2.setTop (mkF m 51 #[.val (.long x4), .second] [(.int (60 : Int32)), (.long x4), (.long (x4 ^^^ ((x4.toUInt64 >>> ((30 : Int32) &&& 0x3f).toInt64.toUInt64).toInt64)))])) (fun t k => XS.bipush X2.here hx rfl (hb hby d2_49) k) ?_
  refine own_go (U' := T2.setTop (mkF m 52 #[.val (.long x4), .second] [(.long ((x4.toUInt64 >>> ((60 : Int32) &&& 0x3f).toInt64.toUInt64).toInt64)), (.long (x4 ^^^ ((x4.toUInt64 >>> ((30 : Int32) &&& 0x3f).toInt64.toUInt64).toInt64)))])) (fun t k => XS.lushr X2.here hx rfl (hb hby d2_51) rfl k) ?_
  refine own_go (U' := T2.setTop (mkF m 53 #[.val (.long x4), .second] [(.long ((x4 ^^^ ((x4.toUInt64 >>> ((30 : Int32) &&& 0x3f).toInt64.toUInt64).toInt64)) ^^^ ((x4.toUInt64 >>> ((60 : Int32) &&& 0x3f).toInt64.toUInt64).toInt64)))])) (fun t k => XS.lxor X2.here hx rfl (hb hby d2_52) rfl k) ?_
  refine own_go (U' := T2.setTop (mkF m 54 #[.val (.long ((x4 ^^^ ((x4.toUInt64 >>> ((30 : Int32) &&& 0x3f).toInt64.toUInt64).toInt64)) ^^^ ((x4.toUInt64 >>> ((60 : Int32) &&& 0x3f).toInt64.toUInt64).toInt64))), .second] [])) (fun t k => XS.lstoreN X2.here hx rfl (hb hby d2_53) rfl (l' := #[.val (.long ((x4 ^^^ ((x4.toUInt64 >>> ((30 : Int32) &&& 0x3f).toInt64.toUInt64).toInt64)) ^^^ ((x4.toUInt64 >>> ((60 : Int32) &&& 0x3f).toInt64.toUInt64).toInt64))), .second]) rfl k) ?_
  refine own_go (U' := T2.setTop (mkF m 55 #[.val (.long ((x4 ^^^ ((x4.toUInt64 >>> ((30 : Int32) &&& 0x3f).toInt64.toUInt64).toInt64)) ^^^ ((x4.toUInt64 >>> ((60 : Int32) &&& 0x3f).toInt64.toUInt64).toInt64))), .second] [(.long ((x4 ^^^ ((x4.toUInt64 >>> ((30 : Int32) &&& 0x3f).toInt64.toUInt64).toInt64)) ^^^ ((x4.toUInt64 >>> ((60 : Int32) &&& 0x3f).toInt64.toUInt64).toInt64)))])) (fun t k => XS.lloadN X2.here hx rfl (hb hby d2_54) rfl k) ?_
  refine own_retL X2 hx hret hlk (hb hby d2_55) ?_ (by decide) (by decide)
  subst hv_x4 hv_x3 hv_x2 hv_x1
  exact ⟨rfl, rfl, e2⟩
theorem own_ef0 (m : MethodId) (q1 : Int64) : entryFrame m #[(.long q1)] maxLocals = mkF m 0 #[.val (.long q1), .second, .unset, .unset] [] := by first | (simp [entryFrame, mkF, argsToLocals, Value.category, maxLocals]; done) | rfl
set_option maxRecDepth 65536 in
set_option maxHeartbeats 40000000 in
theorem own_rm0 (l : Launch) (Z : State) (a0 : Array Value) (hw : ∀ d ∈ tables_1, d.before a0 Z = true) (ws : List Jvm.Cond) (q1 : Int64) (h0 : Heap)  :
    own_C l Z x code maxLocals ret ws room_1 #[(.long q1)] h0 (fun v h L => v = some (.int 1) ∧ Fr h0.size L) := by
  refine own_body (plainFor_of_name own_pn1) fun p e s m below meth c s₁ hx hby hml hret hlk hown hnm hZ X0 e0 => ?_
  rw [own_ef0 m q1]
  have hml : c.maxLocals = 4 := hml
  have hret : meth.sig.returnType = some .boolean := hret
  refine own_go (U' := s₁.setTop (mkF m 1 #[.val (.long q1), .second, .unset, .unset] [(.long q1)])) (fun t k => XS.lloadN X0.here hx rfl (hb hby at_0) rfl k) ?_
  obtain ⟨v1, T1, h1, L1, e1, X1, hQ1, st1⟩ := own_callS X0 hx hZ (y := (⟨"com/example/minwise/minwise/service/MinHasher", "mix", "(J)J"⟩ : MethodName)) hown (hw _ (List.mem_of_getElem? (i := 0) rfl)) (hw _ (List.mem_of_getElem? (i := 1) rfl)) (hw _ (List.mem_of_getElem? (i := 2) rfl)) (hw _ (List.mem_of_getElem? (i := 3) rfl)) (by decide) (own_rm1 l Z a0 hw q1 h0) (W := 0) (by decide) (by decide) (g := (mkF m 1 #[.val (.long q1), .second, .unset, .unset] [(.long q1)])) rfl (by rw [hml]; rfl) (argsL := [(.long q1)]) (rest := []) (lenOf own_pd0 rfl) rfl rfl (by show 2 * 0 + _ ≤ _; exact Nat.le_of_eq rfl) (hb hby at_1) e0 (by decide) (by decide)
  obtain ⟨rfl, rfl, eh1⟩ := hQ1
  have e1 := e1.trans eh1
  rw [List.append_nil] at X1
  refine own_go (U' := T1.setTop (mkF m 4 #[.val (.long q1), .second, .unset, .unset] [(.long (own_mix q1))])) st1 ?_
  refine own_go (U' := T1.setTop (mkF m 5 #[.val (.long q1), .second, .val (.long (own_mix q1)), .second] [])) (fun t k => XS.lstoreN X1.here hx rfl (hb hby at_4) rfl (l' := #[.val (.long q1), .second, .val (.long (own_mix q1)), .second]) rfl k) ?_
  refine own_go (U' := T1.setTop (mkF m 6 #[.val (.long q1), .second, .val (.long (own_mix q1)), .second] [(.long (own_mix q1))])) (fun t k => XS.lloadN X1.here hx rfl (hb hby at_5) rfl k) ?_
  obtain ⟨v2, T2, h2, L2, e2, X2, hQ2, st2⟩ := own_callS X1 hx hZ (y := (⟨"com/example/minwise/minwise/service/MinHasherMixPinLaw", "unmix", "(J)J"⟩ : MethodName)) hown (hw _ (List.mem_of_getElem? (i := 6) rfl)) (hw _ (List.mem_of_getElem? (i := 7) rfl)) (hw _ (List.mem_of_getElem? (i := 8) rfl)) (hw _ (List.mem_of_getElem? (i := 9) rfl)) (by decide) (own_rm2 l Z a0 hw (own_mix q1) h0) (W := 0) (by decide) (by decide) (g := (mkF m 6 #[.val (.long q1), .second, .val (.long (own_mix q1)), .second] [(.long (own_mix q1))])) rfl (by rw [hml]; rfl) (argsL := [(.long (own_mix q1))]) (rest := []) (lenOf own_pd0 rfl) rfl rfl (by show 2 * 0 + _ ≤ _; exact Nat.le_of_eq rfl) (hb hby at_6) e1 (by decide) (by decide)
  obtain ⟨rfl, rfl, eh2⟩ := hQ2
  have e2 := e2.trans eh2
  rw [List.append_nil] at X2
  refine own_go (U' := T2.setTop (mkF m 9 #[.val (.long q1), .second, .val (.long (own_mix q1)), .second] [(.long (own_unmix (own_mix q1)))])) st2 ?_
  refine own_go (U' := T2.setTop (mkF m 10 #[.val (.long q1), .second, .val (.long (own_mix q1)), .second] [(.long q1), (.long (own_unmix (own_mix q1)))])) (fun t k => XS.lloadN X2.here hx rfl (hb hby at_9) rfl k) ?_
  refine own_go (U' := T2.setTop (mkF m 11 #[.val (.long q1), .second, .val (.long (own_mix q1)), .second] [(.int (lcmpW (own_unmix (own_mix q1)) q1))])) (fun t k => XS.lcmp X2.here hx rfl (hb hby at_10) rfl k) ?_
  refine own_go (U' := T2.setTop (mkF m 14 #[.val (.long q1), .second, .val (.long (own_mix q1)), .second] [])) (fun t k => XS.ifNo X2.here hx rfl (hb hby at_11) rfl ((if0 _ _).trans (teq ((lw_eq (own_unmix (own_mix q1)) q1).mpr (own_plain q1))).2) k) ?_
  refine own_go (U' := T2.setTop (mkF m 15 #[.val (.long q1), .second, .val (.long (own_mix q1)), .second] [(.int (1 : Int32))])) (fun t k => XS.iconst X2.here hx rfl (hb hby at_14) k) ?_
  refine own_go (U' := T2.setTop (mkF m 19 #[.val (.long q1), .second, .val (.long (own_mix q1)), .second] [(.int (1 : Int32))])) (fun t k => XS.goto X2.here hx rfl (pc0 := 15) (pc' := 19) rfl (hb hby at_15) (by decide) (by decide) k) ?_
  refine own_retN X2 hx (t := .boolean) hret (by simp) hlk (hb hby at_19) ?_ (by decide) (by decide)
  exact ⟨rfl, Fr.nil _⟩
set_option maxRecDepth 65536 in
set_option maxHeartbeats 40000000 in
theorem comes_1 {Post : Tables → Env → Array Value → State → Outcome → State → Prop} (hpost : ∀ tb e args s v u, (limb_1_1.after args s (.returned v) u = true ∧ limb_1_2.after args s (.returned v) u = true) → FrameEnd s (.returned v) u (Jvm.fieldLocs frame_1_writes args s ++ Jvm.arrayLocs frame_1_arrays args s ++ Jvm.staticLocs frame_1_statics s) 0 0 → Post tb e args s (.returned v) u) :
    ArmFor flags0 classFile x code maxLocals ret World_1 tables_1 room_1 Calls_1 rest_1 Pre_1 Post := by
  intro l hfl _ _ p e ha hc hk s m args below hf hA hF happ hP
  obtain ⟨hcalls, hrest, hpre⟩ := hP
  obtain ⟨-, -, -, hnamed, -, -, -, hat⟩ := (Spec.applies_iff hf).mp happ
  obtain ⟨hg, hn⟩ := and_e (Cond.before_iff.mp (show (Jvm.Cond.and given_1 narrow_1).before args s = true from hpre))
  obtain ⟨hcount, g0⟩ := and_e hg
  obtain ⟨w0, rfl⟩ : ∃ w0 : Value, args = #[w0] := by
    have hs : args.size = 1 := by simpa [Cond.value, given_1] using hcount
    obtain ⟨L⟩ := args
    match L, hs with
    | [w0], _ => exact ⟨w0, rfl⟩
  have hw := fun d (hd : d ∈ tables_1) => atoms_spec (ws := Jvm.Cond.code x code maxLocals ret :: tables_1) hat d (List.mem_cons_of_mem _ hd)
  have hfit : Fit s := fun {y c} hc i hi => by
    obtain ⟨ha, rfl⟩ := Array.getElem?_eq_some_iff.mp hc
    have q := List.all_eq_true.mp ((Array.all_eq_true_iff_forall_mem.mp hF) _ (Array.getElem_mem ha)) i (List.mem_range.mpr hi)
    simpa [Array.getElem?_eq_getElem hi] using q
  obtain ⟨i0, ei0⟩ := isL_v g0
  obtain rfl : w0 = (.long i0) := Option.some.inj ei0
  obtain ⟨n, o, h1, h2, h3, _, L, rfl, ⟨rfl, N⟩, hq⟩ := own_rm0 l s _ hw tables_1 i0 s.heap p e ha hc hk s m _ below hf ((Spec.applies_iff_loose hf).mp happ).1 ⟨rfl, State.Warmed39.refl s, rfl⟩ trivial
  refine ⟨n, _, h1, h2, h3, hpost _ _ _ _ _ _ ⟨Cond.after_iff.mpr rfl, Cond.after_iff.mpr (eq_i res_at (Term.int_eval (1)) rfl)⟩ ⟨hq.1, hq.2.1, (hq.2.2.sift fun y hy => Or.inr (N y hy)).mono (by decide) (by decide)⟩⟩
theorem main_1_1 : Claimed_1_1 := comes_1 fun _ _ _ _ _ _ h hF => ⟨h.1, hF⟩
theorem main_1_2 : Claimed_1_2 := comes_1 fun _ _ _ _ _ _ h hF => ⟨h.2, hF⟩
end Jvm.Pilot.@@N@@
namespace Jvm.Pilot.@@N@@
open Jvm Jvm.ClassFile Sem Op Lib Jvm.Free Jvm.Stand Jvm.Pilot.@@N@@.Jvm.D
/-! MADE BY PROGRAM (witnessworld.py) out of the Statement's table words and the real class files: 9 classes; the members and pool entries that the words name. The judged class is class 1, her method 3. -/
namespace start1
open Jvm.ClassFile
def u (s : String) : CpInfo := .utf8 (stringToUtf16 s)
/-- a pool by its gaps: so many unusable entries, then the entry; so many at the end -/
def gap : Nat → List CpInfo → List CpInfo
  | 0, r => r
  | n + 1, r => .unusable :: gap n r
def poolList (es : List (Nat × CpInfo)) (last : Nat) : List CpInfo := es.foldr (fun e r => gap e.1 (e.2 :: r)) (gap last [])
def pool (es : List (Nat × CpInfo)) (last : Nat) : Array CpInfo := ⟨poolList es last⟩
def fileOf (pool : Array CpInfo) (this : Nat) (attrs : Array Attribute := #[]) (ms : Array MethodInfo := #[]) (fl : Nat := 33) (sup : Nat := 0) (ifs : Array Nat := #[]) (fds : Array FieldInfo := #[]) : ClassFile where
  minorVersion := 0
  majorVersion := 65
  constantPool := pool
  accessFlags := fl
  thisClass := this
  superClass := sup
  interfaces := ifs
  fields := fds
  methods := ms
  attributes := attrs
def plain (name : String) (sup : Option ClassId) : Class where
  name := name
  kind := .ordinary
  loader := none
  accessFlags := 33
  super := sup
  interfaces := #[]
  cf := none
  fields := #[]
  methods := #[]
  instanceTypes := #[]
  staticTypes := #[]
  resolved := #[]
  callSites := []
  init := .initialized
  statics := none
  mirror := none

def pool0 : Array CpInfo := pool [(5, u "<init>"), (0, u "()V"), (1, .class_ 10), (1, u "java/lang/Object")] 113

def k0m0 : Method := { name := "<init>", desc := "()V", sig := { parameters := [], returnType := none }, accessFlags := 1, code := none }
/-- java/lang/Object -/
def k0 : Class := { plain "java/lang/Object" none with
  accessFlags := 33
  interfaces := #[]
  cf := some (fileOf pool0 8 #[] #[{ accessFlags := 1, nameIndex := 5, descriptorIndex := 6, attributes := #[] }] 33 0 #[] #[])
  fields := #[]
  methods := #[k0m0]
  instanceTypes := #[]
  staticTypes := #[]
  resolved := Array.replicate 124 none
  statics := none }

def pool1 : Array CpInfo := pool [(2, .class_ 4), (1, u "java/lang/Object"), (0, u "<init>"), (0, u "()V"), (0, .long 2), (1, .long 10723151780598845931), (1, .methodref 12 13), (0, .class_ 14), (0, .nameAndType 15 16), (0, u "com/example/minwise/minwise/service/MinHasherMixPinLaw"), (0, u "inverse"), (0, u "(J)J"), (0, .long 13787848793156543929), (1, .methodref 20 21), (0, .class_ 22), (0, .nameAndType 23 16), (0, u "com/example/minwise/minwise/service/MinHasher"), (0, u "mix"), (0, .methodref 12 25), (0, .nameAndType 26 16), (0, u "unmix"), (2, u "law"), (0, u "(J)Z")] 3

def k1m0 : Method := { name := "<init>", desc := "()V", sig := { parameters := [], returnType := none }, accessFlags := 1, code := none }
def k1c1 : Code := { maxStack := 8, maxLocals := 4, code := method_2_code, exceptionTable := #[], attributes := #[] }
def k1m1 : Method := { name := "inverse", desc := "(J)J", sig := { parameters := [.long], returnType := some .long }, accessFlags := 10, code := some k1c1 }
def k1c2 : Code := { maxStack := 5, maxLocals := 2, code := method_3_code, exceptionTable := #[], attributes := #[] }
def k1m2 : Method := { name := "unmix", desc := "(J)J", sig := { parameters := [.long], returnType := some .long }, accessFlags := 10, code := some k1c2 }
def k1c3 : Code := { maxStack := 4, maxLocals := 4, code := code, exceptionTable := #[], attributes := #[] }
def k1m3 : Method := { name := "law", desc := "(J)Z", sig := { parameters := [.long], returnType := some .boolean }, accessFlags := 9, code := some k1c3 }
/-- com/example/minwise/minwise/service/MinHasherMixPinLaw -/
def k1 : Class := { plain "com/example/minwise/minwise/service/MinHasherMixPinLaw" (some 0) with
  accessFlags := 49
  interfaces := #[]
  cf := some (fileOf pool1 12 #[] #[{ accessFlags := 1, nameIndex := 5, descriptorIndex := 6, attributes := #[] }, { accessFlags := 10, nameIndex := 15, descriptorIndex := 16, attributes := #[] }, { accessFlags := 10, nameIndex := 26, descriptorIndex := 16, attributes := #[] }, { accessFlags := 9, nameIndex := 29, descriptorIndex := 30, attributes := #[] }] 49 2 #[] #[])
  fields := #[]
  methods := #[k1m0, k1m1, k1m2, k1m3]
  instanceTypes := #[]
  staticTypes := #[]
  resolved := Array.replicate 34 none
  statics := none }

def pool2 : Array CpInfo := pool [(2, .class_ 4), (1, u "java/lang/Object"), (3, .class_ 10), (1, u "com/example/minwise/minwise/service/MinHasher"), (4, u "seed"), (0, u "J"), (2, u "keys"), (0, u "[J"), (2, u "mix"), (0, u "(J)J"), (93, .long 13787848793156543929), (1, .long 10723151780598845931), (1, u "MAX_HASHES"), (0, u "I"), (1, u "FNV_OFFSET_BASIS"), (0, u "FNV_PRIME"), (0, u "GOLDEN_GAMMA")] 28

def k2c0 : Code := { maxStack := 5, maxLocals := 4, code := prog_42_method_11_code, exceptionTable := #[], attributes := #[] }
def k2m0 : Method := { name := "mix", desc := "(J)J", sig := { parameters := [.long], returnType := some .long }, accessFlags := 8, code := some k2c0 }
/-- com/example/minwise/minwise/service/MinHasher -/
def k2 : Class := { plain "com/example/minwise/minwise/service/MinHasher" (some 0) with
  accessFlags := 49
  interfaces := #[]
  cf := some (fileOf pool2 8 #[] #[{ accessFlags := 8, nameIndex := 23, descriptorIndex := 24, attributes := #[] }] 49 2 #[] #[{ accessFlags := 25, nameIndex := 122, descriptorIndex := 123, attributes := #[] }, { accessFlags := 24, nameIndex := 125, descriptorIndex := 16, attributes := #[] }, { accessFlags := 26, nameIndex := 126, descriptorIndex := 16, attributes := #[] }, { accessFlags := 26, nameIndex := 127, descriptorIndex := 16, attributes := #[] }, { accessFlags := 18, nameIndex := 15, descriptorIndex := 16, attributes := #[] }, { accessFlags := 18, nameIndex := 19, descriptorIndex := 20, attributes := #[] }])
  fields := #[{ name := "MAX_HASHES", type := .int, accessFlags := 25, slot := 0, constantValue := 0 }, { name := "FNV_OFFSET_BASIS", type := .long, accessFlags := 24, slot := 1, constantValue := 0 }, { name := "FNV_PRIME", type := .long, accessFlags := 26, slot := 2, constantValue := 0 }, { name := "GOLDEN_GAMMA", type := .long, accessFlags := 26, slot := 3, constantValue := 0 }, { name := "seed", type := .long, accessFlags := 18, slot := 0, constantValue := 0 }, { name := "keys", type := (.array .long), accessFlags := 18, slot := 1, constantValue := 0 }]
  methods := #[k2m0]
  instanceTypes := #[.long, (.array .long)]
  staticTypes := #[.int, .long, .long, .long]
  resolved := Array.replicate 156 none
  statics := none }

def pool3 : Array CpInfo := pool [(1, u "java/lang/Cloneable"), (0, .class_ 1), (0, u "java/lang/Object"), (0, .class_ 3)] 3

/-- java/lang/Cloneable -/
def k3 : Class := { plain "java/lang/Cloneable" (some 0) with
  accessFlags := 1537
  interfaces := #[]
  cf := some (fileOf pool3 2 #[] #[] 1537 4 #[] #[])
  fields := #[]
  methods := #[]
  instanceTypes := #[]
  staticTypes := #[]
  resolved := Array.replicate 8 none
  statics := none }

def pool4 : Array CpInfo := pool [(1, u "java/io/Serializable"), (0, .class_ 1), (0, u "java/lang/Object"), (0, .class_ 3)] 3

/-- java/io/Serializable -/
def k4 : Class := { plain "java/io/Serializable" (some 0) with
  accessFlags := 1537
  interfaces := #[]
  cf := some (fileOf pool4 2 #[] #[] 1537 4 #[] #[])
  fields := #[]
  methods := #[]
  instanceTypes := #[]
  staticTypes := #[]
  resolved := Array.replicate 8 none
  statics := none }

/-- the primitive byte -/
def k5 : Class := { plain "byte" none with kind := .primitive 'B', accessFlags := 0x411 }
/-- [B -/
def k6 : Class := { plain "[B" (some 0) with kind := .array 5 .byte, interfaces := #[3, 4], accessFlags := 1041 }

/-- the primitive int -/
def k7 : Class := { plain "int" none with kind := .primitive 'I', accessFlags := 0x411 }
/-- [I -/
def k8 : Class := { plain "[I" (some 0) with kind := .array 7 .int, interfaces := #[3, 4], accessFlags := 1041 }

def heap : Heap := #[]
def classes : Array Class := #[k0, k1, k2, k3, k4, k5, k6, k7, k8]
def interned : List (Array UInt16 × Addr) := []
def slotsUsed : Nat := 0
def theMethod : MethodId := ⟨1, 3⟩
def args0 : Array Value := #[.long 5]
def aboutOver (below : List Frame) : State where
  vm := { classes := classes, interned := interned.toArray }
  heap := heap
  slotsUsed := slotsUsed
  threads := #[{ frames := .invoking theMethod args0 :: below }]
def below0 : List Frame := [.native { method := ⟨0, 0⟩, args := #[] }]
def about1 : State := aboutOver below0
def p0 : Program := .bare "" "" ""
def e0 : Env := launch0.env 0 0 0
theorem w_frames : about1.frames = Frame.invoking theMethod args0 :: below0 := rfl
set_option maxRecDepth 65536 in
theorem w_args : argsFit about1.vm theMethod args0 = true := by decide +kernel
set_option maxRecDepth 65536 in
theorem w_heap : heapFits about1 = true := by decide +kernel
set_option maxRecDepth 65536 in
theorem w_runnable : about1.curStatus? = some .runnable := by decide +kernel
set_option maxRecDepth 65536 in
theorem w_alone : about1.alone = true := by decide +kernel
set_option maxRecDepth 65536 in
theorem w_named : about1.methodNamed? x = some theMethod := by decide +kernel
set_option maxRecDepth 65536 in
theorem w_hears : about1.hears theMethod below0 = true := by decide +kernel
set_option maxRecDepth 65536 in
theorem w_ripe : about1.ripe theMethod args0 below0 = true := by decide +kernel
theorem w_running : about1.status = .running := rfl
set_option maxRecDepth 65536 in
theorem w_room : about1.hasRoom e0.platform room_1 = true :=
  launch0.hasRoom_least _ room_1 (by decide +kernel) (by decide +kernel) (by decide +kernel) (by decide +kernel) (by decide +kernel) (by decide +kernel)
theorem allAtoms_all (ts : List Jvm.Cond) (a : Array Jvm.Value) (st : Jvm.State) : (allAtoms ts).before a st = ts.all (fun c => c.before a st) := by
  induction ts with
  | nil => rfl
  | cons c t ih =>
    show (Jvm.Cond.and c (allAtoms t)).before a st = _
    rw [Jvm.Cond.before_and, ih, List.all_cons]
def words1 : List Jvm.Cond := Jvm.Cond.code x code maxLocals ret :: tables_1
/-- a 'code' word, met by the world's own term for the bytes: nothing is compared byte by byte -/
theorem code_word {y : MethodName} {bytes : ByteArray} {mx : Nat} {rt : Option FieldType} {a : Array Value} {s : State} {m : MethodId} {meth : Method} {c : Code} (h1 : s.methodNamed? y = some m) (h2 : s.vm.method? m = some meth) (h3 : meth.code = some c) (h4 : c.code = bytes)
    (h5 : (c.maxLocals == mx && c.exceptionTable.isEmpty && decide (c.maxStack ≤ mostOperands) && decide (meth.sig.returnType = rt) && !meth.locks && decide (parseMethodDescriptor y.desc = some meth.sig)) = true) : (Jvm.Cond.code y bytes mx rt).before a s = true := by
  simp only [Bool.and_eq_true, beq_iff_eq, Bool.not_eq_true', decide_eq_true_eq] at h5
  obtain ⟨⟨⟨⟨⟨g1, g2⟩, g3⟩, g4⟩, g5⟩, g6⟩ := h5
  simp [Cond.before, Cond.holds, Cond.value, h1, h2, h3, h4, g1, g2, g3, g4, g5, g6]
def isCode : Jvm.Cond → Bool
  | .code _ _ _ _ => true
  | _ => false
theorem all_split {L : List Jvm.Cond} {P : Jvm.Cond → Bool} (h1 : L.all (fun c => isCode c || P c) = true) (h2 : ∀ c ∈ L.filter isCode, P c = true) : L.all P = true := by
  refine List.all_eq_true.mpr fun c hc => ?_
  have h := List.all_eq_true.mp h1 c hc
  rcases Bool.eq_false_or_eq_true (isCode c) with hi | hi
  · exact h2 c (List.mem_filter.mpr ⟨hc, hi⟩)
  · simpa [hi] using h
set_option maxRecDepth 65536 in
theorem w_c0 : (Jvm.Cond.code x code maxLocals ret).before args0 about1 = true := code_word (m := ⟨1, 3⟩) (meth := k1m3) (c := k1c3) (by decide +kernel) rfl rfl rfl (by decide +kernel)
set_option maxRecDepth 65536 in
theorem w_c1 : (Jvm.Cond.code ({ cls := "com/example/minwise/minwise/service/MinHasher", name := "mix", desc := "(J)J" } : Jvm.MethodName) prog_42_method_11_code (4 : Nat) (Option.some Jvm.ClassFile.FieldType.long)).before args0 about1 = true := code_word (m := ⟨2, 0⟩) (meth := k2m0) (c := k2c0) (by decide +kernel) rfl rfl rfl (by decide +kernel)
set_option maxRecDepth 65536 in
theorem w_c2 : (Jvm.Cond.code ({ cls := "com/example/minwise/minwise/service/MinHasherMixPinLaw", name := "unmix", desc := "(J)J" } : Jvm.MethodName) method_3_code (2 : Nat) (Option.some Jvm.ClassFile.FieldType.long)).before args0 about1 = true := code_word (m := ⟨1, 2⟩) (meth := k1m2) (c := k1c2) (by decide +kernel) rfl rfl rfl (by decide +kernel)
set_option maxRecDepth 65536 in
theorem w_c3 : (Jvm.Cond.code ({ cls := "com/example/minwise/minwise/service/MinHasherMixPinLaw", name := "inverse", desc := "(J)J" } : Jvm.MethodName) method_2_code (4 : Nat) (Option.some Jvm.ClassFile.FieldType.long)).before args0 about1 = true := code_word (m := ⟨1, 1⟩) (meth := k1m1) (c := k1c1) (by decide +kernel) rfl rfl rfl (by decide +kernel)
def codes1 : List Jvm.Cond := [Jvm.Cond.code x code maxLocals ret, Jvm.Cond.code ({ cls := "com/example/minwise/minwise/service/MinHasher", name := "mix", desc := "(J)J" } : Jvm.MethodName) prog_42_method_11_code (4 : Nat) (Option.some Jvm.ClassFile.FieldType.long), Jvm.Cond.code ({ cls := "com/example/minwise/minwise/service/MinHasherMixPinLaw", name := "unmix", desc := "(J)J" } : Jvm.MethodName) method_3_code (2 : Nat) (Option.some Jvm.ClassFile.FieldType.long), Jvm.Cond.code ({ cls := "com/example/minwise/minwise/service/MinHasherMixPinLaw", name := "inverse", desc := "(J)J" } : Jvm.MethodName) method_2_code (4 : Nat) (Option.some Jvm.ClassFile.FieldType.long)]
set_option maxRecDepth 65536 in
theorem codes_eq : words1.filter isCode = codes1 := rfl
theorem w_codes : ∀ c ∈ words1.filter isCode, c.before args0 about1 = true := by
  rw [codes_eq]
  intro c hc
  simp only [codes1, List.mem_cons, List.not_mem_nil, or_false] at hc
  rcases hc with rfl | rfl | rfl | rfl
  · exact w_c0
  · exact w_c1
  · exact w_c2
  · exact w_c3
set_option maxRecDepth 65536 in
theorem w_t1 : words1.all (fun c => isCode c || c.before args0 about1) = true := by decide +kernel
theorem w_tables : (allAtoms (Jvm.Cond.code x code maxLocals ret :: tables_1)).before args0 about1 = true := by
  rw [allAtoms_all]
  show words1.all (fun c => c.before args0 about1) = true
  refine all_split ?_ w_codes
  rw [w_t1]
set_option maxRecDepth 65536 in
theorem w_case : (Jvm.Cond.and given_1 narrow_1).before args0 about1 = true := by decide +kernel
theorem w_applies : (headSpec (Jvm.Cond.code x code maxLocals ret :: tables_1) room_1).applies x e0.platform about1 = true :=
  (Spec.applies_iff w_frames).mpr ⟨w_running, w_runnable, w_alone, w_named, w_hears, w_ripe, w_room, w_tables⟩
theorem atStart : AtStart classFile x code maxLocals ret World_1 tables_1 room_1 Calls_1 rest_1 Pre_1 launch0 p0 e0 about1 theMethod args0 below0 :=
  ⟨lists_1, trivial, launch0.admits_env _ _ _, launch0.least_env, fairChoices_fair.cas, fairChoices_fair.clock, w_frames, w_args, w_heap, w_applies, trivial, trivial, w_case⟩
end start1
theorem witness_1 : WitnessClaimed_1 := ⟨start1.p0, start1.e0, start1.about1, start1.theMethod, start1.args0, start1.below0, start1.atStart⟩
end Jvm.Pilot.@@N@@
