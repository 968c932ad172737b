import JvmDerived
import JvmDerived.Pilot.@@N@@Statement
import JvmDerived.Pilot.@@N@@Code
set_option linter.unusedVariables false
set_option linter.unusedSimpArgs false
namespace Jvm.Pilot.@@N@@
open Jvm Jvm.ClassFile Sem Op Lib Jvm.Free Jvm.Stand Jvm.LawKit Jvm.RoadKit Bundle Jvm.Pilot.@@N@@.Jvm.D
/-! own_: the walk's goal in one piece (from this state on the body returns, and what it leaves says Q), its steps, its ends, its calls -/
theorem own_succ (k : Nat) : Int32.ofNat (k + 1) = Int32.ofNat k + 1 := (Int32.ofNat_succ k).symm
section OwnKit
variable {p : Program} {l : Launch} {e : Env} {R : Room} {s : State} {m : MethodId} {args : Array Value} {below : List Frame} {meth : Method} {c : Code} {T : State} {locs : List Loc} {cells slots : Nat} {Z : State} {a0 : Array Value} {h : Heap}
def own_Fin (p : Program) (e : Env) (below : List Frame) (s : State) (Q : Option Value → Heap → List Loc → Prop) (k n : Nat) (U : State) : Prop :=
  ∃ (s₂ : State) (o : Outcome), Steps p.tables e below U s₂ ∧ s₂.status = .running ∧ Ended s₂ below o ∧ ∃ v L, o = .returned v ∧ Q v s₂.heap L ∧ FrameEnd s o s₂ L k n
variable {Q : Option Value → Heap → List Loc → Prop} {k n : Nat}
theorem own_go {U U' : State} (st : ∀ t, Steps p.tables e below U' t → Steps p.tables e below U t) (F : own_Fin p e below s Q k n U') : own_Fin p e below s Q k n U := by
  obtain ⟨s2, o, h1, h2⟩ := F
  exact ⟨s2, o, st _ h1, h2⟩
theorem own_ret (X : Stand p l e R s m args below meth c T locs cells slots) (hx : p.tables.exec = Jvm.exec) {t : FieldType} (hret : meth.sig.returnType = some t) (hlk : meth.locks = false) {pc : Nat} {Ls : Array Slot} {w : Value} {i : Instr} {rest : List Value} (hn : narrow t w = w)
    (hi : (i = .ireturn ∧ (t = .int ∨ t = .boolean ∨ t = .byte ∨ t = .char ∨ t = .short) ∧ ∃ z, w = .int z) ∨ (i = .lreturn ∧ t = .long ∧ ∃ z, w = .long z) ∨ (i = .dreturn ∧ t = .double ∧ ∃ z, w = .double z) ∨ (i = .freturn ∧ t = .float ∧ ∃ z, w = .float z) ∨ (i = .areturn ∧ t.isReference = true ∧ w.isRef = true))
    (hd : decode c.code pc = .ok (i, 1)) (hQ : Q (some w) T.heap locs) (hc : cells ≤ k) (hs : slots ≤ n) : own_Fin p e below s Q k n (T.setTop (mkF m pc Ls (w :: rest))) := by
  obtain ⟨fs, hr, hrun, hended, hW, hsame⟩ := X.leave (v := some w) (fun h => by rw [hret] at h; cases h) hlk
  exact ⟨_, _, retOut X hx hret hn hi hd hr, hrun, hended, _, _, rfl, hQ, ⟨_, rfl⟩, hW, hsame.mono hc hs⟩
theorem own_retI (X : Stand p l e R s m args below meth c T locs cells slots) (hx : p.tables.exec = Jvm.exec) (hret : meth.sig.returnType = some .int) (hlk : meth.locks = false) {pc : Nat} {Ls : Array Slot} {z : Int32} {rest : List Value}
    (hd : decode c.code pc = .ok (.ireturn, 1)) (hQ : Q (some (.int z)) T.heap locs) (hc : cells ≤ k) (hs : slots ≤ n) : own_Fin p e below s Q k n (T.setTop (mkF m pc Ls (.int z :: rest))) :=
  own_ret X hx hret hlk rfl (Or.inl ⟨rfl, Or.inl rfl, z, rfl⟩) hd hQ hc hs
theorem own_retN (X : Stand p l e R s m args below meth c T locs cells slots) (hx : p.tables.exec = Jvm.exec) {t : FieldType} (hret : meth.sig.returnType = some t) (ht : t = .boolean ∨ t = .byte ∨ t = .char ∨ t = .short) (hlk : meth.locks = false) {pc : Nat} {Ls : Array Slot} {z : Int32} {rest : List Value}
    (hd : decode c.code pc = .ok (.ireturn, 1)) (hQ : Q (some (.int (nar t z))) T.heap locs) (hc : cells ≤ k) (hs : slots ≤ n) : own_Fin p e below s Q k n (T.setTop (mkF m pc Ls (.int z :: rest))) := by
  obtain ⟨fs, hr, hrun, hended, hW, hsame⟩ := X.leave (v := some (.int (nar t z))) (fun h => by rw [hret] at h; cases h) hlk
  exact ⟨_, _, retN X hx hret ht hd hr, hrun, hended, _, _, rfl, hQ, ⟨_, rfl⟩, hW, hsame.mono hc hs⟩
theorem own_retL (X : Stand p l e R s m args below meth c T locs cells slots) (hx : p.tables.exec = Jvm.exec) (hret : meth.sig.returnType = some .long) (hlk : meth.locks = false) {pc : Nat} {Ls : Array Slot} {z : Int64} {rest : List Value}
    (hd : decode c.code pc = .ok (.lreturn, 1)) (hQ : Q (some (.long z)) T.heap locs) (hc : cells ≤ k) (hs : slots ≤ n) : own_Fin p e below s Q k n (T.setTop (mkF m pc Ls (.long z :: rest))) :=
  own_ret X hx hret hlk rfl (Or.inr (Or.inl ⟨rfl, rfl, z, rfl⟩)) hd hQ hc hs
theorem own_retA (X : Stand p l e R s m args below meth c T locs cells slots) (hx : p.tables.exec = Jvm.exec) {t : FieldType} (hret : meth.sig.returnType = some t) (ht : t.isReference = true) (hlk : meth.locks = false) {pc : Nat} {Ls : Array Slot} {w : Value} {rest : List Value} (hw : w.isRef = true)
    (hd : decode c.code pc = .ok (.areturn, 1)) (hQ : Q (some w) T.heap locs) (hc : cells ≤ k) (hs : slots ≤ n) : own_Fin p e below s Q k n (T.setTop (mkF m pc Ls (w :: rest))) :=
  own_ret X hx hret hlk (by rcases ref_cases hw with rfl | ⟨z, rfl⟩ <;> cases t <;> rfl) (Or.inr (Or.inr (Or.inr (Or.inr ⟨rfl, ht, hw⟩)))) hd hQ hc hs
theorem own_retV (X : Stand p l e R s m args below meth c T locs cells slots) (hx : p.tables.exec = Jvm.exec) (hret : meth.sig.returnType = none) (hlk : meth.locks = false) {pc : Nat} {Ls : Array Slot}
    (hd : decode c.code pc = .ok (.return_, 1)) (hQ : Q none T.heap locs) (hc : cells ≤ k) (hs : slots ≤ n) : own_Fin p e below s Q k n (T.setTop (mkF m pc Ls [])) := by
  obtain ⟨fs, hr, hrun, hended, hW, hsame⟩ := X.leave (v := none) (fun _ => rfl) hlk
  exact ⟨_, _, X.returnOut hx hret hd hr, hrun, hended, _, _, rfl, hQ, ⟨_, rfl⟩, hW, hsame.mono hc hs⟩
/-- a body's contract: called with these arguments at this heap it returns, and what it leaves says Q -/
abbrev own_C (l : Launch) (Z : State) (y : MethodName) (bytes : ByteArray) (maxL : Nat) (ret : Option FieldType) (ws : List Jvm.Cond) (rm : Room) (as' : Array Value) (h0 : Heap) (Q : Option Value → Heap → List Loc → Prop) : Prop :=
  MetFree l y (head1 (Jvm.Cond.code y bytes maxL ret :: ws) rm) (fun a U => a = as' ∧ Z.Warmed39 U.vm ∧ U.heap = h0) (fun _ _ _ _ _ => True) (fun _ U o U' => ∃ v L, o = .returned v ∧ Q v U'.heap L ∧ FrameEnd U o U' L rm.cells rm.slots)
theorem own_body {y : MethodName} {bytes : ByteArray} {maxL : Nat} {ret : Option FieldType} {ws : List Jvm.Cond} {rm : Room} {as' : Array Value} {h0 : Heap} (hpn : plainFor y = true)
    (body : ∀ (p : Program) (e : Env) (s : State) (m : MethodId) (below : List Frame) (meth : Method) (c : Code) (s₁ : State), p.tables.exec = Jvm.exec → c.code = bytes → c.maxLocals = maxL → meth.sig.returnType = ret → meth.locks = false → s.vm.findClass y.cls = some m.cls → meth.name = y.name → Z.Warmed39 s.vm →
      Stand p l e rm s m as' below meth c s₁ [] 0 0 → s₁.heap = h0 → own_Fin p e below s Q rm.cells rm.slots (s₁.setTop (entryFrame m as' maxL))) : own_C l Z y bytes maxL ret ws rm as' h0 Q := by
  refine MetFree.of_bodySF hpn hisR ?_
  intro p e s m args below meth c s₁ Bd hml0 hP hK
  obtain ⟨rfl, hZ, hh⟩ := hP
  exact body p e s m below meth c s₁ Bd.exec Bd.bytes hml0 Bd.returns Bd.notSynchronized (findClass_of_methodNamed Bd.named) (name_of_methodNamed Bd.named Bd.method).1 hZ (Stand.of_body Bd) (by rw [← hh, Bd.state]; rfl)
theorem own_callS (X : Stand p l e R s m args below meth c T locs cells slots) (hx : p.tables.exec = Jvm.exec) (hZ : Z.Warmed39 s.vm) {own : String} {index : Nat} {y : MethodName} {bytes : ByteArray} {maxL : Nat} {ret : Option FieldType} (hown : s.vm.findClass own = some m.cls)
    (w1 : (Cond.methodLink own index y).before a0 Z = true) (w2 : (Cond.static y).before a0 Z = true) (w3 : (Cond.initialized y.cls).before a0 Z = true) (w4 : (Cond.code y bytes maxL ret).before a0 Z = true) (hy : y.cls ≠ "java/lang/invoke/MethodHandle" ∧ y.cls ≠ "java/lang/invoke/VarHandle")
    {rm : Room} {argsL rest : List Value} {as' : Array Value} (hM : own_C l Z y bytes maxL ret [] rm as' h Q) {W : Nat} (hf : rm.frames + 1 ≤ R.frames) (hl : W + (maxL + 11) + rm.locals ≤ R.locals) {g : JFrame} (hg : g.method = m) (hsize : g.locals.size = c.maxLocals)
    (hlen : ∀ sig, parseMethodDescriptor y.desc = some sig → argsL.length = sig.parameters.length) (hstack : g.stack = argsL.reverse ++ rest) (has : argsL.toArray = as') (hW : 2 * g.monitorRoom + (rest.map fun v => v.category).sum ≤ W) (hdg : decode c.code g.pc = .ok (.invokestatic index, 3)) (eT : T.heap = h)
    (hc : cells + rm.cells ≤ R.cells) (hs : slots + rm.slots ≤ R.slots) :
    ∃ (v : Option Value) (T' : State) (h' : Heap) (L : List Loc), T'.heap = h' ∧ Stand p l e R s m args below meth c T' (locs ++ L) (cells + rm.cells) (slots + rm.slots) ∧ Q v h' L ∧ ∀ target, Steps p.tables e below (T'.setTop { g with pc := g.pc + 3, stack := v.toList ++ rest }) target → Steps p.tables e below (T.setTop g) target := by
  obtain ⟨v, vm, ⟨T', L', k', n'⟩, -, X', ⟨Lc, hQ, l1, y1, z1⟩, st⟩ := Jvm.LawKit.callS X hx (y := y) hown (mvT hZ w1) (mvT hZ w2) (mvT hZ w3) (mvT hZ w4) hy (backOf (W := W) hM hZ w4 w3 hf hl) hg hsize hlen hstack hW hdg (fun _ _ => ⟨has, eT, hc, hs⟩)
  dsimp only [Pt.U, Pt.locs, Pt.cells, Pt.slots] at X' l1 y1 z1 st hQ
  subst l1 y1 z1
  exact ⟨v, T', _, Lc, rfl, X', hQ, st⟩
theorem own_callC (X : Stand p l e R s m args below meth c T locs cells slots) (hx : p.tables.exec = Jvm.exec) (hZ : Z.Warmed39 s.vm) {own : String} {index : Nat} {y : MethodName} {bytes : ByteArray} {maxL : Nat} (hy1 : y.name = "<init>") (hown : s.vm.findClass own = some m.cls)
    (w1 : (Cond.methodLink own index y).before a0 Z = true) (w2 : (Cond.instanceMethod y).before a0 Z = true) (w3 : (Cond.initialized y.cls).before a0 Z = true) (w4 : (Cond.code y bytes maxL none).before a0 Z = true) (hy : y.cls ≠ "java/lang/invoke/MethodHandle" ∧ y.cls ≠ "java/lang/invoke/VarHandle")
    {rm : Room} {a : Addr} {argsL rest : List Value} {as' : Array Value} (hM : own_C l Z y bytes maxL none [] rm as' h Q) {W : Nat} (hf : rm.frames + 1 ≤ R.frames) (hl : W + (maxL + 11) + rm.locals ≤ R.locals) {g : JFrame} (hg : g.method = m) (hsize : g.locals.size = c.maxLocals)
    (hlen : ∀ sig, parseMethodDescriptor y.desc = some sig → argsL.length = sig.parameters.length) (hstack : g.stack = argsL.reverse ++ .ref a :: rest) (has : (.ref a :: argsL).toArray = as') (hW : 2 * g.monitorRoom + (rest.map fun v => v.category).sum ≤ W) (hdg : decode c.code g.pc = .ok (.invokespecial index, 3)) (eT : T.heap = h)
    (hc : cells + rm.cells ≤ R.cells) (hs : slots + rm.slots ≤ R.slots) :
    ∃ (v : Option Value) (T' : State) (h' : Heap) (L : List Loc), T'.heap = h' ∧ Stand p l e R s m args below meth c T' (locs ++ L) (cells + rm.cells) (slots + rm.slots) ∧ Q v h' L ∧ ∀ target, Steps p.tables e below (T'.setTop { g with pc := g.pc + 3, stack := v.toList ++ rest }) target → Steps p.tables e below (T.setTop g) target := by
  obtain ⟨v, vm, ⟨T', L', k', n'⟩, -, X', ⟨Lc, hQ, l1, y1, z1⟩, st⟩ := X.specialBack hx (y := y) hy1 hown (mvT hZ w1) (mvT hZ w2) (mvT hZ w4) hy (backOf (W := W) hM hZ w4 w3 hf hl) hg hsize (Steps.refl _) hlen hstack hW hdg (fun _ _ => ⟨has, eT, hc, hs⟩)
  dsimp only [Pt.U, Pt.locs, Pt.cells, Pt.slots] at X' l1 y1 z1 st hQ
  subst l1 y1 z1
  exact ⟨v, T', _, Lc, rfl, X', hQ, fun _ k => st.trans k⟩
theorem own_callV (X : Stand p l e R s m args below meth c T locs cells slots) (hx : p.tables.exec = Jvm.exec) (hZ : Z.Warmed39 s.vm) {own C : String} {index : Nat} {y z : MethodName} {bytes : ByteArray} {maxL : Nat} {ret : Option FieldType} (hown : s.vm.findClass own = some m.cls)
    (w1 : (Cond.methodLink own index y).before a0 Z = true) (w2 : (Cond.declares y).before a0 Z = true) (hnf : NotFace s y) (w5 : (Cond.selects C y z).before a0 Z = true) (w6 : (Cond.instanceMethod z).before a0 Z = true) (w3 : (Cond.initialized z.cls).before a0 Z = true) (w4 : (Cond.code z bytes maxL ret).before a0 Z = true) (hy : y.cls ≠ "java/lang/invoke/MethodHandle" ∧ y.cls ≠ "java/lang/invoke/VarHandle")
    {rm : Room} {a : Addr} (E : Exa Z h a C) {argsL rest : List Value} {as' : Array Value} (hM : own_C l Z z bytes maxL ret [] rm as' h Q) {W : Nat} (hf : rm.frames + 1 ≤ R.frames) (hl : W + (maxL + 11) + rm.locals ≤ R.locals) {g : JFrame} (hg : g.method = m) (hsize : g.locals.size = c.maxLocals)
    (hlen : ∀ sig, parseMethodDescriptor y.desc = some sig → argsL.length = sig.parameters.length) (hstack : g.stack = argsL.reverse ++ .ref a :: rest) (has : (.ref a :: argsL).toArray = as') (hW : 2 * g.monitorRoom + (rest.map fun v => v.category).sum ≤ W) (hdg : decode c.code g.pc = .ok (.invokevirtual index, 3)) (eT : T.heap = h)
    (hc : cells + rm.cells ≤ R.cells) (hs : slots + rm.slots ≤ R.slots) :
    ∃ (v : Option Value) (T' : State) (h' : Heap) (L : List Loc), T'.heap = h' ∧ Stand p l e R s m args below meth c T' (locs ++ L) (cells + rm.cells) (slots + rm.slots) ∧ Q v h' L ∧ ∀ target, Steps p.tables e below (T'.setTop { g with pc := g.pc + 3, stack := v.toList ++ rest }) target → Steps p.tables e below (T.setTop g) target := by
  obtain ⟨cq, kq, qa, qb, qc⟩ := isOf hZ eT E
  obtain ⟨v, vm, ⟨T', L', k', n'⟩, -, X', ⟨Lc, hQ, l1, y1, z1⟩, st⟩ := X.virtualBack hx (y := y) (z := z) hown (mvT hZ w1) (mvT hZ w2) hnf (mvT hZ w5) (mvT hZ w6) hy (backOf (W := W) hM hZ w4 w3 hf hl) qa qc hg hsize (Steps.refl _) hlen hstack hW hdg (fun _ _ => ⟨has, eT, hc, hs⟩)
  dsimp only [Pt.U, Pt.locs, Pt.cells, Pt.slots] at X' l1 y1 z1 st hQ
  subst l1 y1 z1
  exact ⟨v, T', _, Lc, rfl, X', hQ, fun _ k => st.trans k⟩
theorem own_callI (X : Stand p l e R s m args below meth c T locs cells slots) (hx : p.tables.exec = Jvm.exec) (hZ : Z.Warmed39 s.vm) {own C : String} {index count : Nat} {y z : MethodName} {bytes : ByteArray} {maxL : Nat} {ret : Option FieldType} (hown : s.vm.findClass own = some m.cls)
    (w1 : (Cond.methodLink own index y).before a0 Z = true) (w2 : (Cond.declares y).before a0 Z = true) (w7 : (Cond.interfaceMethod y.cls y.cls y.name y.desc).before args s = true) (w5 : (Cond.selects C y z).before a0 Z = true) (w6 : (Cond.instanceMethod z).before a0 Z = true) (w8 : (Cond.publicMethod z).before a0 Z = true)
    (w9 : (Cond.unhidden C y.name y.desc).before a0 Z = true) (w10 : (Cond.castable C y.cls).before a0 Z = true) (w3 : (Cond.initialized z.cls).before a0 Z = true) (w4 : (Cond.code z bytes maxL ret).before a0 Z = true) (hy : y.cls ≠ "java/lang/invoke/MethodHandle" ∧ y.cls ≠ "java/lang/invoke/VarHandle")
    {rm : Room} {a : Addr} (E : Exa Z h a C) {argsL rest : List Value} {as' : Array Value} (hM : own_C l Z z bytes maxL ret [] rm as' h Q) {W : Nat} (hf : rm.frames + 1 ≤ R.frames) (hl : W + (maxL + 11) + rm.locals ≤ R.locals) {g : JFrame} (hg : g.method = m) (hsize : g.locals.size = c.maxLocals)
    (hlen : ∀ sig, parseMethodDescriptor y.desc = some sig → argsL.length = sig.parameters.length) (hstack : g.stack = argsL.reverse ++ .ref a :: rest) (has : (.ref a :: argsL).toArray = as') (hW : 2 * g.monitorRoom + (rest.map fun v => v.category).sum ≤ W) (hdg : decode c.code g.pc = .ok (.invokeinterface index count, 5)) (eT : T.heap = h)
    (hc : cells + rm.cells ≤ R.cells) (hs : slots + rm.slots ≤ R.slots) :
    ∃ (v : Option Value) (T' : State) (h' : Heap) (L : List Loc), T'.heap = h' ∧ Stand p l e R s m args below meth c T' (locs ++ L) (cells + rm.cells) (slots + rm.slots) ∧ Q v h' L ∧ ∀ target, Steps p.tables e below (T'.setTop { g with pc := g.pc + 5, stack := v.toList ++ rest }) target → Steps p.tables e below (T.setTop g) target := by
  obtain ⟨cq, kq, qa, qb, qc⟩ := isOf hZ eT E
  obtain ⟨v, vm, ⟨T', L', k', n'⟩, -, X', ⟨Lc, hQ, l1, y1, z1⟩, st⟩ := X.interfaceBack hx (xi := y) (y := z) hown (mvT hZ w1) (mvT hZ w2) w7 (mvT hZ w5) (mvT hZ w6) (mvT hZ w8) (mvT hZ w9) (mvT hZ w10) hy (backOf (W := W) hM hZ w4 w3 hf hl) qa qb qc hg hsize (Steps.refl _) hlen hstack hW hdg (fun _ _ => ⟨has, eT, hc, hs⟩)
  dsimp only [Pt.U, Pt.locs, Pt.cells, Pt.slots] at X' l1 y1 z1 st hQ
  subst l1 y1 z1
  exact ⟨v, T', _, Lc, rfl, X', hQ, fun _ k => st.trans k⟩
theorem own_callP (X : Stand p l e R s m args below meth c T locs cells slots) (hx : p.tables.exec = Jvm.exec) (hZ : Z.Warmed39 s.vm) {own C : String} {index : Nat} {y : MethodName} {bytes : ByteArray} {maxL : Nat} {ret : Option FieldType} (hown : s.vm.findClass own = some m.cls)
    (w1 : (Cond.methodLink own index y).before a0 Z = true) (w6 : (Cond.instanceMethod y).before a0 Z = true) (w5 : (Cond.selects y.cls y y).before a0 Z = true) (w7 : (Cond.privateMethod y).before a0 Z = true) (w3 : (Cond.initialized y.cls).before a0 Z = true) (w4 : (Cond.code y bytes maxL ret).before a0 Z = true) (hy : y.cls ≠ "java/lang/invoke/MethodHandle" ∧ y.cls ≠ "java/lang/invoke/VarHandle")
    {rm : Room} {a : Addr} (E : Exa Z h a C) {argsL rest : List Value} {as' : Array Value} (hM : own_C l Z y bytes maxL ret [] rm as' h Q) {W : Nat} (hf : rm.frames + 1 ≤ R.frames) (hl : W + (maxL + 11) + rm.locals ≤ R.locals) {g : JFrame} (hg : g.method = m) (hsize : g.locals.size = c.maxLocals)
    (hlen : ∀ sig, parseMethodDescriptor y.desc = some sig → argsL.length = sig.parameters.length) (hstack : g.stack = argsL.reverse ++ .ref a :: rest) (has : (.ref a :: argsL).toArray = as') (hW : 2 * g.monitorRoom + (rest.map fun v => v.category).sum ≤ W) (hdg : decode c.code g.pc = .ok (.invokevirtual index, 3)) (eT : T.heap = h)
    (hc : cells + rm.cells ≤ R.cells) (hs : slots + rm.slots ≤ R.slots) :
    ∃ (v : Option Value) (T' : State) (h' : Heap) (L : List Loc), T'.heap = h' ∧ Stand p l e R s m args below meth c T' (locs ++ L) (cells + rm.cells) (slots + rm.slots) ∧ Q v h' L ∧ ∀ target, Steps p.tables e below (T'.setTop { g with pc := g.pc + 3, stack := v.toList ++ rest }) target → Steps p.tables e below (T.setTop g) target := by
  obtain ⟨cq, q, q'⟩ := E.cell
  obtain ⟨v, vm, ⟨T', L', k', n'⟩, -, X', ⟨Lc, hQ, l1, y1, z1⟩, st⟩ := X.privateBack hx (y := y) hown (mvT hZ w1) (mvT hZ w6) (mvT hZ w5) (Cond.privateMethod_at (mvP hZ w7 (args := #[]))) (mvT hZ w4) hy (backOf (W := W) hM hZ w4 w3 hf hl) hg hsize (Steps.refl _) (a := a) (by rw [eT]; exact q) q' hlen hstack hW hdg (fun _ _ => ⟨has, eT, hc, hs⟩)
  dsimp only [Pt.U, Pt.locs, Pt.cells, Pt.slots] at X' l1 y1 z1 st hQ
  subst l1 y1 z1
  exact ⟨v, T', _, Lc, rfl, X', hQ, fun _ k => st.trans k⟩
theorem own_lremM {g : JFrame} {target : State} (X : Stand p l e R s m args below meth c T locs cells slots) (hx : p.tables.exec = Jvm.exec) (hg : g.method = m) {x y : Int64} {rest : List Value} (hd : decode c.code g.pc = .ok (.lrem, 1)) (hs : g.stack = .long y :: .long x :: rest) (hy : y ≠ 0)
    (hr : Steps p.tables e below (T.setTop { g with pc := g.pc + 1, stack := .long (x % y) :: rest }) target) : Steps p.tables e below (T.setTop g) target :=
  XS.lrem X.here hx hg hd hs hy (by rw [lrem_mod]; exact hr)
theorem own_mono (X : Stand p l e R s m args below meth c T locs cells slots) {cells' slots' : Nat} (hc : cells ≤ cells') (hs : slots ≤ slots') : Stand p l e R s m args below meth c T locs cells' slots' :=
  ⟨X.admits, X.cas, X.clock, X.frames, X.room, X.hears, X.method, X.code, X.here, X.tail, X.warmed, X.limits, X.bytes, X.same.mono hc hs⟩
end OwnKit
def own_wc (k b : Int32) : Int32 := (((((k.toInt64 * b.toInt64) + (64 : Int64)) - (1 : Int64)) / (64 : Int64)).toInt32)
theorem own_K (h : Int32) : 0 ≤ (h &&& (2147483647 : Int32)).toInt ∧ (h &&& (2147483647 : Int32)).toInt ≤ 2147483647 := by
  have := c_mask h 2147483647 31 (by decide) (by decide)
  omega
theorem own_B (b : Int32) : 1 ≤ ((1 : Int32) + ((b &&& (2147483647 : Int32)) % (64 : Int32))).toInt ∧ ((1 : Int32) + ((b &&& (2147483647 : Int32)) % (64 : Int32))).toInt ≤ 64 := by
  have h1 := own_K b
  have h2 := (c_irem (b &&& (2147483647 : Int32)) 64 64 rfl).1 h1.1
  have h3 := c_iadd 1 ((b &&& (2147483647 : Int32)) % (64 : Int32))
  have h4 := rng32 ((1 : Int32) + ((b &&& (2147483647 : Int32)) % (64 : Int32)))
  have h5 : (1 : Int32).toInt = 1 := rfl
  omega
theorem own_plain (k b : Int32) (hk : 0 ≤ k.toInt ∧ k.toInt ≤ 2147483647) (hb : 1 ≤ b.toInt ∧ b.toInt ≤ 64) :
    ¬ own_wc k b < 0 ∧ ¬ ((own_wc k b).toInt64 * (64 : Int64)) < (k.toInt64 * b.toInt64) ∧ (((own_wc k b).toInt64 - (1 : Int64)) * (64 : Int64)) < (k.toInt64 * b.toInt64) := by
  have p1 : 0 ≤ k.toInt * b.toInt := Int.mul_nonneg hk.1 (by omega)
  have p2 : k.toInt * b.toInt ≤ 2147483647 * 64 := Int.mul_le_mul hk.2 hb.2 (by omega) (by omega)
  have m1 := c_lmul k.toInt64 b.toInt64
  rw [c_i2l, c_i2l] at m1
  have m1r := rng64 (k.toInt64 * b.toInt64)
  unfold own_wc
  generalize k.toInt * b.toInt = P at *
  generalize (k.toInt64 * b.toInt64) = p at *
  have a1 := c_ladd p 64
  have a1r := rng64 (p + 64)
  have a2 := c_lsub (p + 64) 1
  have a2r := rng64 (p + 64 - 1)
  have n64 : (64 : Int64).toInt = 64 := rfl
  have n1 : (1 : Int64).toInt = 1 := rfl
  have d1 := (c_ldiv (p + 64 - 1) 64 64 rfl (by decide)).1 (by omega)
  generalize ((p + 64 - 1) / 64) = q at *
  have i1 := c_l2i q
  have i1r := rng32 q.toInt32
  have i2 := c_i2l q.toInt32
  generalize q.toInt32 = w at *
  have u1 := c_lmul w.toInt64 64
  have u1r := rng64 (w.toInt64 * 64)
  have u2 := c_lsub w.toInt64 1
  have u2r := rng64 (w.toInt64 - 1)
  have u3 := c_lmul (w.toInt64 - 1) 64
  have u3r := rng64 ((w.toInt64 - 1) * 64)
  have n0 : (0 : Int32).toInt = 0 := rfl
  rw [n64] at u1 u3
  rw [Int32.lt_iff_toInt_lt, Int64.lt_iff_toInt_lt, Int64.lt_iff_toInt_lt]
  omega
theorem d1_0 : decode prog_35_method_12_code 0 = .ok (.iload_n 0, 1) := by decide +kernel
theorem d1_1 : decode prog_35_method_12_code 1 = .ok (.i2l, 1) := by decide +kernel
theorem d1_2 : decode prog_35_method_12_code 2 = .ok (.iload_n 1, 1) := by decide +kernel
theorem d1_3 : decode prog_35_method_12_code 3 = .ok (.i2l, 1) := by decide +kernel
theorem d1_4 : decode prog_35_method_12_code 4 = .ok (.lmul, 1) := by decide +kernel
theorem d1_5 : decode prog_35_method_12_code 5 = .ok (.ldc2_w 40, 3) := by decide +kernel
theorem d1_8 : decode prog_35_method_12_code 8 = .ok (.ladd, 1) := by decide +kernel
theorem d1_9 : decode prog_35_method_12_code 9 = .ok (.lconst 1, 1) := by decide +kernel
theorem d1_10 : decode prog_35_method_12_code 10 = .ok (.lsub, 1) := by decide +kernel
theorem d1_11 : decode prog_35_method_12_code 11 = .ok (.ldc2_w 40, 3) := by decide +kernel
theorem d1_14 : decode prog_35_method_12_code 14 = .ok (.ldiv, 1) := by decide +kernel
theorem d1_15 : decode prog_35_method_12_code 15 = .ok (.l2i, 1) := by decide +kernel
theorem d1_16 : decode prog_35_method_12_code 16 = .ok (.ireturn, 1) := by decide +kernel
theorem own_pn0 : plainName "com/example/minwise/minwise/model/BitSignature" = true := by first | (simp [plainName, overriddenIn]; done) | decide +kernel
theorem own_ef1 (m : MethodId) (p1 p2 : Int32) : entryFrame m #[(.int p1), (.int p2)] 2 = mkF m 0 #[.val (.int p1), .val (.int p2)] [] := by first | (simp [entryFrame, mkF, argsToLocals, Value.category]; done) | rfl
set_option maxRecDepth 65536 in
set_option maxHeartbeats 40000000 in
theorem own_rm1 (l : Launch) (Z : State) (a0 : Array Value) (hw : ∀ d ∈ tables_1, d.before a0 Z = true) (p1 p2 : Int32) (h0 : Heap)  :
    own_C l Z (⟨"com/example/minwise/minwise/model/BitSignature", "wordCount", "(II)I"⟩ : MethodName) prog_35_method_12_code 2 (some .int) [] ({ frames := 0, cells := 0, slots := 0, locals := 0 } : Room) #[(.int p1), (.int p2)] h0 (fun v h L => v = some (.int (own_wc p1 p2)) ∧ L = [] ∧ h = h0) := by
  refine own_body (plainFor_of_name own_pn0) fun p e s m below meth c s₁ hx hby hml hret hlk hown hnm hZ X0 e0 => ?_
  rw [own_ef1 m p1 p2]
  refine own_go (U' := s₁.setTop (mkF m 1 #[.val (.int p1), .val (.int p2)] [(.int p1)])) (fun t k => XS.iloadN X0.here hx rfl (hb hby d1_0) rfl k) ?_
  refine own_go (U' := s₁.setTop (mkF m 2 #[.val (.int p1), .val (.int p2)] [(.long (p1.toInt64))])) (fun t k => XS.i2l X0.here hx rfl (hb hby d1_1) rfl k) ?_
  refine own_go (U' := s₁.setTop (mkF m 3 #[.val (.int p1), .val (.int p2)] [(.int p2), (.long (p1.toInt64))])) (fun t k => XS.iloadN X0.here hx rfl (hb hby d1_2) rfl k) ?_
  refine own_go (U' := s₁.setTop (mkF m 4 #[.val (.int p1), .val (.int p2)] [(.long (p2.toInt64)), (.long (p1.toInt64))])) (fun t k => XS.i2l X0.here hx rfl (hb hby d1_3) rfl k) ?_
  refine own_go (U' := s₁.setTop (mkF m 5 #[.val (.int p1), .val (.int p2)] [(.long ((p1.toInt64) * (p2.toInt64)))])) (fun t k => XS.lmul X0.here hx rfl (hb hby d1_4) rfl k) ?_
  refine own_go (U' := s₁.setTop (mkF m 8 #[.val (.int p1), .val (.int p2)] [(.long (64 : Int64)), (.long ((p1.toInt64) * (p2.toInt64)))])) (fun t k => X0.ldc2Long hx hown (mvT hZ (hw _ (List.mem_of_getElem? (i := 5) rfl))) (g := (mkF m 5 #[.val (.int p1), .val (.int p2)] [(.long ((p1.toInt64) * (p2.toInt64)))])) rfl (hb hby d1_5) _ k) ?_
  refine own_go (U' := s₁.setTop (mkF m 9 #[.val (.int p1), .val (.int p2)] [(.long (((p1.toInt64) * (p2.toInt64)) + (64 : Int64)))])) (fun t k => XS.ladd X0.here hx rfl (hb hby d1_8) rfl k) ?_
  refine own_go (U' := s₁.setTop (mkF m 10 #[.val (.int p1), .val (.int p2)] [(.long (1 : Int64)), (.long (((p1.toInt64) * (p2.toInt64)) + (64 : Int64)))])) (fun t k => XS.lconst X0.here hx rfl (hb hby d1_9) k) ?_
  refine own_go (U' := s₁.setTop (mkF m 11 #[.val (.int p1), .val (.int p2)] [(.long ((((p1.toInt64) * (p2.toInt64)) + (64 : Int64)) - (1 : Int64)))])) (fun t k => XS.lsub X0.here hx rfl (hb hby d1_10) rfl k) ?_
  refine own_go (U' := s₁.setTop (mkF m 14 #[.val (.int p1), .val (.int p2)] [(.long (64 : Int64)), (.long ((((p1.toInt64) * (p2.toInt64)) + (64 : Int64)) - (1 : Int64)))])) (fun t k => X0.ldc2Long hx hown (mvT hZ (hw _ (List.mem_of_getElem? (i := 5) rfl))) (g := (mkF m 11 #[.val (.int p1), .val (.int p2)] [(.long ((((p1.toInt64) * (p2.toInt64)) + (64 : Int64)) - (1 : Int64)))])) rfl (hb hby d1_11) _ k) ?_
  refine own_go (U' := s₁.setTop (mkF m 15 #[.val (.int p1), .val (.int p2)] [(.long (((((p1.toInt64) * (p2.toInt64)) + (64 : Int64)) - (1 : Int64)) / (64 : Int64)))])) (fun t k => XS.ldiv X0.here hx rfl (hb hby d1_14) rfl (by decide) k) ?_
  refine own_go (U' := s₁.setTop (mkF m 16 #[.val (.int p1), .val (.int p2)] [(.int ((((((p1.toInt64) * (p2.toInt64)) + (64 : Int64)) - (1 : Int64)) / (64 : Int64)).toInt32))])) (fun t k => XS.l2i X0.here hx rfl (hb hby d1_15) rfl k) ?_
  refine own_retI X0 hx hret hlk (hb hby d1_16) ?_ (by decide) (by decide)
  exact ⟨rfl, rfl, e0⟩
theorem own_pd0 : parseMethodDescriptor "(II)I" = some ⟨[.int, .int], some .int⟩ := by decide +kernel
theorem own_pn1 : plainName "com/example/minwise/minwise/model/BitSignatureWordCountPinLaw" = true := by first | (simp [plainName, overriddenIn]; done) | decide +kernel
theorem own_ef0 (m : MethodId) (p1 p2 : Int32) : entryFrame m #[(.int p1), (.int p2)] maxLocals = mkF m 0 #[.val (.int p1), .val (.int p2), .unset, .unset, .unset, .unset, .unset, .unset, .unset, .unset, .unset] [] := by first | (simp [entryFrame, mkF, argsToLocals, Value.category, maxLocals]; done) | rfl
set_option maxRecDepth 65536 in
set_option maxHeartbeats 40000000 in
theorem own_rm0 (l : Launch) (Z : State) (a0 : Array Value) (hw : ∀ d ∈ tables_1, d.before a0 Z = true) (ws : List Jvm.Cond) (p1 p2 : Int32) (h0 : Heap)  :
    own_C l Z x code maxLocals ret ws room_1 #[(.int p1), (.int p2)] h0 (fun v h L => v = some (.int 1) ∧ Fr h0.size L) := by
  refine own_body (plainFor_of_name own_pn1) fun p e s m below meth c s₁ hx hby hml hret hlk hown hnm hZ X0 e0 => ?_
  rw [own_ef0 m p1 p2]
  have hml : c.maxLocals = 11 := hml
  have hret : meth.sig.returnType = some .boolean := hret
  refine own_go (U' := s₁.setTop (mkF m 1 #[.val (.int p1), .val (.int p2), .unset, .unset, .unset, .unset, .unset, .unset, .unset, .unset, .unset] [(.int p1)])) (fun t k => XS.iloadN X0.here hx rfl (hb hby at_0) rfl k) ?_
  refine own_go (U' := s₁.setTop (mkF m 3 #[.val (.int p1), .val (.int p2), .unset, .unset, .unset, .unset, .unset, .unset, .unset, .unset, .unset] [(.int (2147483647 : Int32)), (.int p1)])) (fun t k => X0.ldcInt hx hown (mvT hZ (hw _ (List.mem_of_getElem? (i := 0) rfl))) (g := (mkF m 1 #[.val (.int p1), .val (.int p2), .unset, .unset, .unset, .unset, .unset, .unset, .unset, .unset, .unset] [(.int p1)])) rfl (hb hby at_1) _ k) ?_
  refine own_go (U' := s₁.setTop (mkF m 4 #[.val (.int p1), .val (.int p2), .unset, .unset, .unset, .unset, .unset, .unset, .unset, .unset, .unset] [(.int (p1 &&& (2147483647 : Int32)))])) (fun t k => XS.iand X0.here hx rfl (hb hby at_3) rfl k) ?_
  generalize hv_k1 : (p1 &&& (2147483647 : Int32)) = k1
  refine own_go (U' := s₁.setTop (mkF m 5 #[.val (.int p1), .val (.int p2), .val (.int k1), .unset, .unset, .unset, .unset, .unset, .unset, .unset, .unset] [])) (fun t k => XS.istoreN X0.here hx rfl (hb hby at_4) rfl (l' := #[.val (.int p1), .val (.int p2), .val (.int k1), .unset, .unset, .unset, .unset, .unset, .unset, .unset, .unset]) rfl k) ?_
  refine own_go (U' := s₁.setTop (mkF m 6 #[.val (.int p1), .val (.int p2), .val (.int k1), .unset, .unset, .unset, .unset, .unset, .unset, .unset, .unset] [(.int (1 : Int32))])) (fun t k => XS.iconst X0.here hx rfl (hb hby at_5) k) ?_
  refine own_go (U' := s₁.setTop (mkF m 7 #[.val (.int p1), .val (.int p2), .val (.int k1), .unset, .unset, .unset, .unset, .unset, .unset, .unset, .unset] [(.int p2), (.int (1 : Int32))])) (fun t k => XS.iloadN X0.here hx rfl (hb hby at_6) rfl k) ?_
  refine own_go (U' := s₁.setTop (mkF m 9 #[.val (.int p1), .val (.int p2), .val (.int k1), .unset, .unset, .unset, .unset, .unset, .unset, .unset, .unset] [(.int (2147483647 : Int32)), (.int p2), (.int (1 : Int32))])) (fun t k => X0.ldcInt hx hown (mvT hZ (hw _ (List.mem_of_getElem? (i := 0) rfl))) (g := (mkF m 7 #[.val (.int p1), .val (.int p2), .val (.int k1), .unset, .unset, .unset, .unset, .unset, .unset, .unset, .unset] [(.int p2), (.int (1 : Int32))])) rfl (hb hby at_7) _ k) ?_
  refine own_go (U' := s₁.setTop (mkF m 10 #[.val (.int p1), .val (.int p2), .val (.int k1), .unset, .unset, .unset, .unset, .unset, .unset, .unset, .unset] [(.int (p2 &&& (2147483647 : Int32))), (.int (1 : Int32))])) (fun t k => XS.iand X0.here hx rfl (hb hby at_9) rfl k) ?_
  refine own_go (U' := s₁.setTop (mkF m 12 #[.val (.int p1), .val (.int p2), .val (.int k1), .unset, .unset, .unset, .unset, .unset, .unset, .unset, .unset] [(.int (64 : Int32)), (.int (p2 &&& (2147483647 : Int32))), (.int (1 : Int32))])) (fun t k => XS.bipush X0.here hx rfl (hb hby at_10) k) ?_
  refine own_go (U' := s₁.setTop (mkF m 13 #[.val (.int p1), .val (.int p2), .val (.int k1), .unset, .unset, .unset, .unset, .unset, .unset, .unset, .unset] [(.int ((p2 &&& (2147483647 : Int32)) % (64 : Int32))), (.int (1 : Int32))])) (fun t k => iremM X0 hx rfl (hb hby at_12) rfl (by decide) k) ?_
  refine own_go (U' := s₁.setTop (mkF m 14 #[.val (.int p1), .val (.int p2), .val (.int k1), .unset, .unset, .unset, .unset, .unset, .unset, .unset, .unset] [(.int ((1 : Int32) + ((p2 &&& (2147483647 : Int32)) % (64 : Int32))))])) (fun t k => XS.iadd X0.here hx rfl (hb hby at_13) rfl k) ?_
  generalize hv_b1 : ((1 : Int32) + ((p2 &&& (2147483647 : Int32)) % (64 : Int32))) = b1
  refine own_go (U' := s₁.setTop (mkF m 15 #[.val (.int p1), .val (.int p2), .val (.int k1), .val (.int b1), .unset, .unset, .unset, .unset, .unset, .unset, .unset] [])) (fun t k => XS.istoreN X0.here hx rfl (hb hby at_14) rfl (l' := #[.val (.int p1), .val (.int p2), .val (.int k1), .val (.int b1), .unset, .unset, .unset, .unset, .unset, .unset, .unset]) rfl k) ?_
  refine own_go (U' := s₁.setTop (mkF m 16 #[.val (.int p1), .val (.int p2), .val (.int k1), .val (.int b1), .unset, .unset, .unset, .unset, .unset, .unset, .unset] [(.int k1)])) (fun t k => XS.iloadN X0.here hx rfl (hb hby at_15) rfl k) ?_
  refine own_go (U' := s₁.setTop (mkF m 17 #[.val (.int p1), .val (.int p2), .val (.int k1), .val (.int b1), .unset, .unset, .unset, .unset, .unset, .unset, .unset] [(.int b1), (.int k1)])) (fun t k => XS.iloadN X0.here hx rfl (hb hby at_16) rfl k) ?_
  obtain ⟨v1, T1, h1, L1, e1, X1, hQ1, st1⟩ := own_callS X0 hx hZ (y := (⟨"com/example/minwise/minwise/model/BitSignature", "wordCount", "(II)I"⟩ : MethodName)) hown (hw _ (List.mem_of_getElem? (i := 1) rfl)) (hw _ (List.mem_of_getElem? (i := 2) rfl)) (hw _ (List.mem_of_getElem? (i := 3) rfl)) (hw _ (List.mem_of_getElem? (i := 4) rfl)) (by decide) (own_rm1 l Z a0 hw k1 b1 h0) (W := 0) (by decide) (by decide) (g := (mkF m 17 #[.val (.int p1), .val (.int p2), .val (.int k1), .val (.int b1), .unset, .unset, .unset, .unset, .unset, .unset, .unset] [(.int b1), (.int k1)])) rfl (by rw [hml]; rfl) (argsL := [(.int k1), (.int b1)]) (rest := []) (lenOf own_pd0 rfl) rfl rfl (by show 2 * 0 + _ ≤ _; exact Nat.le_of_eq rfl) (hb hby at_17) e0 (by decide) (by decide)
  obtain ⟨rfl, rfl, eh1⟩ := hQ1
  have e1 := e1.trans eh1
  rw [List.append_nil] at X1
  refine own_go (U' := T1.setTop (mkF m 20 #[.val (.int p1), .val (.int p2), .val (.int k1), .val (.int b1), .unset, .unset, .unset, .unset, .unset, .unset, .unset] [(.int (own_wc k1 b1))])) st1 ?_
  have hP := own_plain k1 b1 (hv_k1 ▸ own_K p1) (hv_b1 ▸ own_B p2)
  refine own_go (U' := T1.setTop (mkF m 22 #[.val (.int p1), .val (.int p2), .val (.int k1), .val (.int b1), .val (.int (own_wc k1 b1)), .unset, .unset, .unset, .unset, .unset, .unset] [])) (fun t k => XS.istore X1.here hx rfl (hb hby at_20) rfl (l' := #[.val (.int p1), .val (.int p2), .val (.int k1), .val (.int b1), .val (.int (own_wc k1 b1)), .unset, .unset, .unset, .unset, .unset, .unset]) rfl k) ?_
  refine own_go (U' := T1.setTop (mkF m 23 #[.val (.int p1), .val (.int p2), .val (.int k1), .val (.int b1), .val (.int (own_wc k1 b1)), .unset, .unset, .unset, .unset, .unset, .unset] [(.int k1)])) (fun t k => XS.iloadN X1.here hx rfl (hb hby at_22) rfl k) ?_
  refine own_go (U' := T1.setTop (mkF m 24 #[.val (.int p1), .val (.int p2), .val (.int k1), .val (.int b1), .val (.int (own_wc k1 b1)), .unset, .unset, .unset, .unset, .unset, .unset] [(.long (k1.toInt64))])) (fun t k => XS.i2l X1.here hx rfl (hb hby at_23) rfl k) ?_
  refine own_go (U' := T1.setTop (mkF m 25 #[.val (.int p1), .val (.int p2), .val (.int k1), .val (.int b1), .val (.int (own_wc k1 b1)), .unset, .unset, .unset, .unset, .unset, .unset] [(.int b1), (.long (k1.toInt64))])) (fun t k => XS.iloadN X1.here hx rfl (hb hby at_24) rfl k) ?_
  refine own_go (U' := T1.setTop (mkF m 26 #[.val (.int p1), .val (.int p2), .val (.int k1), .val (.int b1), .val (.int (own_wc k1 b1)), .unset, .unset, .unset, .unset, .unset, .unset] [(.long (b1.toInt64)), (.long (k1.toInt64))])) (fun t k => XS.i2l X1.here hx rfl (hb hby at_25) rfl k) ?_
  refine own_go (U' := T1.setTop (mkF m 27 #[.val (.int p1), .val (.int p2), .val (.int k1), .val (.int b1), .val (.int (own_wc k1 b1)), .unset, .unset, .unset, .unset, .unset, .unset] [(.long ((k1.toInt64) * (b1.toInt64)))])) (fun t k => XS.lmul X1.here hx rfl (hb hby at_26) rfl k) ?_
  refine own_go (U' := T1.setTop (mkF m 29 #[.val (.int p1), .val (.int p2), .val (.int k1), .val (.int b1), .val (.int (own_wc k1 b1)), .val (.long ((k1.toInt64) * (b1.toInt64))), .second, .unset, .unset, .unset, .unset] [])) (fun t k => XS.lstore X1.here hx rfl (hb hby at_27) rfl (l' := #[.val (.int p1), .val (.int p2), .val (.int k1), .val (.int b1), .val (.int (own_wc k1 b1)), .val (.long ((k1.toInt64) * (b1.toInt64))), .second, .unset, .unset, .unset, .unset]) rfl k) ?_
  refine own_go (U' := T1.setTop (mkF m 31 #[.val (.int p1), .val (.int p2), .val (.int k1), .val (.int b1), .val (.int (own_wc k1 b1)), .val (.long ((k1.toInt64) * (b1.toInt64))), .second, .unset, .unset, .unset, .unset] [(.int (own_wc k1 b1))])) (fun t k => XS.iload X1.here hx rfl (hb hby at_29) rfl k) ?_
  refine own_go (U' := T1.setTop (mkF m 32 #[.val (.int p1), .val (.int p2), .val (.int k1), .val (.int b1), .val (.int (own_wc k1 b1)), .val (.long ((k1.toInt64) * (b1.toInt64))), .second, .unset, .unset, .unset, .unset] [(.long ((own_wc k1 b1).toInt64))])) (fun t k => XS.i2l X1.here hx rfl (hb hby at_31) rfl k) ?_
  refine own_go (U' := T1.setTop (mkF m 35 #[.val (.int p1), .val (.int p2), .val (.int k1), .val (.int b1), .val (.int (own_wc k1 b1)), .val (.long ((k1.toInt64) * (b1.toInt64))), .second, .unset, .unset, .unset, .unset] [(.long (64 : Int64)), (.long ((own_wc k1 b1).toInt64))])) (fun t k => X1.ldc2Long hx hown (mvT hZ (hw _ (List.mem_of_getElem? (i := 6) rfl))) (g := (mkF m 32 #[.val (.int p1), .val (.int p2), .val (.int k1), .val (.int b1), .val (.int (own_wc k1 b1)), .val (.long ((k1.toInt64) * (b1.toInt64))), .second, .unset, .unset, .unset, .unset] [(.long ((own_wc k1 b1).toInt64))])) rfl (hb hby at_32) _ k) ?_
  refine own_go (U' := T1.setTop (mkF m 36 #[.val (.int p1), .val (.int p2), .val (.int k1), .val (.int b1), .val (.int (own_wc k1 b1)), .val (.long ((k1.toInt64) * (b1.toInt64))), .second, .unset, .unset, .unset, .unset] [(.long (((own_wc k1 b1).toInt64) * (64 : Int64)))])) (fun t k => XS.lmul X1.here hx rfl (hb hby at_35) rfl k) ?_
  refine own_go (U' := T1.setTop (mkF m 38 #[.val (.int p1), .val (.int p2), .val (.int k1), .val (.int b1), .val (.int (own_wc k1 b1)), .val (.long ((k1.toInt64) * (b1.toInt64))), .second, .val (.long (((own_wc k1 b1).toInt64) * (64 : Int64))), .second, .unset, .unset] [])) (fun t k => XS.lstore X1.here hx rfl (hb hby at_36) rfl (l' := #[.val (.int p1), .val (.int p2), .val (.int k1), .val (.int b1), .val (.int (own_wc k1 b1)), .val (.long ((k1.toInt64) * (b1.toInt64))), .second, .val (.long (((own_wc k1 b1).toInt64) * (64 : Int64))), .second, .unset, .unset]) rfl k) ?_
  refine own_go (U' := T1.setTop (mkF m 40 #[.val (.int p1), .val (.int p2), .val (.int k1), .val (.int b1), .val (.int (own_wc k1 b1)), .val (.long ((k1.toInt64) * (b1.toInt64))), .second, .val (.long (((own_wc k1 b1).toInt64) * (64 : Int64))), .second, .unset, .unset] [(.int (own_wc k1 b1))])) (fun t k => XS.iload X1.here hx rfl (hb hby at_38) rfl k) ?_
  refine own_go (U' := T1.setTop (mkF m 41 #[.val (.int p1), .val (.int p2), .val (.int k1), .val (.int b1), .val (.int (own_wc k1 b1)), .val (.long ((k1.toInt64) * (b1.toInt64))), .second, .val (.long (((own_wc k1 b1).toInt64) * (64 : Int64))), .second, .unset, .unset] [(.long ((own_wc k1 b1).toInt64))])) (fun t k => XS.i2l X1.here hx rfl (hb hby at_40) rfl k) ?_
  refine own_go (U' := T1.setTop (mkF m 42 #[.val (.int p1), .val (.int p2), .val (.int k1), .val (.int b1), .val (.int (own_wc k1 b1)), .val (.long ((k1.toInt64) * (b1.toInt64))), .second, .val (.long (((own_wc k1 b1).toInt64) * (64 : Int64))), .second, .unset, .unset] [(.long (1 : Int64)), (.long ((own_wc k1 b1).toInt64))])) (fun t k => XS.lconst X1.here hx rfl (hb hby at_41) k) ?_
  refine own_go (U' := T1.setTop (mkF m 43 #[.val (.int p1), .val (.int p2), .val (.int k1), .val (.int b1), .val (.int (own_wc k1 b1)), .val (.long ((k1.toInt64) * (b1.toInt64))), .second, .val (.long (((own_wc k1 b1).toInt64) * (64 : Int64))), .second, .unset, .unset] [(.long (((own_wc k1 b1).toInt64) - (1 : Int64)))])) (fun t k => XS.lsub X1.here hx rfl (hb hby at_42) rfl k) ?_
  refine own_go (U' := T1.setTop (mkF m 46 #[.val (.int p1), .val (.int p2), .val (.int k1), .val (.int b1), .val (.int (own_wc k1 b1)), .val (.long ((k1.toInt64) * (b1.toInt64))), .second, .val (.long (((own_wc k1 b1).toInt64) * (64 : Int64))), .second, .unset, .unset] [(.long (64 : Int64)), (.long (((own_wc k1 b1).toInt64) - (1 : Int64)))])) (fun t k => X1.ldc2Long hx hown (mvT hZ (hw _ (List.mem_of_getElem? (i := 6) rfl))) (g := (mkF m 43 #[.val (.int p1), .val (.int p2), .val (.int k1), .val (.int b1), .val (.int (own_wc k1 b1)), .val (.long ((k1.toInt64) * (b1.toInt64))), .second, .val (.long (((own_wc k1 b1).toInt64) * (64 : Int64))), .second, .unset, .unset] [(.long (((own_wc k1 b1).toInt64) - (1 : Int64)))])) rfl (hb hby at_43) _ k) ?_
  refine own_go (U' := T1.setTop (mkF m 47 #[.val (.int p1), .val (.int p2), .val (.int k1), .val (.int b1), .val (.int (own_wc k1 b1)), .val (.long ((k1.toInt64) * (b1.toInt64))), .second, .val (.long (((own_wc k1 b1).toInt64) * (64 : Int64))), .second, .unset, .unset] [(.long ((((own_wc k1 b1).toInt64) - (1 : Int64)) * (64 : Int64)))])) (fun t k => XS.lmul X1.here hx rfl (hb hby at_46) rfl k) ?_
  refine own_go (U' := T1.setTop (mkF m 49 #[.val (.int p1), .val (.int p2), .val (.int k1), .val (.int b1), .val (.int (own_wc k1 b1)), .val (.long ((k1.toInt64) * (b1.toInt64))), .second, .val (.long (((own_wc k1 b1).toInt64) * (64 : Int64))), .second, .val (.long ((((own_wc k1 b1).toInt64) - (1 : Int64)) * (64 : Int64))), .second] [])) (fun t k => XS.lstore X1.here hx rfl (hb hby at_47) rfl (l' := #[.val (.int p1), .val (.int p2), .val (.int k1), .val (.int b1), .val (.int (own_wc k1 b1)), .val (.long ((k1.toInt64) * (b1.toInt64))), .second, .val (.long (((own_wc k1 b1).toInt64) * (64 : Int64))), .second, .val (.long ((((own_wc k1 b1).toInt64) - (1 : Int64)) * (64 : Int64))), .second]) rfl k) ?_
  refine own_go (U' := T1.setTop (mkF m 51 #[.val (.int p1), .val (.int p2), .val (.int k1), .val (.int b1), .val (.int (own_wc k1 b1)), .val (.long ((k1.toInt64) * (b1.toInt64))), .second, .val (.long (((own_wc k1 b1).toInt64) * (64 : Int64))), .second, .val (.long ((((own_wc k1 b1).toInt64) - (1 : Int64)) * (64 : Int64))), .second] [(.int (own_wc k1 b1))])) (fun t k => XS.iload X1.here hx rfl (hb hby at_49) rfl k) ?_
  refine own_go (U' := T1.setTop (mkF m 54 #[.val (.int p1), .val (.int p2), .val (.int k1), .val (.int b1), .val (.int (own_wc k1 b1)), .val (.long ((k1.toInt64) * (b1.toInt64))), .second, .val (.long (((own_wc k1 b1).toInt64) * (64 : Int64))), .second, .val (.long ((((own_wc k1 b1).toInt64) - (1 : Int64)) * (64 : Int64))), .second] [])) (fun t k => XS.ifNo X1.here hx rfl (hb hby at_51) rfl ((if0 _ _).trans (flt hP.1).1) k) ?_
  refine own_go (U' := T1.setTop (mkF m 56 #[.val (.int p1), .val (.int p2), .val (.int k1), .val (.int b1), .val (.int (own_wc k1 b1)), .val (.long ((k1.toInt64) * (b1.toInt64))), .second, .val (.long (((own_wc k1 b1).toInt64) * (64 : Int64))), .second, .val (.long ((((own_wc k1 b1).toInt64) - (1 : Int64)) * (64 : Int64))), .second] [(.long (((own_wc k1 b1).toInt64) * (64 : Int64)))])) (fun t k => XS.lload X1.here hx rfl (hb hby at_54) rfl k) ?_
  refine own_go (U' := T1.setTop (mkF m 58 #[.val (.int p1), .val (.int p2), .val (.int k1), .val (.int b1), .val (.int (own_wc k1 b1)), .val (.long ((k1.toInt64) * (b1.toInt64))), .second, .val (.long (((own_wc k1 b1).toInt64) * (64 : Int64))), .second, .val (.long ((((own_wc k1 b1).toInt64) - (1 : Int64)) * (64 : Int64))), .second] [(.long ((k1.toInt64) * (b1.toInt64))), (.long (((own_wc k1 b1).toInt64) * (64 : Int64)))])) (fun t k => XS.lload X1.here hx rfl (hb hby at_56) rfl k) ?_
  refine own_go (U' := T1.setTop (mkF m 59 #[.val (.int p1), .val (.int p2), .val (.int k1), .val (.int b1), .val (.int (own_wc k1 b1)), .val (.long ((k1.toInt64) * (b1.toInt64))), .second, .val (.long (((own_wc k1 b1).toInt64) * (64 : Int64))), .second, .val (.long ((((own_wc k1 b1).toInt64) - (1 : Int64)) * (64 : Int64))), .second] [(.int (lcmpW (((own_wc k1 b1).toInt64) * (64 : Int64)) ((k1.toInt64) * (b1.toInt64))))])) (fun t k => XS.lcmp X1.here hx rfl (hb hby at_58) rfl k) ?_
  refine own_go (U' := T1.setTop (mkF m 62 #[.val (.int p1), .val (.int p2), .val (.int k1), .val (.int b1), .val (.int (own_wc k1 b1)), .val (.long ((k1.toInt64) * (b1.toInt64))), .second, .val (.long (((own_wc k1 b1).toInt64) * (64 : Int64))), .second, .val (.long ((((own_wc k1 b1).toInt64) - (1 : Int64)) * (64 : Int64))), .second] [])) (fun t k => XS.ifNo X1.here hx rfl (hb hby at_59) rfl ((if0 _ _).trans (flt (fun q => hP.2.1 ((lw_lt (((own_wc k1 b1).toInt64) * (64 : Int64)) ((k1.toInt64) * (b1.toInt64))).mp q))).1) k) ?_
  refine own_go (U' := T1.setTop (mkF m 64 #[.val (.int p1), .val (.int p2), .val (.int k1), .val (.int b1), .val (.int (own_wc k1 b1)), .val (.long ((k1.toInt64) * (b1.toInt64))), .second, .val (.long (((own_wc k1 b1).toInt64) * (64 : Int64))), .second, .val (.long ((((own_wc k1 b1).toInt64) - (1 : Int64)) * (64 : Int64))), .second] [(.long ((((own_wc k1 b1).toInt64) - (1 : Int64)) * (64 : Int64)))])) (fun t k => XS.lload X1.here hx rfl (hb hby at_62) rfl k) ?_
  refine own_go (U' := T1.setTop (mkF m 66 #[.val (.int p1), .val (.int p2), .val (.int k1), .val (.int b1), .val (.int (own_wc k1 b1)), .val (.long ((k1.toInt64) * (b1.toInt64))), .second, .val (.long (((own_wc k1 b1).toInt64) * (64 : Int64))), .second, .val (.long ((((own_wc k1 b1).toInt64) - (1 : Int64)) * (64 : Int64))), .second] [(.long ((k1.toInt64) * (b1.toInt64))), (.long ((((own_wc k1 b1).toInt64) - (1 : Int64)) * (64 : Int64)))])) (fun t k => XS.lload X1.here hx rfl (hb hby at_64) rfl k) ?_
  refine own_go (U' := T1.setTop (mkF m 67 #[.val (.int p1), .val (.int p2), .val (.int k1), .val (.int b1), .val (.int (own_wc k1 b1)), .val (.long ((k1.toInt64) * (b1.toInt64))), .second, .val (.long (((own_wc k1 b1).toInt64) * (64 : Int64))), .second, .val (.long ((((own_wc k1 b1).toInt64) - (1 : Int64)) * (64 : Int64))), .second] [(.int (lcmpW ((((own_wc k1 b1).toInt64) - (1 : Int64)) * (64 : Int64)) ((k1.toInt64) * (b1.toInt64))))])) (fun t k => XS.lcmp X1.here hx rfl (hb hby at_66) rfl k) ?_
  refine own_go (U' := T1.setTop (mkF m 70 #[.val (.int p1), .val (.int p2), .val (.int k1), .val (.int b1), .val (.int (own_wc k1 b1)), .val (.long ((k1.toInt64) * (b1.toInt64))), .second, .val (.long (((own_wc k1 b1).toInt64) * (64 : Int64))), .second, .val (.long ((((own_wc k1 b1).toInt64) - (1 : Int64)) * (64 : Int64))), .second] [])) (fun t k => XS.ifNo X1.here hx rfl (hb hby at_67) rfl ((if0 _ _).trans (tlt ((lw_lt ((((own_wc k1 b1).toInt64) - (1 : Int64)) * (64 : Int64)) ((k1.toInt64) * (b1.toInt64))).mpr hP.2.2)).2.1) k) ?_
  refine own_go (U' := T1.setTop (mkF m 71 #[.val (.int p1), .val (.int p2), .val (.int k1), .val (.int b1), .val (.int (own_wc k1 b1)), .val (.long ((k1.toInt64) * (b1.toInt64))), .second, .val (.long (((own_wc k1 b1).toInt64) * (64 : Int64))), .second, .val (.long ((((own_wc k1 b1).toInt64) - (1 : Int64)) * (64 : Int64))), .second] [(.int (1 : Int32))])) (fun t k => XS.iconst X1.here hx rfl (hb hby at_70) k) ?_
  refine own_go (U' := T1.setTop (mkF m 75 #[.val (.int p1), .val (.int p2), .val (.int k1), .val (.int b1), .val (.int (own_wc k1 b1)), .val (.long ((k1.toInt64) * (b1.toInt64))), .second, .val (.long (((own_wc k1 b1).toInt64) * (64 : Int64))), .second, .val (.long ((((own_wc k1 b1).toInt64) - (1 : Int64)) * (64 : Int64))), .second] [(.int (1 : Int32))])) (fun t k => XS.goto X1.here hx rfl (pc0 := 71) (pc' := 75) rfl (hb hby at_71) (by decide) (by decide) k) ?_
  refine own_retN X1 hx (t := .boolean) hret (by simp) hlk (hb hby at_75) ?_ (by decide) (by decide)
  exact ⟨rfl, Fr.nil _⟩
set_option maxRecDepth 65536 in
set_option maxHeartbeats 40000000 in
theorem comes_1 {Post : Tables → Env → Array Value → State → Outcome → State → Prop} (hpost : ∀ tb e args s v u, (limb_1_1.after args s (.returned v) u = true ∧ limb_1_2.after args s (.returned v) u = true) → FrameEnd s (.returned v) u (Jvm.fieldLocs frame_1_writes args s ++ Jvm.arrayLocs frame_1_arrays args s ++ Jvm.staticLocs frame_1_statics s) 0 0 → Post tb e args s (.returned v) u) :
    ArmFor flags0 classFile x code maxLocals ret World_1 tables_1 room_1 Calls_1 rest_1 Pre_1 Post := by
  intro l hfl _ _ p e ha hc hk s m args below hf hA hF happ hP
  obtain ⟨hcalls, hrest, hpre⟩ := hP
  obtain ⟨-, -, -, hnamed, -, -, -, hat⟩ := (Spec.applies_iff hf).mp happ
  obtain ⟨hg, hn⟩ := and_e (Cond.before_iff.mp (show (Jvm.Cond.and given_1 narrow_1).before args s = true from hpre))
  obtain ⟨hcount, r0⟩ := and_e hg
  obtain ⟨g0, g1⟩ := and_e r0
  obtain ⟨w0, w1, rfl⟩ : ∃ w0 w1 : Value, args = #[w0, w1] := by
    have hs : args.size = 2 := by simpa [Cond.value, given_1] using hcount
    obtain ⟨L⟩ := args
    match L, hs with
    | [w0, w1], _ => exact ⟨w0, w1, rfl⟩
  have hw := fun d (hd : d ∈ tables_1) => atoms_spec (ws := Jvm.Cond.code x code maxLocals ret :: tables_1) hat d (List.mem_cons_of_mem _ hd)
  have hfit : Fit s := fun {y c} hc i hi => by
    obtain ⟨ha, rfl⟩ := Array.getElem?_eq_some_iff.mp hc
    have q := List.all_eq_true.mp ((Array.all_eq_true_iff_forall_mem.mp hF) _ (Array.getElem_mem ha)) i (List.mem_range.mpr hi)
    simpa [Array.getElem?_eq_getElem hi] using q
  obtain ⟨i0, ei0⟩ := is_v g0
  obtain rfl : w0 = (.int i0) := Option.some.inj ei0
  obtain ⟨i1, ei1⟩ := is_v g1
  obtain rfl : w1 = (.int i1) := Option.some.inj ei1
  obtain ⟨n, o, h1, h2, h3, _, L, rfl, ⟨rfl, N⟩, hq⟩ := own_rm0 l s _ hw tables_1 i0 i1 s.heap p e ha hc hk s m _ below hf ((Spec.applies_iff_loose hf).mp happ).1 ⟨rfl, State.Warmed39.refl s, rfl⟩ trivial
  refine ⟨n, _, h1, h2, h3, hpost _ _ _ _ _ _ ⟨Cond.after_iff.mpr rfl, Cond.after_iff.mpr (eq_i res_at (Term.int_eval (1)) rfl)⟩ ⟨hq.1, hq.2.1, (hq.2.2.sift fun y hy => Or.inr (N y hy)).mono (by decide) (by decide)⟩⟩
theorem main_1_1 : Claimed_1_1 := comes_1 fun _ _ _ _ _ _ h hF => ⟨h.1, hF⟩
theorem main_1_2 : Claimed_1_2 := comes_1 fun _ _ _ _ _ _ h hF => ⟨h.2, hF⟩
end Jvm.Pilot.@@N@@
namespace Jvm.Pilot.@@N@@
open Jvm Jvm.ClassFile Sem Op Lib Jvm.Free Jvm.Stand Jvm.Pilot.@@N@@.Jvm.D
/-! MADE BY PROGRAM (witnessworld.py) out of the Statement's table words and the real class files: 9 classes; the members and pool entries that the words name. The judged class is class 1, her method 1. -/
namespace start1
open Jvm.ClassFile
def u (s : String) : CpInfo := .utf8 (stringToUtf16 s)
/-- a pool by its gaps: so many unusable entries, then the entry; so many at the end -/
def gap : Nat → List CpInfo → List CpInfo
  | 0, r => r
  | n + 1, r => .unusable :: gap n r
def poolList (es : List (Nat × CpInfo)) (last : Nat) : List CpInfo := es.foldr (fun e r => gap e.1 (e.2 :: r)) (gap last [])
def pool (es : List (Nat × CpInfo)) (last : Nat) : Array CpInfo := ⟨poolList es last⟩
def fileOf (pool : Array CpInfo) (this : Nat) (attrs : Array Attribute := #[]) (ms : Array MethodInfo := #[]) (fl : Nat := 33) (sup : Nat := 0) (ifs : Array Nat := #[]) (fds : Array FieldInfo := #[]) : ClassFile where
  minorVersion := 0
  majorVersion := 65
  constantPool := pool
  accessFlags := fl
  thisClass := this
  superClass := sup
  interfaces := ifs
  fields := fds
  methods := ms
  attributes := attrs
def plain (name : String) (sup : Option ClassId) : Class where
  name := name
  kind := .ordinary
  loader := none
  accessFlags := 33
  super := sup
  interfaces := #[]
  cf := none
  fields := #[]
  methods := #[]
  instanceTypes := #[]
  staticTypes := #[]
  resolved := #[]
  callSites := []
  init := .initialized
  statics := none
  mirror := none

def pool0 : Array CpInfo := pool [(5, u "<init>"), (0, u "()V"), (1, .class_ 10), (1, u "java/lang/Object")] 113

def k0m0 : Method := { name := "<init>", desc := "()V", sig := { parameters := [], returnType := none }, accessFlags := 1, code := none }
/-- java/lang/Object -/
def k0 : Class := { plain "java/lang/Object" none with
  accessFlags := 33
  interfaces := #[]
  cf := some (fileOf pool0 8 #[] #[{ accessFlags := 1, nameIndex := 5, descriptorIndex := 6, attributes := #[] }] 33 0 #[] #[])
  fields := #[]
  methods := #[k0m0]
  instanceTypes := #[]
  staticTypes := #[]
  resolved := Array.replicate 124 none
  statics := none }

def pool1 : Array CpInfo := pool [(2, .class_ 4), (1, u "java/lang/Object"), (0, u "<init>"), (0, u "()V"), (0, .integer 2147483647), (0, .methodref 9 10), (0, .class_ 11), (0, .nameAndType 12 13), (0, u "com/example/minwise/minwise/model/BitSignature"), (0, u "wordCount"), (0, u "(II)I"), (0, .long 64), (1, .class_ 17), (0, u "com/example/minwise/minwise/model/BitSignatureWordCountPinLaw"), (2, u "law"), (0, u "(II)Z")] 3

def k1m0 : Method := { name := "<init>", desc := "()V", sig := { parameters := [], returnType := none }, accessFlags := 2, code := none }
def k1c1 : Code := { maxStack := 4, maxLocals := 11, code := code, exceptionTable := #[], attributes := #[] }
def k1m1 : Method := { name := "law", desc := "(II)Z", sig := { parameters := [.int, .int], returnType := some .boolean }, accessFlags := 9, code := some k1c1 }
/-- com/example/minwise/minwise/model/BitSignatureWordCountPinLaw -/
def k1 : Class := { plain "com/example/minwise/minwise/model/BitSignatureWordCountPinLaw" (some 0) with
  accessFlags := 49
  interfaces := #[]
  cf := some (fileOf pool1 16 #[] #[{ accessFlags := 2, nameIndex := 5, descriptorIndex := 6, attributes := #[] }, { accessFlags := 9, nameIndex := 20, descriptorIndex := 21, attributes := #[] }] 49 2 #[] #[])
  fields := #[]
  methods := #[k1m0, k1m1]
  instanceTypes := #[]
  staticTypes := #[]
  resolved := Array.replicate 25 none
  statics := none }

def pool2 : Array CpInfo := pool [(2, .class_ 4), (1, u "java/lang/Object"), (18, .class_ 25), (1, u "com/example/minwise/minwise/model/BitSignature"), (3, u "wordCount"), (0, u "(II)I"), (9, .long 64), (5, u "seed"), (0, u "J"), (2, u "setSize"), (0, u "I"), (2, u "hashes"), (2, u "bits"), (3, u "[J"), (4, u "words"), (46, u "MAX_BITS")] 36

def k2c0 : Code := { maxStack := 4, maxLocals := 2, code := prog_35_method_12_code, exceptionTable := #[], attributes := #[] }
def k2m0 : Method := { name := "wordCount", desc := "(II)I", sig := { parameters := [.int, .int], returnType := some .int }, accessFlags := 9, code := some k2c0 }
/-- com/example/minwise/minwise/model/BitSignature -/
def k2 : Class := { plain "com/example/minwise/minwise/model/BitSignature" (some 0) with
  accessFlags := 49
  interfaces := #[]
  cf := some (fileOf pool2 23 #[] #[{ accessFlags := 9, nameIndex := 29, descriptorIndex := 30, attributes := #[] }] 49 2 #[] #[{ accessFlags := 25, nameIndex := 113, descriptorIndex := 51, attributes := #[] }, { accessFlags := 18, nameIndex := 46, descriptorIndex := 47, attributes := #[] }, { accessFlags := 18, nameIndex := 50, descriptorIndex := 51, attributes := #[] }, { accessFlags := 18, nameIndex := 54, descriptorIndex := 51, attributes := #[] }, { accessFlags := 18, nameIndex := 57, descriptorIndex := 51, attributes := #[] }, { accessFlags := 18, nameIndex := 66, descriptorIndex := 61, attributes := #[] }])
  fields := #[{ name := "MAX_BITS", type := .int, accessFlags := 25, slot := 0, constantValue := 0 }, { name := "seed", type := .long, accessFlags := 18, slot := 0, constantValue := 0 }, { name := "setSize", type := .int, accessFlags := 18, slot := 1, constantValue := 0 }, { name := "hashes", type := .int, accessFlags := 18, slot := 2, constantValue := 0 }, { name := "bits", type := .int, accessFlags := 18, slot := 3, constantValue := 0 }, { name := "words", type := (.array .long), accessFlags := 18, slot := 4, constantValue := 0 }]
  methods := #[k2m0]
  instanceTypes := #[.long, .int, .int, .int, (.array .long)]
  staticTypes := #[.int]
  resolved := Array.replicate 150 none
  statics := none }

def pool3 : Array CpInfo := pool [(1, u "java/lang/Cloneable"), (0, .class_ 1), (0, u "java/lang/Object"), (0, .class_ 3)] 3

/-- java/lang/Cloneable -/
def k3 : Class := { plain "java/lang/Cloneable" (some 0) with
  accessFlags := 1537
  interfaces := #[]
  cf := some (fileOf pool3 2 #[] #[] 1537 4 #[] #[])
  fields := #[]
  methods := #[]
  instanceTypes := #[]
  staticTypes := #[]
  resolved := Array.replicate 8 none
  statics := none }

def pool4 : Array CpInfo := pool [(1, u "java/io/Serializable"), (0, .class_ 1), (0, u "java/lang/Object"), (0, .class_ 3)] 3

/-- java/io/Serializable -/
def k4 : Class := { plain "java/io/Serializable" (some 0) with
  accessFlags := 1537
  interfaces := #[]
  cf := some (fileOf pool4 2 #[] #[] 1537 4 #[] #[])
  fields := #[]
  methods := #[]
  instanceTypes := #[]
  staticTypes := #[]
  resolved := Array.replicate 8 none
  statics := none }

/-- the primitive byte -/
def k5 : Class := { plain "byte" none with kind := .primitive 'B', accessFlags := 0x411 }
/-- [B -/
def k6 : Class := { plain "[B" (some 0) with kind := .array 5 .byte, interfaces := #[3, 4], accessFlags := 1041 }

/-- the primitive int -/
def k7 : Class := { plain "int" none with kind := .primitive 'I', accessFlags := 0x411 }
/-- [I -/
def k8 : Class := { plain "[I" (some 0) with kind := .array 7 .int, interfaces := #[3, 4], accessFlags := 1041 }

def heap : Heap := #[]
def classes : Array Class := #[k0, k1, k2, k3, k4, k5, k6, k7, k8]
def interned : List (Array UInt16 × Addr) := []
def slotsUsed : Nat := 0
def theMethod : MethodId := ⟨1, 1⟩
def args0 : Array Value := #[.int 5, .int 7]
def aboutOver (below : List Frame) : State where
  vm := { classes := classes, interned := interned.toArray }
  heap := heap
  slotsUsed := slotsUsed
  threads := #[{ frames := .invoking theMethod args0 :: below }]
def below0 : List Frame := [.native { method := ⟨0, 0⟩, args := #[] }]
def about1 : State := aboutOver below0
def p0 : Program := .bare "" "" ""
def e0 : Env := launch0.env 0 0 0
theorem w_frames : about1.frames = Frame.invoking theMethod args0 :: below0 := rfl
set_option maxRecDepth 65536 in
theorem w_args : argsFit about1.vm theMethod args0 = true := by decide +kernel
set_option maxRecDepth 65536 in
theorem w_heap : heapFits about1 = true := by decide +kernel
set_option maxRecDepth 65536 in
theorem w_runnable : about1.curStatus? = some .runnable := by decide +kernel
set_option maxRecDepth 65536 in
theorem w_alone : about1.alone = true := by decide +kernel
set_option maxRecDepth 65536 in
theorem w_named : about1.methodNamed? x = some theMethod := by decide +kernel
set_option maxRecDepth 65536 in
theorem w_hears : about1.hears theMethod below0 = true := by decide +kernel
set_option maxRecDepth 65536 in
theorem w_ripe : about1.ripe theMethod args0 below0 = true := by decide +kernel
theorem w_running : about1.status = .running := rfl
set_option maxRecDepth 65536 in
theorem w_room : about1.hasRoom e0.platform room_1 = true :=
  launch0.hasRoom_least _ room_1 (by decide +kernel) (by decide +kernel) (by decide +kernel) (by decide +kernel) (by decide +kernel) (by decide +kernel)
theorem allAtoms_all (ts : List Jvm.Cond) (a : Array Jvm.Value) (st : Jvm.State) : (allAtoms ts).before a st = ts.all (fun c => c.before a st) := by
  induction ts with
  | nil => rfl
  | cons c t ih =>
    show (Jvm.Cond.and c (allAtoms t)).before a st = _
    rw [Jvm.Cond.before_and, ih, List.all_cons]
def words1 : List Jvm.Cond := Jvm.Cond.code x code maxLocals ret :: tables_1
/-- a 'code' word, met by the world's own term for the bytes: nothing is compared byte by byte -/
theorem code_word {y : MethodName} {bytes : ByteArray} {mx : Nat} {rt : Option FieldType} {a : Array Value} {s : State} {m : MethodId} {meth : Method} {c : Code} (h1 : s.methodNamed? y = some m) (h2 : s.vm.method? m = some meth) (h3 : meth.code = some c) (h4 : c.code = bytes)
    (h5 : (c.maxLocals == mx && c.exceptionTable.isEmpty && decide (c.maxStack ≤ mostOperands) && decide (meth.sig.returnType = rt) && !meth.locks && decide (parseMethodDescriptor y.desc = some meth.sig)) = true) : (Jvm.Cond.code y bytes mx rt).before a s = true := by
  simp only [Bool.and_eq_true, beq_iff_eq, Bool.not_eq_true', decide_eq_true_eq] at h5
  obtain ⟨⟨⟨⟨⟨g1, g2⟩, g3⟩, g4⟩, g5⟩, g6⟩ := h5
  simp [Cond.before, Cond.holds, Cond.value, h1, h2, h3, h4, g1, g2, g3, g4, g5, g6]
def isCode : Jvm.Cond → Bool
  | .code _ _ _ _ => true
  | _ => false
theorem all_split {L : List Jvm.Cond} {P : Jvm.Cond → Bool} (h1 : L.all (fun c => isCode c || P c) = true) (h2 : ∀ c ∈ L.filter isCode, P c = true) : L.all P = true := by
  refine List.all_eq_true.mpr fun c hc => ?_
  have h := List.all_eq_true.mp h1 c hc
  rcases Bool.eq_false_or_eq_true (isCode c) with hi | hi
  · exact h2 c (List.mem_filter.mpr ⟨hc, hi⟩)
  · simpa [hi] using h
set_option maxRecDepth 65536 in
theorem w_c0 : (Jvm.Cond.code x code maxLocals ret).before args0 about1 = true := code_word (m := ⟨1, 1⟩) (meth := k1m1) (c := k1c1) (by decide +kernel) rfl rfl rfl (by decide +kernel)
set_option maxRecDepth 65536 in
theorem w_c1 : (Jvm.Cond.code ({ cls := "com/example/minwise/minwise/model/BitSignature", name := "wordCount", desc := "(II)I" } : Jvm.MethodName) prog_35_method_12_code (2 : Nat) (Option.some Jvm.ClassFile.FieldType.int)).before args0 about1 = true := code_word (m := ⟨2, 0⟩) (meth := k2m0) (c := k2c0) (by decide +kernel) rfl rfl rfl (by decide +kernel)
def codes1 : List Jvm.Cond := [Jvm.Cond.code x code maxLocals ret, Jvm.Cond.code ({ cls := "com/example/minwise/minwise/model/BitSignature", name := "wordCount", desc := "(II)I" } : Jvm.MethodName) prog_35_method_12_code (2 : Nat) (Option.some Jvm.ClassFile.FieldType.int)]
set_option maxRecDepth 65536 in
theorem codes_eq : words1.filter isCode = codes1 := rfl
theorem w_codes : ∀ c ∈ words1.filter isCode, c.before args0 about1 = true := by
  rw [codes_eq]
  intro c hc
  simp only [codes1, List.mem_cons, List.not_mem_nil, or_false] at hc
  rcases hc with rfl | rfl
  · exact w_c0
  · exact w_c1
set_option maxRecDepth 65536 in
theorem w_t1 : words1.all (fun c => isCode c || c.before args0 about1) = true := by decide +kernel
theorem w_tables : (allAtoms (Jvm.Cond.code x code maxLocals ret :: tables_1)).before args0 about1 = true := by
  rw [allAtoms_all]
  show words1.all (fun c => c.before args0 about1) = true
  refine all_split ?_ w_codes
  rw [w_t1]
set_option maxRecDepth 65536 in
theorem w_case : (Jvm.Cond.and given_1 narrow_1).before args0 about1 = true := by decide +kernel
theorem w_applies : (headSpec (Jvm.Cond.code x code maxLocals ret :: tables_1) room_1).applies x e0.platform about1 = true :=
  (Spec.applies_iff w_frames).mpr ⟨w_running, w_runnable, w_alone, w_named, w_hears, w_ripe, w_room, w_tables⟩
theorem atStart : AtStart classFile x code maxLocals ret World_1 tables_1 room_1 Calls_1 rest_1 Pre_1 launch0 p0 e0 about1 theMethod args0 below0 :=
  ⟨lists_1, trivial, launch0.admits_env _ _ _, launch0.least_env, fairChoices_fair.cas, fairChoices_fair.clock, w_frames, w_args, w_heap, w_applies, trivial, trivial, w_case⟩
end start1
theorem witness_1 : WitnessClaimed_1 := ⟨start1.p0, start1.e0, start1.about1, start1.theMethod, start1.args0, start1.below0, start1.atStart⟩
end Jvm.Pilot.@@N@@
