import JvmDerived
import JvmDerived.Pilot.@@N@@Statement
import JvmDerived.Pilot.@@N@@Code
set_option linter.unusedVariables false
set_option linter.unusedSimpArgs false
namespace Jvm.Pilot.@@N@@
open Jvm Jvm.ClassFile Sem Op Lib Jvm.Free Jvm.Stand Jvm.LawKit Jvm.RoadKit Bundle Jvm.Pilot.@@N@@.Jvm.D
/-! own_: the walk's goal in one piece (from this state on the body returns, and what it leaves says Q), its steps, its ends, its calls -/
theorem own_succ (k : Nat) : Int32.ofNat (k + 1) = Int32.ofNat k + 1 := (Int32.ofNat_succ k).symm
section OwnKit
variable {p : Program} {l : Launch} {e : Env} {R : Room} {s : State} {m : MethodId} {args : Array Value} {below : List Frame} {meth : Method} {c : Code} {T : State} {locs : List Loc} {cells slots : Nat} {Z : State} {a0 : Array Value} {h : Heap}
def own_Fin (p : Program) (e : Env) (below : List Frame) (s : State) (Q : Option Value → Heap → List Loc → Prop) (k n : Nat) (U : State) : Prop :=
  ∃ (s₂ : State) (o : Outcome), Steps p.tables e below U s₂ ∧ s₂.status = .running ∧ Ended s₂ below o ∧ ∃ v L, o = .returned v ∧ Q v s₂.heap L ∧ FrameEnd s o s₂ L k n
variable {Q : Option Value → Heap → List Loc → Prop} {k n : Nat}
theorem own_go {U U' : State} (st : ∀ t, Steps p.tables e below U' t → Steps p.tables e below U t) (F : own_Fin p e below s Q k n U') : own_Fin p e below s Q k n U := by
  obtain ⟨s2, o, h1, h2⟩ := F
  exact ⟨s2, o, st _ h1, h2⟩
theorem own_ret (X : Stand p l e R s m args below meth c T locs cells slots) (hx : p.tables.exec = Jvm.exec) {t : FieldType} (hret : meth.sig.returnType = some t) (hlk : meth.locks = false) {pc : Nat} {Ls : Array Slot} {w : Value} {i : Instr} {rest : List Value} (hn : narrow t w = w)
    (hi : (i = .ireturn ∧ (t = .int ∨ t = .boolean ∨ t = .byte ∨ t = .char ∨ t = .short) ∧ ∃ z, w = .int z) ∨ (i = .lreturn ∧ t = .long ∧ ∃ z, w = .long z) ∨ (i = .dreturn ∧ t = .double ∧ ∃ z, w = .double z) ∨ (i = .freturn ∧ t = .float ∧ ∃ z, w = .float z) ∨ (i = .areturn ∧ t.isReference = true ∧ w.isRef = true))
    (hd : decode c.code pc = .ok (i, 1)) (hQ : Q (some w) T.heap locs) (hc : cells ≤ k) (hs : slots ≤ n) : own_Fin p e below s Q k n (T.setTop (mkF m pc Ls (w :: rest))) := by
  obtain ⟨fs, hr, hrun, hended, hW, hsame⟩ := X.leave (v := some w) (fun h => by rw [hret] at h; cases h) hlk
  exact ⟨_, _, retOut X hx hret hn hi hd hr, hrun, hended, _, _, rfl, hQ, ⟨_, rfl⟩, hW, hsame.mono hc hs⟩
theorem own_retI (X : Stand p l e R s m args below meth c T locs cells slots) (hx : p.tables.exec = Jvm.exec) (hret : meth.sig.returnType = some .int) (hlk : meth.locks = false) {pc : Nat} {Ls : Array Slot} {z : Int32} {rest : List Value}
    (hd : decode c.code pc = .ok (.ireturn, 1)) (hQ : Q (some (.int z)) T.heap locs) (hc : cells ≤ k) (hs : slots ≤ n) : own_Fin p e below s Q k n (T.setTop (mkF m pc Ls (.int z :: rest))) :=
  own_ret X hx hret hlk rfl (Or.inl ⟨rfl, Or.inl rfl, z, rfl⟩) hd hQ hc hs
theorem own_retN (X : Stand p l e R s m args below meth c T locs cells slots) (hx : p.tables.exec = Jvm.exec) {t : FieldType} (hret : meth.sig.returnType = some t) (ht : t = .boolean ∨ t = .byte ∨ t = .char ∨ t = .short) (hlk : meth.locks = false) {pc : Nat} {Ls : Array Slot} {z : Int32} {rest : List Value}
    (hd : decode c.code pc = .ok (.ireturn, 1)) (hQ : Q (some (.int (nar t z))) T.heap locs) (hc : cells ≤ k) (hs : slots ≤ n) : own_Fin p e below s Q k n (T.setTop (mkF m pc Ls (.int z :: rest))) := by
  obtain ⟨fs, hr, hrun, hended, hW, hsame⟩ := X.leave (v := some (.int (nar t z))) (fun h => by rw [hret] at h; cases h) hlk
  exact ⟨_, _, retN X hx hret ht hd hr, hrun, hended, _, _, rfl, hQ, ⟨_, rfl⟩, hW, hsame.mono hc hs⟩
theorem own_retL (X : Stand p l e R s m args below meth c T locs cells slots) (hx : p.tables.exec = Jvm.exec) (hret : meth.sig.returnType = some .long) (hlk : meth.locks = false) {pc : Nat} {Ls : Array Slot} {z : Int64} {rest : List Value}
    (hd : decode c.code pc = .ok (.lreturn, 1)) (hQ : Q (some (.long z)) T.heap locs) (hc : cells ≤ k) (hs : slots ≤ n) : own_Fin p e below s Q k n (T.setTop (mkF m pc Ls (.long z :: rest))) :=
  own_ret X hx hret hlk rfl (Or.inr (Or.inl ⟨rfl, rfl, z, rfl⟩)) hd hQ hc hs
theorem own_retA (X : Stand p l e R s m args below meth c T locs cells slots) (hx : p.tables.exec = Jvm.exec) {t : FieldType} (hret : meth.sig.returnType = some t) (ht : t.isReference = true) (hlk : meth.locks = false) {pc : Nat} {Ls : Array Slot} {w : Value} {rest : List Value} (hw : w.isRef = true)
    (hd : decode c.code pc = .ok (.areturn, 1)) (hQ : Q (some w) T.heap locs) (hc : cells ≤ k) (hs : slots ≤ n) : own_Fin p e below s Q k n (T.setTop (mkF m pc Ls (w :: rest))) :=
  own_ret X hx hret hlk (by rcases ref_cases hw with rfl | ⟨z, rfl⟩ <;> cases t <;> rfl) (Or.inr (Or.inr (Or.inr (Or.inr ⟨rfl, ht, hw⟩)))) hd hQ hc hs
theorem own_retV (X : Stand p l e R s m args below meth c T locs cells slots) (hx : p.tables.exec = Jvm.exec) (hret : meth.sig.returnType = none) (hlk : meth.locks = false) {pc : Nat} {Ls : Array Slot}
    (hd : decode c.code pc = .ok (.return_, 1)) (hQ : Q none T.heap locs) (hc : cells ≤ k) (hs : slots ≤ n) : own_Fin p e below s Q k n (T.setTop (mkF m pc Ls [])) := by
  obtain ⟨fs, hr, hrun, hended, hW, hsame⟩ := X.leave (v := none) (fun _ => rfl) hlk
  exact ⟨_, _, X.returnOut hx hret hd hr, hrun, hended, _, _, rfl, hQ, ⟨_, rfl⟩, hW, hsame.mono hc hs⟩
/-- a body's contract: called with these arguments at this heap it returns, and what it leaves says Q -/
abbrev own_C (l : Launch) (Z : State) (y : MethodName) (bytes : ByteArray) (maxL : Nat) (ret : Option FieldType) (ws : List Jvm.Cond) (rm : Room) (as' : Array Value) (h0 : Heap) (Q : Option Value → Heap → List Loc → Prop) : Prop :=
  MetFree l y (head1 (Jvm.Cond.code y bytes maxL ret :: ws) rm) (fun a U => a = as' ∧ Z.Warmed39 U.vm ∧ U.heap = h0) (fun _ _ _ _ _ => True) (fun _ U o U' => ∃ v L, o = .returned v ∧ Q v U'.heap L ∧ FrameEnd U o U' L rm.cells rm.slots)
theorem own_body {y : MethodName} {bytes : ByteArray} {maxL : Nat} {ret : Option FieldType} {ws : List Jvm.Cond} {rm : Room} {as' : Array Value} {h0 : Heap} (hpn : plainFor y = true)
    (body : ∀ (p : Program) (e : Env) (s : State) (m : MethodId) (below : List Frame) (meth : Method) (c : Code) (s₁ : State), p.tables.exec = Jvm.exec → c.code = bytes → c.maxLocals = maxL → meth.sig.returnType = ret → meth.locks = false → s.vm.findClass y.cls = some m.cls → meth.name = y.name → Z.Warmed39 s.vm →
      Stand p l e rm s m as' below meth c s₁ [] 0 0 → s₁.heap = h0 → own_Fin p e below s Q rm.cells rm.slots (s₁.setTop (entryFrame m as' maxL))) : own_C l Z y bytes maxL ret ws rm as' h0 Q := by
  refine MetFree.of_bodySF hpn hisR ?_
  intro p e s m args below meth c s₁ Bd hml0 hP hK
  obtain ⟨rfl, hZ, hh⟩ := hP
  exact body p e s m below meth c s₁ Bd.exec Bd.bytes hml0 Bd.returns Bd.notSynchronized (findClass_of_methodNamed Bd.named) (name_of_methodNamed Bd.named Bd.method).1 hZ (Stand.of_body Bd) (by rw [← hh, Bd.state]; rfl)
theorem own_callS (X : Stand p l e R s m args below meth c T locs cells slots) (hx : p.tables.exec = Jvm.exec) (hZ : Z.Warmed39 s.vm) {own : String} {index : Nat} {y : MethodName} {bytes : ByteArray} {maxL : Nat} {ret : Option FieldType} (hown : s.vm.findClass own = some m.cls)
    (w1 : (Cond.methodLink own index y).before a0 Z = true) (w2 : (Cond.static y).before a0 Z = true) (w3 : (Cond.initialized y.cls).before a0 Z = true) (w4 : (Cond.code y bytes maxL ret).before a0 Z = true) (hy : y.cls ≠ "java/lang/invoke/MethodHandle" ∧ y.cls ≠ "java/lang/invoke/VarHandle")
    {rm : Room} {argsL rest : List Value} {as' : Array Value} (hM : own_C l Z y bytes maxL ret [] rm as' h Q) {W : Nat} (hf : rm.frames + 1 ≤ R.frames) (hl : W + (maxL + 11) + rm.locals ≤ R.locals) {g : JFrame} (hg : g.method = m) (hsize : g.locals.size = c.maxLocals)
    (hlen : ∀ sig, parseMethodDescriptor y.desc = some sig → argsL.length = sig.parameters.length) (hstack : g.stack = argsL.reverse ++ rest) (has : argsL.toArray = as') (hW : 2 * g.monitorRoom + (rest.map fun v => v.category).sum ≤ W) (hdg : decode c.code g.pc = .ok (.invokestatic index, 3)) (eT : T.heap = h)
    (hc : cells + rm.cells ≤ R.cells) (hs : slots + rm.slots ≤ R.slots) :
    ∃ (v : Option Value) (T' : State) (h' : Heap) (L : List Loc), T'.heap = h' ∧ Stand p l e R s m args below meth c T' (locs ++ L) (cells + rm.cells) (slots + rm.slots) ∧ Q v h' L ∧ ∀ target, Steps p.tables e below (T'.setTop { g with pc := g.pc + 3, stack := v.toList ++ rest }) target → Steps p.tables e below (T.setTop g) target := by
  obtain ⟨v, vm, ⟨T', L', k', n'⟩, -, X', ⟨Lc, hQ, l1, y1, z1⟩, st⟩ := Jvm.LawKit.callS X hx (y := y) hown (mvT hZ w1) (mvT hZ w2) (mvT hZ w3) (mvT hZ w4) hy (backOf (W := W) hM hZ w4 w3 hf hl) hg hsize hlen hstack hW hdg (fun _ _ => ⟨has, eT, hc, hs⟩)
  dsimp only [Pt.U, Pt.locs, Pt.cells, Pt.slots] at X' l1 y1 z1 st hQ
  subst l1 y1 z1
  exact ⟨v, T', _, Lc, rfl, X', hQ, st⟩
theorem own_callC (X : Stand p l e R s m args below meth c T locs cells slots) (hx : p.tables.exec = Jvm.exec) (hZ : Z.Warmed39 s.vm) {own : String} {index : Nat} {y : MethodName} {bytes : ByteArray} {maxL : Nat} (hy1 : y.name = "<init>") (hown : s.vm.findClass own = some m.cls)
    (w1 : (Cond.methodLink own index y).before a0 Z = true) (w2 : (Cond.instanceMethod y).before a0 Z = true) (w3 : (Cond.initialized y.cls).before a0 Z = true) (w4 : (Cond.code y bytes maxL none).before a0 Z = true) (hy : y.cls ≠ "java/lang/invoke/MethodHandle" ∧ y.cls ≠ "java/lang/invoke/VarHandle")
    {rm : Room} {a : Addr} {argsL rest : List Value} {as' : Array Value} (hM : own_C l Z y bytes maxL none [] rm as' h Q) {W : Nat} (hf : rm.frames + 1 ≤ R.frames) (hl : W + (maxL + 11) + rm.locals ≤ R.locals) {g : JFrame} (hg : g.method = m) (hsize : g.locals.size = c.maxLocals)
    (hlen : ∀ sig, parseMethodDescriptor y.desc = some sig → argsL.length = sig.parameters.length) (hstack : g.stack = argsL.reverse ++ .ref a :: rest) (has : (.ref a :: argsL).toArray = as') (hW : 2 * g.monitorRoom + (rest.map fun v => v.category).sum ≤ W) (hdg : decode c.code g.pc = .ok (.invokespecial index, 3)) (eT : T.heap = h)
    (hc : cells + rm.cells ≤ R.cells) (hs : slots + rm.slots ≤ R.slots) :
    ∃ (v : Option Value) (T' : State) (h' : Heap) (L : List Loc), T'.heap = h' ∧ Stand p l e R s m args below meth c T' (locs ++ L) (cells + rm.cells) (slots + rm.slots) ∧ Q v h' L ∧ ∀ target, Steps p.tables e below (T'.setTop { g with pc := g.pc + 3, stack := v.toList ++ rest }) target → Steps p.tables e below (T.setTop g) target := by
  obtain ⟨v, vm, ⟨T', L', k', n'⟩, -, X', ⟨Lc, hQ, l1, y1, z1⟩, st⟩ := X.specialBack hx (y := y) hy1 hown (mvT hZ w1) (mvT hZ w2) (mvT hZ w4) hy (backOf (W := W) hM hZ w4 w3 hf hl) hg hsize (Steps.refl _) hlen hstack hW hdg (fun _ _ => ⟨has, eT, hc, hs⟩)
  dsimp only [Pt.U, Pt.locs, Pt.cells, Pt.slots] at X' l1 y1 z1 st hQ
  subst l1 y1 z1
  exact ⟨v, T', _, Lc, rfl, X', hQ, fun _ k => st.trans k⟩
theorem own_callV (X : Stand p l e R s m args below meth c T locs cells slots) (hx : p.tables.exec = Jvm.exec) (hZ : Z.Warmed39 s.vm) {own C : String} {index : Nat} {y z : MethodName} {bytes : ByteArray} {maxL : Nat} {ret : Option FieldType} (hown : s.vm.findClass own = some m.cls)
    (w1 : (Cond.methodLink own index y).before a0 Z = true) (w2 : (Cond.declares y).before a0 Z = true) (hnf : NotFace s y) (w5 : (Cond.selects C y z).before a0 Z = true) (w6 : (Cond.instanceMethod z).before a0 Z = true) (w3 : (Cond.initialized z.cls).before a0 Z = true) (w4 : (Cond.code z bytes maxL ret).before a0 Z = true) (hy : y.cls ≠ "java/lang/invoke/MethodHandle" ∧ y.cls ≠ "java/lang/invoke/VarHandle")
    {rm : Room} {a : Addr} (E : Exa Z h a C) {argsL rest : List Value} {as' : Array Value} (hM : own_C l Z z bytes maxL ret [] rm as' h Q) {W : Nat} (hf : rm.frames + 1 ≤ R.frames) (hl : W + (maxL + 11) + rm.locals ≤ R.locals) {g : JFrame} (hg : g.method = m) (hsize : g.locals.size = c.maxLocals)
    (hlen : ∀ sig, parseMethodDescriptor y.desc = some sig → argsL.length = sig.parameters.length) (hstack : g.stack = argsL.reverse ++ .ref a :: rest) (has : (.ref a :: argsL).toArray = as') (hW : 2 * g.monitorRoom + (rest.map fun v => v.category).sum ≤ W) (hdg : decode c.code g.pc = .ok (.invokevirtual index, 3)) (eT : T.heap = h)
    (hc : cells + rm.cells ≤ R.cells) (hs : slots + rm.slots ≤ R.slots) :
    ∃ (v : Option Value) (T' : State) (h' : Heap) (L : List Loc), T'.heap = h' ∧ Stand p l e R s m args below meth c T' (locs ++ L) (cells + rm.cells) (slots + rm.slots) ∧ Q v h' L ∧ ∀ target, Steps p.tables e below (T'.setTop { g with pc := g.pc + 3, stack := v.toList ++ rest }) target → Steps p.tables e below (T.setTop g) target := by
  obtain ⟨cq, kq, qa, qb, qc⟩ := isOf hZ eT E
  obtain ⟨v, vm, ⟨T', L', k', n'⟩, -, X', ⟨Lc, hQ, l1, y1, z1⟩, st⟩ := X.virtualBack hx (y := y) (z := z) hown (mvT hZ w1) (mvT hZ w2) hnf (mvT hZ w5) (mvT hZ w6) hy (backOf (W := W) hM hZ w4 w3 hf hl) qa qc hg hsize (Steps.refl _) hlen hstack hW hdg (fun _ _ => ⟨has, eT, hc, hs⟩)
  dsimp only [Pt.U, Pt.locs, Pt.cells, Pt.slots] at X' l1 y1 z1 st hQ
  subst l1 y1 z1
  exact ⟨v, T', _, Lc, rfl, X', hQ, fun _ k => st.trans k⟩
theorem own_callI (X : Stand p l e R s m args below meth c T locs cells slots) (hx : p.tables.exec = Jvm.exec) (hZ : Z.Warmed39 s.vm) {own C : String} {index count : Nat} {y z : MethodName} {bytes : ByteArray} {maxL : Nat} {ret : Option FieldType} (hown : s.vm.findClass own = some m.cls)
    (w1 : (Cond.methodLink own index y).before a0 Z = true) (w2 : (Cond.declares y).before a0 Z = true) (w7 : (Cond.interfaceMethod y.cls y.cls y.name y.desc).before args s = true) (w5 : (Cond.selects C y z).before a0 Z = true) (w6 : (Cond.instanceMethod z).before a0 Z = true) (w8 : (Cond.publicMethod z).before a0 Z = true)
    (w9 : (Cond.unhidden C y.name y.desc).before a0 Z = true) (w10 : (Cond.castable C y.cls).before a0 Z = true) (w3 : (Cond.initialized z.cls).before a0 Z = true) (w4 : (Cond.code z bytes maxL ret).before a0 Z = true) (hy : y.cls ≠ "java/lang/invoke/MethodHandle" ∧ y.cls ≠ "java/lang/invoke/VarHandle")
    {rm : Room} {a : Addr} (E : Exa Z h a C) {argsL rest : List Value} {as' : Array Value} (hM : own_C l Z z bytes maxL ret [] rm as' h Q) {W : Nat} (hf : rm.frames + 1 ≤ R.frames) (hl : W + (maxL + 11) + rm.locals ≤ R.locals) {g : JFrame} (hg : g.method = m) (hsize : g.locals.size = c.maxLocals)
    (hlen : ∀ sig, parseMethodDescriptor y.desc = some sig → argsL.length = sig.parameters.length) (hstack : g.stack = argsL.reverse ++ .ref a :: rest) (has : (.ref a :: argsL).toArray = as') (hW : 2 * g.monitorRoom + (rest.map fun v => v.category).sum ≤ W) (hdg : decode c.code g.pc = .ok (.invokeinterface index count, 5)) (eT : T.heap = h)
    (hc : cells + rm.cells ≤ R.cells) (hs : slots + rm.slots ≤ R.slots) :
    ∃ (v : Option Value) (T' : State) (h' : Heap) (L : List Loc), T'.heap = h' ∧ Stand p l e R s m args below meth c T' (locs ++ L) (cells + rm.cells) (slots + rm.slots) ∧ Q v h' L ∧ ∀ target, Steps p.tables e below (T'.setTop { g with pc := g.pc + 5, stack := v.toList ++ rest }) target → Steps p.tables e below (T.setTop g) target := by
  obtain ⟨cq, kq, qa, qb, qc⟩ := isOf hZ eT E
  obtain ⟨v, vm, ⟨T', L', k', n'⟩, -, X', ⟨Lc, hQ, l1, y1, z1⟩, st⟩ := X.interfaceBack hx (xi := y) (y := z) hown (mvT hZ w1) (mvT hZ w2) w7 (mvT hZ w5) (mvT hZ w6) (mvT hZ w8) (mvT hZ w9) (mvT hZ w10) hy (backOf (W := W) hM hZ w4 w3 hf hl) qa qb qc hg hsize (Steps.refl _) hlen hstack hW hdg (fun _ _ => ⟨has, eT, hc, hs⟩)
  dsimp only [Pt.U, Pt.locs, Pt.cells, Pt.slots] at X' l1 y1 z1 st hQ
  subst l1 y1 z1
  exact ⟨v, T', _, Lc, rfl, X', hQ, fun _ k => st.trans k⟩
theorem own_callP (X : Stand p l e R s m args below meth c T locs cells slots) (hx : p.tables.exec = Jvm.exec) (hZ : Z.Warmed39 s.vm) {own C : String} {index : Nat} {y : MethodName} {bytes : ByteArray} {maxL : Nat} {ret : Option FieldType} (hown : s.vm.findClass own = some m.cls)
    (w1 : (Cond.methodLink own index y).before a0 Z = true) (w6 : (Cond.instanceMethod y).before a0 Z = true) (w5 : (Cond.selects y.cls y y).before a0 Z = true) (w7 : (Cond.privateMethod y).before a0 Z = true) (w3 : (Cond.initialized y.cls).before a0 Z = true) (w4 : (Cond.code y bytes maxL ret).before a0 Z = true) (hy : y.cls ≠ "java/lang/invoke/MethodHandle" ∧ y.cls ≠ "java/lang/invoke/VarHandle")
    {rm : Room} {a : Addr} (E : Exa Z h a C) {argsL rest : List Value} {as' : Array Value} (hM : own_C l Z y bytes maxL ret [] rm as' h Q) {W : Nat} (hf : rm.frames + 1 ≤ R.frames) (hl : W + (maxL + 11) + rm.locals ≤ R.locals) {g : JFrame} (hg : g.method = m) (hsize : g.locals.size = c.maxLocals)
    (hlen : ∀ sig, parseMethodDescriptor y.desc = some sig → argsL.length = sig.parameters.length) (hstack : g.stack = argsL.reverse ++ .ref a :: rest) (has : (.ref a :: argsL).toArray = as') (hW : 2 * g.monitorRoom + (rest.map fun v => v.category).sum ≤ W) (hdg : decode c.code g.pc = .ok (.invokevirtual index, 3)) (eT : T.heap = h)
    (hc : cells + rm.cells ≤ R.cells) (hs : slots + rm.slots ≤ R.slots) :
    ∃ (v : Option Value) (T' : State) (h' : Heap) (L : List Loc), T'.heap = h' ∧ Stand p l e R s m args below meth c T' (locs ++ L) (cells + rm.cells) (slots + rm.slots) ∧ Q v h' L ∧ ∀ target, Steps p.tables e below (T'.setTop { g with pc := g.pc + 3, stack := v.toList ++ rest }) target → Steps p.tables e below (T.setTop g) target := by
  obtain ⟨cq, q, q'⟩ := E.cell
  obtain ⟨v, vm, ⟨T', L', k', n'⟩, -, X', ⟨Lc, hQ, l1, y1, z1⟩, st⟩ := X.privateBack hx (y := y) hown (mvT hZ w1) (mvT hZ w6) (mvT hZ w5) (Cond.privateMethod_at (mvP hZ w7 (args := #[]))) (mvT hZ w4) hy (backOf (W := W) hM hZ w4 w3 hf hl) hg hsize (Steps.refl _) (a := a) (by rw [eT]; exact q) q' hlen hstack hW hdg (fun _ _ => ⟨has, eT, hc, hs⟩)
  dsimp only [Pt.U, Pt.locs, Pt.cells, Pt.slots] at X' l1 y1 z1 st hQ
  subst l1 y1 z1
  exact ⟨v, T', _, Lc, rfl, X', hQ, fun _ k => st.trans k⟩
theorem own_lremM {g : JFrame} {target : State} (X : Stand p l e R s m args below meth c T locs cells slots) (hx : p.tables.exec = Jvm.exec) (hg : g.method = m) {x y : Int64} {rest : List Value} (hd : decode c.code g.pc = .ok (.lrem, 1)) (hs : g.stack = .long y :: .long x :: rest) (hy : y ≠ 0)
    (hr : Steps p.tables e below (T.setTop { g with pc := g.pc + 1, stack := .long (x % y) :: rest }) target) : Steps p.tables e below (T.setTop g) target :=
  XS.lrem X.here hx hg hd hs hy (by rw [lrem_mod]; exact hr)
theorem own_mono (X : Stand p l e R s m args below meth c T locs cells slots) {cells' slots' : Nat} (hc : cells ≤ cells') (hs : slots ≤ slots') : Stand p l e R s m args below meth c T locs cells' slots' :=
  ⟨X.admits, X.cas, X.clock, X.frames, X.room, X.hears, X.method, X.code, X.here, X.tail, X.warmed, X.limits, X.bytes, X.same.mono hc hs⟩
end OwnKit
section OwnArr
variable {Z : State} {h h' : Heap} {a b : Addr} {k : ClassId} {ty : FieldType} {vs : List Value} {v : Value} {sl : Nat} {wl : List Addr}
/-- the array at a holds just these values -/
def own_Ar (Z : State) (h : Heap) (a : Addr) (k : ClassId) (ty : FieldType) (vs : List Value) : Prop := ∃ c : Cell, Arr Z h a c ty ∧ c.cls = k ∧ c.slots = vs.toArray ∧ vs.length < 2 ^ 31 ∧ ∀ v ∈ vs, fits ty v = true
theorem own_Ar.lt (F : own_Ar Z h a k ty vs) : a < h.size := by obtain ⟨c, A, -⟩ := F; exact A.lt
theorem own_Ar.ext (F : own_Ar Z h a k ty vs) (E : Ext h h') : own_Ar Z h' a k ty vs := by obtain ⟨c, A, r⟩ := F; exact ⟨c, A.ext E, r⟩
theorem own_Ar.other (F : own_Ar Z h b k ty vs) (W : Wr h h' a sl v) (q : b ≠ a) : own_Ar Z h' b k ty vs := by obtain ⟨c, A, r⟩ := F; exact ⟨c, A.other W q, r⟩
theorem own_Ar.keep (F : own_Ar Z h a k ty vs) (K : Keep h h' wl) (q : a ∉ wl) : own_Ar Z h' a k ty vs := by obtain ⟨c, A, r⟩ := F; exact ⟨c, ⟨K.2.1 _ _ A.1 q, A.2⟩, r⟩
theorem own_Ar.new {z : Int32} (A : Arr Z h a (newA k ty z) ty) (hf : fits ty (defaultValue ty) = true) : own_Ar Z h a k ty (List.replicate z.toNatClampNeg (defaultValue ty)) := by
  refine ⟨_, A, rfl, by simp [newA], ?_, fun v hv => by rw [List.eq_of_mem_replicate hv]; exact hf⟩
  rw [List.length_replicate]
  have := z.toInt_lt
  rw [Int32.toNatClampNeg]
  omega
theorem own_Ar.set {j : Nat} (F : own_Ar Z h a k ty vs) (W : Wr h h' a j v) (hv : fits ty v = true) : own_Ar Z h' a k ty (vs.set j v) := by
  obtain ⟨c, A, q, s, l, f⟩ := F
  refine ⟨_, A.same W, q, ?_, by rw [List.length_set]; exact l, fun w hw => ?_⟩
  · show c.slots.setIfInBounds j v = _
    rw [s]; simp
  · rcases List.mem_or_eq_of_mem_set hw with hw | rfl
    · exact f w hw
    · exact hv
theorem own_Ar.arv (F : own_Ar Z h a k ty vs) (d : Value) : Arv Z h a k ty (Int32.ofNat vs.length) vs d := by
  obtain ⟨c, A, q, s, l, f⟩ := F
  have hl : (Int32.ofNat vs.length).toNatClampNeg = vs.length := by
    rw [Int32.toNatClampNeg, Int32.toInt_ofNat_of_lt (by omega)]; rfl
  have h0 : ¬ Int32.ofNat vs.length < 0 := by
    rw [Int32.lt_iff_toInt_lt, Int32.toInt_ofNat_of_lt (by omega)]; simp
  refine ⟨c, A, q, by rw [s, hl]; simp, h0, fun i hi => ?_, fun i hi => ?_⟩
  · rw [s] at hi ⊢
    simp only [List.size_toArray] at hi
    simp [List.getD, List.getElem?_eq_getElem hi]
  · rw [s] at hi
    simp only [List.size_toArray] at hi
    simp only [List.getD, List.getElem?_eq_getElem hi, Option.getD_some]
    exact f _ (List.getElem_mem hi)
theorem own_Ar.of_arv {z : Int32} {d : Value} (F : Arv Z h a k ty z vs d) (hl : z.toNatClampNeg = vs.length) : own_Ar Z h a k ty vs := by
  obtain ⟨c, A, q, s, l, H, f⟩ := F
  have hs : c.slots.size = vs.length := s.trans hl
  have e : c.slots = vs.toArray := by
    apply Array.ext_getElem?
    intro i
    by_cases hi : i < c.slots.size
    · rw [H i hi]
      have hi' : i < vs.length := hs ▸ hi
      simp [List.getD, List.getElem?_eq_getElem hi']
    · rw [Array.getElem?_eq_none (Nat.le_of_not_lt hi), Array.getElem?_eq_none (by simpa [← hs] using Nat.le_of_not_lt hi)]
  refine ⟨c, A, q, e, ?_, fun v hv => ?_⟩
  · rw [← hl]; have := z.toInt_lt; rw [Int32.toNatClampNeg]; omega
  · obtain ⟨i, hi, rfl⟩ := List.mem_iff_getElem.mp hv
    have := f i (hs ▸ hi)
    simpa [List.getD, List.getElem?_eq_getElem hi] using this
end OwnArr
section OwnArrSteps
variable {p : Program} {l : Launch} {e : Env} {R : Room} {s : State} {m : MethodId} {args : Array Value} {below : List Frame} {meth : Method} {c : Code} {T : State} {locs : List Loc} {cells slots : Nat} {Z : State} {a0 : Array Value} {h : Heap} {a : Addr} {k : ClassId} {ty : FieldType} {vs : List Value} {v : Value}
theorem own_inb {c : Cell} {vs : List Value} {j : Int32} (hs : c.slots = vs.toArray) (h0 : ¬ j < 0) (hj : j.toNatClampNeg < vs.length) : ¬ (j < 0 ∨ c.slots.size ≤ j.toNatClampNeg) := by
  rw [hs]; rintro (q | q)
  · exact h0 q
  · simp only [List.size_toArray] at q; omega
theorem own_arrlen (X : Stand p l e R s m args below meth c T locs cells slots) (hx : p.tables.exec = Jvm.exec) (hZ : Z.Warmed39 s.vm) (eT : T.heap = h) (F : own_Ar Z h a k ty vs) {n : Int32} (hn : Int32.ofNat vs.length = n) {g : JFrame} (hg : g.method = m) {rest : List Value} (hs : g.stack = .ref a :: rest) (hd : decode c.code g.pc = .ok (.arraylength, 1)) :
    ∀ target, Steps p.tables e below (T.setTop { g with pc := g.pc + 1, stack := .int n :: rest }) target → Steps p.tables e below (T.setTop g) target := by
  obtain ⟨cl, A, q, sz, ln, f⟩ := F
  intro t kk
  refine X.arraylength hx (by rw [eT]; exact A.1) (State.isArrayOf_alike hZ.alike A.2.1) hg hs hd t ?_
  have : cl.slots.size.toInt32 = n := by rw [sz, ← hn]; rfl
  rw [this]; exact kk
theorem own_iaload (X : Stand p l e R s m args below meth c T locs cells slots) (hx : p.tables.exec = Jvm.exec) (hZ : Z.Warmed39 s.vm) (eT : T.heap = h) (F : own_Ar Z h a k .int vs) {j : Int32} (h0 : ¬ j < 0) {i : Nat} (hj : j.toNatClampNeg = i) (hv : vs[i]? = some v) {g : JFrame} (hg : g.method = m) {rest : List Value} (hs : g.stack = .int j :: .ref a :: rest) (hd : decode c.code g.pc = .ok (.iaload, 1)) :
    ∀ target, Steps p.tables e below (T.setTop { g with pc := g.pc + 1, stack := v :: rest }) target → Steps p.tables e below (T.setTop g) target := by
  obtain ⟨cl, A, q, sz, ln, f⟩ := F
  subst hj
  exact X.iaload hx (by rw [eT]; exact A.1) (State.isArrayOf_alike hZ.alike A.2.1) A.2.2 (own_inb sz h0 (List.getElem?_eq_some_iff.mp hv).1) (by rw [sz]; simpa using hv) hg hs hd
theorem own_laload (X : Stand p l e R s m args below meth c T locs cells slots) (hx : p.tables.exec = Jvm.exec) (hZ : Z.Warmed39 s.vm) (eT : T.heap = h) (F : own_Ar Z h a k .long vs) {j : Int32} (h0 : ¬ j < 0) {i : Nat} (hj : j.toNatClampNeg = i) (hv : vs[i]? = some v) {g : JFrame} (hg : g.method = m) {rest : List Value} (hs : g.stack = .int j :: .ref a :: rest) (hd : decode c.code g.pc = .ok (.laload, 1)) :
    ∀ target, Steps p.tables e below (T.setTop { g with pc := g.pc + 1, stack := v :: rest }) target → Steps p.tables e below (T.setTop g) target := by
  obtain ⟨cl, A, q, sz, ln, f⟩ := F
  subst hj
  exact X.laload hx (by rw [eT]; exact A.1) (State.isArrayOf_alike hZ.alike A.2.1) A.2.2 (own_inb sz h0 (List.getElem?_eq_some_iff.mp hv).1) (by rw [sz]; simpa using hv) hg hs hd
theorem own_baload (X : Stand p l e R s m args below meth c T locs cells slots) (hx : p.tables.exec = Jvm.exec) (hZ : Z.Warmed39 s.vm) (eT : T.heap = h) (F : own_Ar Z h a k .byte vs) {j : Int32} (h0 : ¬ j < 0) {i : Nat} (hj : j.toNatClampNeg = i) (hv : vs[i]? = some v) {g : JFrame} (hg : g.method = m) {rest : List Value} (hs : g.stack = .int j :: .ref a :: rest) (hd : decode c.code g.pc = .ok (.baload, 1)) :
    ∀ target, Steps p.tables e below (T.setTop { g with pc := g.pc + 1, stack := v :: rest }) target → Steps p.tables e below (T.setTop g) target := by
  obtain ⟨cl, A, q, sz, ln, f⟩ := F
  subst hj
  exact X.baloadBytes hx (by rw [eT]; exact A.1) (State.isArrayOf_alike hZ.alike A.2.1) A.2.2 (own_inb sz h0 (List.getElem?_eq_some_iff.mp hv).1) (by rw [sz]; simpa using hv) hg hs hd
theorem own_aaload (X : Stand p l e R s m args below meth c T locs cells slots) (hx : p.tables.exec = Jvm.exec) (hZ : Z.Warmed39 s.vm) (eT : T.heap = h) (F : own_Ar Z h a k ty vs) (hty : ty.isReference = true) {j : Int32} (h0 : ¬ j < 0) {i : Nat} (hj : j.toNatClampNeg = i) (hv : vs[i]? = some v) {g : JFrame} (hg : g.method = m) {rest : List Value} (hs : g.stack = .int j :: .ref a :: rest) (hd : decode c.code g.pc = .ok (.aaload, 1)) :
    ∀ target, Steps p.tables e below (T.setTop { g with pc := g.pc + 1, stack := v :: rest }) target → Steps p.tables e below (T.setTop g) target := by
  obtain ⟨cl, A, q, sz, ln, f⟩ := F
  subst hj
  exact X.aaload hx (by rw [eT]; exact A.1) (State.isArrayOf_alike hZ.alike A.2.1) hty A.2.2 (own_inb sz h0 (List.getElem?_eq_some_iff.mp hv).1) (by rw [sz]; simpa using hv) hg hs hd
theorem own_iastore (X : Stand p l e R s m args below meth c T locs cells slots) (hx : p.tables.exec = Jvm.exec) (hZ : Z.Warmed39 s.vm) (eT : T.heap = h) (F : own_Ar Z h a k .int vs) {j x : Int32} (h0 : ¬ j < 0) {i : Nat} (hj : j.toNatClampNeg = i) (hi : i < vs.length) {g : JFrame} (hg : g.method = m) {rest : List Value} (hs : g.stack = .int x :: .int j :: .ref a :: rest) (hd : decode c.code g.pc = .ok (.iastore, 1)) :
    ∃ T' h', Stand p l e R s m args below meth c T' (locs ++ [⟨a, i⟩]) cells slots ∧ T'.heap = h' ∧ Wr h h' a i (.int x) ∧ own_Ar Z h' a k .int (vs.set i (.int x)) ∧ ∀ target, Steps p.tables e below (T'.setTop { g with pc := g.pc + 1, stack := rest }) target → Steps p.tables e below (T.setTop g) target := by
  have F' := F
  obtain ⟨cl, A, q, sz, ln, f⟩ := F
  subst hj
  obtain ⟨T', h', X', e', W, st⟩ := stI X hx hZ eT A (own_inb sz h0 hi) hg hs hd
  exact ⟨T', h', X', e', W, F'.set W rfl, st⟩
theorem own_lastore (X : Stand p l e R s m args below meth c T locs cells slots) (hx : p.tables.exec = Jvm.exec) (hZ : Z.Warmed39 s.vm) (eT : T.heap = h) (F : own_Ar Z h a k .long vs) {j : Int32} {x : Int64} (h0 : ¬ j < 0) {i : Nat} (hj : j.toNatClampNeg = i) (hi : i < vs.length) {g : JFrame} (hg : g.method = m) {rest : List Value} (hs : g.stack = .long x :: .int j :: .ref a :: rest) (hd : decode c.code g.pc = .ok (.lastore, 1)) :
    ∃ T' h', Stand p l e R s m args below meth c T' (locs ++ [⟨a, i⟩]) cells slots ∧ T'.heap = h' ∧ Wr h h' a i (.long x) ∧ own_Ar Z h' a k .long (vs.set i (.long x)) ∧ ∀ target, Steps p.tables e below (T'.setTop { g with pc := g.pc + 1, stack := rest }) target → Steps p.tables e below (T.setTop g) target := by
  have F' := F
  obtain ⟨cl, A, q, sz, ln, f⟩ := F
  subst hj
  obtain ⟨T', h', X', e', W, st⟩ := stJ X hx hZ eT A (own_inb sz h0 hi) hg hs hd
  exact ⟨T', h', X', e', W, F'.set W rfl, st⟩
theorem own_bastore (X : Stand p l e R s m args below meth c T locs cells slots) (hx : p.tables.exec = Jvm.exec) (hZ : Z.Warmed39 s.vm) (eT : T.heap = h) (F : own_Ar Z h a k .byte vs) {j x : Int32} (h0 : ¬ j < 0) {i : Nat} (hj : j.toNatClampNeg = i) (hi : i < vs.length) {g : JFrame} (hg : g.method = m) {rest : List Value} (hs : g.stack = .int x :: .int j :: .ref a :: rest) (hd : decode c.code g.pc = .ok (.bastore, 1)) :
    ∃ T' h', Stand p l e R s m args below meth c T' (locs ++ [⟨a, i⟩]) cells slots ∧ T'.heap = h' ∧ Wr h h' a i (.int x.toInt8.toInt32) ∧ own_Ar Z h' a k .byte (vs.set i (.int x.toInt8.toInt32)) ∧ ∀ target, Steps p.tables e below (T'.setTop { g with pc := g.pc + 1, stack := rest }) target → Steps p.tables e below (T.setTop g) target := by
  have F' := F
  obtain ⟨cl, A, q, sz, ln, f⟩ := F
  subst hj
  obtain ⟨T', h', X', e', W, st⟩ := stB X hx hZ eT A (own_inb sz h0 hi) hg hs hd
  exact ⟨T', h', X', e', W, F'.set W (fits_nar_byte _), st⟩
theorem own_aastore (X : Stand p l e R s m args below meth c T locs cells slots) (hx : p.tables.exec = Jvm.exec) (hZ : Z.Warmed39 s.vm) (eT : T.heap = h) (F : own_Ar Z h a k ty vs) (hty : ty.isReference = true) (hfv : fits ty v = true) (S : Sto Z h a v) {j : Int32} (h0 : ¬ j < 0) {i : Nat} (hj : j.toNatClampNeg = i) (hi : i < vs.length) {g : JFrame} (hg : g.method = m) {rest : List Value} (hs : g.stack = v :: .int j :: .ref a :: rest) (hd : decode c.code g.pc = .ok (.aastore, 1)) :
    ∃ T' h', Stand p l e R s m args below meth c T' (locs ++ [⟨a, i⟩]) cells slots ∧ T'.heap = h' ∧ Wr h h' a i v ∧ own_Ar Z h' a k ty (vs.set i v) ∧ ∀ target, Steps p.tables e below (T'.setTop { g with pc := g.pc + 1, stack := rest }) target → Steps p.tables e below (T.setTop g) target := by
  have F' := F
  obtain ⟨cl, A, q, sz, ln, f⟩ := F
  subst hj
  obtain ⟨T', h', X', e', W, st⟩ := stR X hx hZ eT A (own_inb sz h0 hi) hty S hg hs hd
  exact ⟨T', h', X', e', W, F'.set W hfv, st⟩
theorem own_newarr (X : Stand p l e R s m args below meth c T locs cells slots) (hx : p.tables.exec = Jvm.exec) (hZ : Z.Warmed39 s.vm) {aty : ArrayType} (w : (Cond.arrayClass (newarray.typeOf aty)).before a0 Z = true) (eT : T.heap = h) {g : JFrame} (hg : g.method = m) (hd : decode c.code g.pc = .ok (.newarray aty, 2)) {n : Int32} {rest : List Value} (hs : g.stack = .int n :: rest)
    (hn : ¬ n < 0) {cap : Nat} (hcap : n.toNatClampNeg ≤ cap) (hb : cap * 8 ≤ 536870912) (hc : cells + 1 ≤ R.cells) (hl : slots + cap ≤ R.slots) {ad : String} (had : "[" ++ (newarray.typeOf aty).toString = ad) (hf : fits (newarray.typeOf aty) (defaultValue (newarray.typeOf aty)) = true) (hvs : List.replicate n.toNatClampNeg (defaultValue (newarray.typeOf aty)) = vs) :
    ∃ T' h' cA, Stand p l e R s m args below meth c T' locs (cells + 1) (slots + cap) ∧ T'.heap = h' ∧ Ext h h' ∧ own_Ar Z h' h.size cA (newarray.typeOf aty) vs ∧ Exa Z h' h.size ad ∧
      ∀ target, Steps p.tables e below (T'.setTop { g with pc := g.pc + 2, stack := .ref h.size :: rest }) target → Steps p.tables e below (T.setTop g) target := by
  obtain ⟨T', h', cA, X', e', E, A, Ex, st⟩ := newPE X hx hZ w eT hg hd hs hn hcap hb hc hl had
  exact ⟨T', h', cA, X', e', E, hvs ▸ own_Ar.new A hf, Ex, st⟩
theorem own_anewarr (X : Stand p l e R s m args below meth c T locs cells slots) (hx : p.tables.exec = Jvm.exec) (hZ : Z.Warmed39 s.vm) {own C : String} {index : Nat} (hown : s.vm.findClass own = some m.cls) (w1 : (Cond.classLink own index C).before a0 Z = true) (w2 : (Cond.arrayOver (.object C)).before a0 Z = true) (eT : T.heap = h) {g : JFrame} (hg : g.method = m) (hd : decode c.code g.pc = .ok (.anewarray index, 3)) {n : Int32} {rest : List Value} (hs : g.stack = .int n :: rest)
    (hn : ¬ n < 0) {cap : Nat} (hcap : n.toNatClampNeg ≤ cap) (hb : cap * 8 ≤ 536870912) (hc : cells + 1 ≤ R.cells) (hl : slots + cap ≤ R.slots) (hvs : List.replicate n.toNatClampNeg Value.null = vs) :
    ∃ T' h' cA, Stand p l e R s m args below meth c T' locs (cells + 1) (slots + cap) ∧ T'.heap = h' ∧ Ext h h' ∧ own_Ar Z h' h.size cA (.object C) vs ∧ Ovr Z cA C ∧
      ∀ target, Steps p.tables e below (T'.setTop { g with pc := g.pc + 3, stack := .ref h.size :: rest }) target → Steps p.tables e below (T.setTop g) target := by
  obtain ⟨T', h', cA, X', e', E, A, O, st⟩ := newR X hx hZ hown w1 w2 eT hg hd hs hn hcap hb hc hl
  exact ⟨T', h', cA, X', e', E, hvs ▸ own_Ar.new A rfl, O, st⟩
theorem own_arrlenA (X : Stand p l e R s m args below meth c T locs cells slots) (hx : p.tables.exec = Jvm.exec) (hZ : Z.Warmed39 s.vm) (eT : T.heap = h) {cl : Cell} (A : Arr Z h a cl ty) {n : Int32} (hn : cl.slots.size.toInt32 = n) {g : JFrame} (hg : g.method = m) {rest : List Value} (hs : g.stack = .ref a :: rest) (hd : decode c.code g.pc = .ok (.arraylength, 1)) :
    ∀ target, Steps p.tables e below (T.setTop { g with pc := g.pc + 1, stack := .int n :: rest }) target → Steps p.tables e below (T.setTop g) target := by
  subst hn
  exact X.arraylength hx (by rw [eT]; exact A.1) (State.isArrayOf_alike hZ.alike A.2.1) hg hs hd
theorem own_len0 {args : Array Value} {s : State} {t : Term} {a : Addr} {n : Int32} {ty : FieldType} (ev : t.eval args s none [] s = some (.ref a)) (h6 : (Cond.arrayOf t ty).before args s = true) (h8 : (Cond.eq (.length t) (.int n)).before args s = true) : ∃ c : Cell, Arr s s.heap a c ty ∧ c.slots.size.toInt32 = n := by
  obtain ⟨c, A⟩ := Arr.start ev (Cond.before_iff.mp h6)
  have h8 := Cond.before_iff.mp h8
  obtain ⟨x, y, e1, -⟩ := cmp_v (Or.inl h8)
  obtain ⟨b, cell, q1, q2, rfl⟩ := Term.length_spec e1
  cases ev.symm.trans q1
  cases (Arr.fin (State.Warmed39.refl s).alike A).symm.trans q2
  exact ⟨_, A, gotT (Cond.eq_ints e1 (Term.int_eval n)) h8⟩
end OwnArrSteps
/-! the plain law -/
abbrev own_sh (z : Int64) (k : Int32) : Int64 := ((z.toUInt64 >>> (k &&& 0x3f).toInt64.toUInt64).toInt64)
def own_up (n : Int64) : Int64 := if (1 : Int64) < n then own_sh (n + (127 : Int64)) 7 else (0 : Int64)
def own_cd (a b : Int64) : Int64 := if (a % b) = (0 : Int64) then (a / b) else ((a / b) + (1 : Int64))
def own_lv : Nat → Int64 → List Int64
  | 0, _ => []
  | f + 1, b => if (1 : Int64) < b then own_cd b 128 :: own_lv f (own_cd b 128) else []
def own_us : Nat → Int64 → Int64
  | 0, _ => 0
  | f + 1, b => own_up b + own_us f (own_up b)
def own_acc : Int64 → List Int64 → Int64
  | s, [] => s
  | s, v :: r => own_acc (s + (v * (4096 : Int64))) r
theorem own_lv_pos {f : Nat} {b : Int64} (h : (1 : Int64) < b) : own_lv (f + 1) b = own_cd b 128 :: own_lv f (own_cd b 128) := by rw [own_lv, if_pos h]
theorem own_lv_neg {f : Nat} {b : Int64} (h : ¬ (1 : Int64) < b) : own_lv (f + 1) b = [] := by rw [own_lv, if_neg h]
theorem own_one : (1 : Int64).toInt = 1 := rfl
theorem own_zero : (0 : Int64).toInt = 0 := rfl
theorem own_cd_toInt {a b : Int64} (ha : 0 ≤ a.toInt) {d : Int} (hb : b.toInt = d) (hd : 1 < d) (hb1 : b ≠ -1) : (own_cd a b).toInt = a.toInt / d + (if a.toInt % d = 0 then 0 else 1) := by
  have e1 := (c_ldiv a b d hb hb1).1 ha
  have e2 : (a % b).toInt = a.toInt % d := by rw [Int64.toInt_mod, hb]; exact (tr _ _).1 ha
  have hlt := rng64 a
  have q0 : 0 ≤ a.toInt / d := Int.ediv_nonneg ha (by omega)
  have q2 : d * (a.toInt / d) ≤ a.toInt := Int.mul_ediv_self_le (by omega)
  have q3 : 2 * (a.toInt / d) ≤ d * (a.toInt / d) := Int.mul_le_mul_of_nonneg_right (by omega) q0
  unfold own_cd
  by_cases h : (a % b) = 0
  · have h' : a.toInt % d = 0 := by rw [← e2, h]; rfl
    rw [if_pos h, if_pos h', e1]; omega
  · have h' : ¬ a.toInt % d = 0 := fun q => h (Int64.toInt_inj.mp (by rw [e2, q]; rfl))
    rw [if_neg h, if_neg h']
    have a1 := c_ladd (a / b) 1
    have a2 := rng64 (a / b + 1)
    have a3 : 0 ≤ a.toInt / d := Int.ediv_nonneg ha (by omega)
    rw [own_one] at a1
    omega
theorem own_cd128 {b : Int64} (h0 : 0 ≤ b.toInt) {f : Nat} (h1 : b.toInt ≤ 128 ^ (f + 1)) : 0 ≤ (own_cd b 128).toInt ∧ (own_cd b 128).toInt ≤ 128 ^ f := by
  rw [own_cd_toInt h0 (d := 128) rfl (by decide) (by decide)]
  rw [Int.pow_succ] at h1
  generalize (128 : Int) ^ f = P at *
  split <;> omega
theorem own_up_cd {b : Int64} (h1 : (1 : Int64) < b) (h2 : b.toInt ≤ 128 ^ 8) : own_up b = own_cd b 128 := by
  rw [own_up, if_pos h1]
  rw [Int64.lt_iff_toInt_lt, own_one] at h1
  apply Int64.toInt_inj.mp
  rw [own_cd_toInt (by omega) (d := 128) rfl (by decide) (by decide)]
  have a1 := c_ladd b 127
  have a2 := rng64 (b + 127)
  have n : (127 : Int64).toInt = 127 := rfl
  have a3 := c_lushr (b + 127) 7 7 rfl (by decide)
  rw [own_sh, a3]
  have p8 : (128 : Int) ^ 8 = 72057594037927936 := by decide
  have e7 : ((2 ^ 7 : Nat) : Int) = 128 := rfl
  rw [e7]
  split <;> omega
theorem own_us_zero : ∀ f b, ¬ (1 : Int64) < b → own_us f b = 0
  | 0, _, _ => rfl
  | f + 1, b, h => by
    rw [own_us, own_up, if_neg h, own_us_zero f 0 (by decide)]; rfl
theorem own_sum : ∀ f b, 0 ≤ b.toInt → f ≤ 8 → b.toInt ≤ 128 ^ f → ∀ s, own_acc s (own_lv f b) = s + own_us f b * 4096
  | 0, b, _, _, _, s => by rw [own_lv, own_acc, own_us, Int64.zero_mul, Int64.add_zero]
  | f + 1, b, h0, hf, h1, s => by
    by_cases h : (1 : Int64) < b
    · obtain ⟨c0, c1⟩ := own_cd128 h0 h1
      have hle : b.toInt ≤ 128 ^ 8 := Int.le_trans h1 (by
        have hf7 : f = 0 ∨ f = 1 ∨ f = 2 ∨ f = 3 ∨ f = 4 ∨ f = 5 ∨ f = 6 ∨ f = 7 := by omega
        rcases hf7 with rfl | rfl | rfl | rfl | rfl | rfl | rfl | rfl <;> decide)
      rw [own_lv_pos h, own_acc, own_sum f _ c0 (by omega) c1, own_us, own_up_cd h hle, Int64.add_mul, Int64.add_assoc]
    · rw [own_lv_neg h, own_acc, own_us_zero _ _ h, Int64.zero_mul, Int64.add_zero]
theorem dup_0 : decode method_2_code 0 = .ok (.lload_n 0, 1) := by decide +kernel
theorem dup_1 : decode method_2_code 1 = .ok (.lconst 1, 1) := by decide +kernel
theorem dup_2 : decode method_2_code 2 = .ok (.lcmp, 1) := by decide +kernel
theorem dup_3 : decode method_2_code 3 = .ok (.ifCond .le 14, 3) := by decide +kernel
theorem dup_6 : decode method_2_code 6 = .ok (.lload_n 0, 1) := by decide +kernel
theorem dup_7 : decode method_2_code 7 = .ok (.ldc2_w 7, 3) := by decide +kernel
theorem dup_10 : decode method_2_code 10 = .ok (.ladd, 1) := by decide +kernel
theorem dup_11 : decode method_2_code 11 = .ok (.bipush 7, 2) := by decide +kernel
theorem dup_13 : decode method_2_code 13 = .ok (.lushr, 1) := by decide +kernel
theorem dup_14 : decode method_2_code 14 = .ok (.goto 4, 3) := by decide +kernel
theorem dup_17 : decode method_2_code 17 = .ok (.lconst 0, 1) := by decide +kernel
theorem dup_18 : decode method_2_code 18 = .ok (.lreturn, 1) := by decide +kernel
theorem own_pn0 : plainName "com/example/verity/verity/FsVerityTreeTreeSizePinLaw" = true := by first | (simp [plainName, overriddenIn]; done) | decide +kernel
theorem own_efup (m : MethodId) (q1 : Int64) : entryFrame m #[(.long q1)] 2 = mkF m 0 #[.val (.long q1), .second] [] := by first | (simp [entryFrame, mkF, argsToLocals, Value.category]; done) | rfl
set_option maxRecDepth 65536 in
set_option maxHeartbeats 40000000 in
theorem own_rmup (l : Launch) (Z : State) (a0 : Array Value) (hw : ∀ d ∈ tables_1, d.before a0 Z = true) (q1 : Int64) (h0 : Heap)  :
    own_C l Z (⟨"com/example/verity/verity/FsVerityTreeTreeSizePinLaw", "up", "(J)J"⟩ : MethodName) method_2_code 2 (some .long) [] ({ frames := 0, cells := 0, slots := 0, locals := 0 } : Room) #[(.long q1)] h0 (fun v h L => v = some (.long (own_up q1)) ∧ L = [] ∧ h = h0) := by
  refine own_body (plainFor_of_name own_pn0) fun p e s m below meth c s₁ hx hby hml hret hlk hown hnm hZ X0 e0 => ?_
  rw [own_efup m q1]
  refine own_go (U' := s₁.setTop (mkF m 1 #[.val (.long q1), .second] [(.long q1)])) (fun t k => XS.lloadN X0.here hx rfl (hb hby dup_0) rfl k) ?_
  refine own_go (U' := s₁.setTop (mkF m 2 #[.val (.long q1), .second] [(.long (1 : Int64)), (.long q1)])) (fun t k => XS.lconst X0.here hx rfl (hb hby dup_1) k) ?_
  refine own_go (U' := s₁.setTop (mkF m 3 #[.val (.long q1), .second] [(.int (lcmpW q1 (1 : Int64)))])) (fun t k => XS.lcmp X0.here hx rfl (hb hby dup_2) rfl k) ?_
  by_cases hc3 : (1 : Int64) < q1
  · refine own_go (U' := s₁.setTop (mkF m 6 #[.val (.long q1), .second] [])) (fun t k => XS.ifNo X0.here hx rfl (hb hby dup_3) rfl ((if0 _ _).trans (tlt ((lw_gt q1 (1 : Int64)).mpr hc3)).2.2.2) k) ?_
    refine own_go (U' := s₁.setTop (mkF m 7 #[.val (.long q1), .second] [(.long q1)])) (fun t k => XS.lloadN X0.here hx rfl (hb hby dup_6) rfl k) ?_
    refine own_go (U' := s₁.setTop (mkF m 10 #[.val (.long q1), .second] [(.long (127 : Int64)), (.long q1)])) (fun t k => X0.ldc2Long hx hown (mvT hZ (hw _ (List.mem_of_getElem? (i := 18) rfl))) (g := (mkF m 7 #[.val (.long q1), .second] [(.long q1)])) rfl (hb hby dup_7) _ k) ?_
    refine own_go (U' := s₁.setTop (mkF m 11 #[.val (.long q1), .second] [(.long (q1 + (127 : Int64)))])) (fun t k => XS.ladd X0.here hx rfl (hb hby dup_10) rfl k) ?_
    refine own_go (U' := s₁.setTop (mkF m 13 #[.val (.long q1), .second] [(.int (7 : Int32)), (.long (q1 + (127 : Int64)))])) (fun t k => XS.bipush X0.here hx rfl (hb hby dup_11) k) ?_
    refine own_go (U' := s₁.setTop (mkF m 14 #[.val (.long q1), .second] [(.long (((q1 + (127 : Int64)).toUInt64 >>> ((7 : Int32) &&& 0x3f).toInt64.toUInt64).toInt64))])) (fun t k => XS.lushr X0.here hx rfl (hb hby dup_13) rfl k) ?_
    refine own_go (U' := s₁.setTop (mkF m 18 #[.val (.long q1), .second] [(.long (((q1 + (127 : Int64)).toUInt64 >>> ((7 : Int32) &&& 0x3f).toInt64.toUInt64).toInt64))])) (fun t k => XS.goto X0.here hx rfl (pc0 := 14) (pc' := 18) rfl (hb hby dup_14) (by decide) (by decide) k) ?_
    refine own_retL X0 hx hret hlk (hb hby dup_18) ?_ (by decide) (by decide)
    refine ⟨?_, rfl, e0⟩
    rw [own_up, if_pos hc3]
  · refine own_go (U' := s₁.setTop (mkF m 17 #[.val (.long q1), .second] [])) (fun t k => XS.ifYes X0.here hx rfl (pc0 := 3) (pc' := 17) rfl (hb hby dup_3) rfl ((if0 _ _).trans (flt (fun q => hc3 ((lw_gt q1 (1 : Int64)).mp q))).2.2.2) (by decide) (by decide) k) ?_
    refine own_go (U' := s₁.setTop (mkF m 18 #[.val (.long q1), .second] [(.long (0 : Int64))])) (fun t k => XS.lconst X0.here hx rfl (hb hby dup_17) k) ?_
    refine own_retL X0 hx hret hlk (hb hby dup_18) ?_ (by decide) (by decide)
    refine ⟨?_, rfl, e0⟩
    rw [own_up, if_neg hc3]
theorem own_pd0 : parseMethodDescriptor "(JJ)J" = some ⟨[.long, .long], some .long⟩ := by decide +kernel
theorem own_pd1 : parseMethodDescriptor "(J)J" = some ⟨[.long], some .long⟩ := by decide +kernel
theorem own_pd2 : parseMethodDescriptor "(J)[J" = some ⟨[.long], some (.array .long)⟩ := by decide +kernel
theorem dcd_0 : decode prog_13_method_9_code 0 = .ok (.lload_n 0, 1) := by decide +kernel
theorem dcd_1 : decode prog_13_method_9_code 1 = .ok (.lload_n 2, 1) := by decide +kernel
theorem dcd_2 : decode prog_13_method_9_code 2 = .ok (.ldiv, 1) := by decide +kernel
theorem dcd_3 : decode prog_13_method_9_code 3 = .ok (.lstore 4, 2) := by decide +kernel
theorem dcd_5 : decode prog_13_method_9_code 5 = .ok (.lload_n 0, 1) := by decide +kernel
theorem dcd_6 : decode prog_13_method_9_code 6 = .ok (.lload_n 2, 1) := by decide +kernel
theorem dcd_7 : decode prog_13_method_9_code 7 = .ok (.lrem, 1) := by decide +kernel
theorem dcd_8 : decode prog_13_method_9_code 8 = .ok (.lconst 0, 1) := by decide +kernel
theorem dcd_9 : decode prog_13_method_9_code 9 = .ok (.lcmp, 1) := by decide +kernel
theorem dcd_10 : decode prog_13_method_9_code 10 = .ok (.ifCond .eq 9, 3) := by decide +kernel
theorem dcd_13 : decode prog_13_method_9_code 13 = .ok (.lload 4, 2) := by decide +kernel
theorem dcd_15 : decode prog_13_method_9_code 15 = .ok (.lconst 1, 1) := by decide +kernel
theorem dcd_16 : decode prog_13_method_9_code 16 = .ok (.ladd, 1) := by decide +kernel
theorem dcd_17 : decode prog_13_method_9_code 17 = .ok (.lstore 4, 2) := by decide +kernel
theorem dcd_19 : decode prog_13_method_9_code 19 = .ok (.lload 4, 2) := by decide +kernel
theorem dcd_21 : decode prog_13_method_9_code 21 = .ok (.lreturn, 1) := by decide +kernel
theorem own_pn1 : plainName "com/example/verity/verity/FsVerityTree" = true := by first | (simp [plainName, overriddenIn]; done) | decide +kernel
theorem own_efcd (m : MethodId) (q1 q2 : Int64) : entryFrame m #[(.long q1), (.long q2)] 6 = mkF m 0 #[.val (.long q1), .second, .val (.long q2), .second, .unset, .unset] [] := by first | (simp [entryFrame, mkF, argsToLocals, Value.category]; done) | rfl
set_option maxRecDepth 65536 in
set_option maxHeartbeats 40000000 in
theorem own_rmcd (l : Launch) (Z : State) (a0 : Array Value) (hw : ∀ d ∈ tables_1, d.before a0 Z = true) (q1 q2 : Int64) (h0 : Heap) (hq : q2 ≠ 0) :
    own_C l Z (⟨"com/example/verity/verity/FsVerityTree", "ceilDiv", "(JJ)J"⟩ : MethodName) prog_13_method_9_code 6 (some .long) [] ({ frames := 0, cells := 0, slots := 0, locals := 0 } : Room) #[(.long q1), (.long q2)] h0 (fun v h L => v = some (.long (own_cd q1 q2)) ∧ L = [] ∧ h = h0) := by
  refine own_body (plainFor_of_name own_pn1) fun p e s m below meth c s₁ hx hby hml hret hlk hown hnm hZ X0 e0 => ?_
  rw [own_efcd m q1 q2]
  refine own_go (U' := s₁.setTop (mkF m 1 #[.val (.long q1), .second, .val (.long q2), .second, .unset, .unset] [(.long q1)])) (fun t k => XS.lloadN X0.here hx rfl (hb hby dcd_0) rfl k) ?_
  refine own_go (U' := s₁.setTop (mkF m 2 #[.val (.long q1), .second, .val (.long q2), .second, .unset, .unset] [(.long q2), (.long q1)])) (fun t k => XS.lloadN X0.here hx rfl (hb hby dcd_1) rfl k) ?_
  refine own_go (U' := s₁.setTop (mkF m 3 #[.val (.long q1), .second, .val (.long q2), .second, .unset, .unset] [(.long (q1 / q2))])) (fun t k => XS.ldiv X0.here hx rfl (hb hby dcd_2) rfl hq k) ?_
  refine own_go (U' := s₁.setTop (mkF m 5 #[.val (.long q1), .second, .val (.long q2), .second, .val (.long (q1 / q2)), .second] [])) (fun t k => XS.lstore X0.here hx rfl (hb hby dcd_3) rfl (l' := #[.val (.long q1), .second, .val (.long q2), .second, .val (.long (q1 / q2)), .second]) rfl k) ?_
  refine own_go (U' := s₁.setTop (mkF m 6 #[.val (.long q1), .second, .val (.long q2), .second, .val (.long (q1 / q2)), .second] [(.long q1)])) (fun t k => XS.lloadN X0.here hx rfl (hb hby dcd_5) rfl k) ?_
  refine own_go (U' := s₁.setTop (mkF m 7 #[.val (.long q1), .second, .val (.long q2), .second, .val (.long (q1 / q2)), .second] [(.long q2), (.long q1)])) (fun t k => XS.lloadN X0.here hx rfl (hb hby dcd_6) rfl k) ?_
  refine own_go (U' := s₁.setTop (mkF m 8 #[.val (.long q1), .second, .val (.long q2), .second, .val (.long (q1 / q2)), .second] [(.long (q1 % q2))])) (fun t k => own_lremM X0 hx rfl (hb hby dcd_7) rfl hq k) ?_
  refine own_go (U' := s₁.setTop (mkF m 9 #[.val (.long q1), .second, .val (.long q2), .second, .val (.long (q1 / q2)), .second] [(.long (0 : Int64)), (.long (q1 % q2))])) (fun t k => XS.lconst X0.here hx rfl (hb hby dcd_8) k) ?_
  refine own_go (U' := s₁.setTop (mkF m 10 #[.val (.long q1), .second, .val (.long q2), .second, .val (.long (q1 / q2)), .second] [(.int (lcmpW (q1 % q2) (0 : Int64)))])) (fun t k => XS.lcmp X0.here hx rfl (hb hby dcd_9) rfl k) ?_
  by_cases hc10 : (q1 % q2) = (0 : Int64)
  · refine own_go (U' := s₁.setTop (mkF m 19 #[.val (.long q1), .second, .val (.long q2), .second, .val (.long (q1 / q2)), .second] [])) (fun t k => XS.ifYes X0.here hx rfl (pc0 := 10) (pc' := 19) rfl (hb hby dcd_10) rfl ((if0 _ _).trans (teq ((lw_eq (q1 % q2) (0 : Int64)).mpr hc10)).1) (by decide) (by decide) k) ?_
    refine own_go (U' := s₁.setTop (mkF m 21 #[.val (.long q1), .second, .val (.long q2), .second, .val (.long (q1 / q2)), .second] [(.long (q1 / q2))])) (fun t k => XS.lload X0.here hx rfl (hb hby dcd_19) rfl k) ?_
    refine own_retL X0 hx hret hlk (hb hby dcd_21) ?_ (by decide) (by decide)
    refine ⟨?_, rfl, e0⟩
    rw [own_cd, if_pos hc10]
  · refine own_go (U' := s₁.setTop (mkF m 13 #[.val (.long q1), .second, .val (.long q2), .second, .val (.long (q1 / q2)), .second] [])) (fun t k => XS.ifNo X0.here hx rfl (hb hby dcd_10) rfl ((if0 _ _).trans (feq (fun q => hc10 ((lw_eq (q1 % q2) (0 : Int64)).mp q))).1) k) ?_
    refine own_go (U' := s₁.setTop (mkF m 15 #[.val (.long q1), .second, .val (.long q2), .second, .val (.long (q1 / q2)), .second] [(.long (q1 / q2))])) (fun t k => XS.lload X0.here hx rfl (hb hby dcd_13) rfl k) ?_
    refine own_go (U' := s₁.setTop (mkF m 16 #[.val (.long q1), .second, .val (.long q2), .second, .val (.long (q1 / q2)), .second] [(.long (1 : Int64)), (.long (q1 / q2))])) (fun t k => XS.lconst X0.here hx rfl (hb hby dcd_15) k) ?_
    refine own_go (U' := s₁.setTop (mkF m 17 #[.val (.long q1), .second, .val (.long q2), .second, .val (.long (q1 / q2)), .second] [(.long ((q1 / q2) + (1 : Int64)))])) (fun t k => XS.ladd X0.here hx rfl (hb hby dcd_16) rfl k) ?_
    refine own_go (U' := s₁.setTop (mkF m 19 #[.val (.long q1), .second, .val (.long q2), .second, .val (.long ((q1 / q2) + (1 : Int64))), .second] [])) (fun t k => XS.lstore X0.here hx rfl (hb hby dcd_17) rfl (l' := #[.val (.long q1), .second, .val (.long q2), .second, .val (.long ((q1 / q2) + (1 : Int64))), .second]) rfl k) ?_
    refine own_go (U' := s₁.setTop (mkF m 21 #[.val (.long q1), .second, .val (.long q2), .second, .val (.long ((q1 / q2) + (1 : Int64))), .second] [(.long ((q1 / q2) + (1 : Int64)))])) (fun t k => XS.lload X0.here hx rfl (hb hby dcd_19) rfl k) ?_
    refine own_retL X0 hx hret hlk (hb hby dcd_21) ?_ (by decide) (by decide)
    refine ⟨?_, rfl, e0⟩
    rw [own_cd, if_neg hc10]
theorem dlb_0 : decode prog_13_method_8_code 0 = .ok (.iconst 0, 1) := by decide +kernel
theorem dlb_1 : decode prog_13_method_8_code 1 = .ok (.istore_n 2, 1) := by decide +kernel
theorem dlb_2 : decode prog_13_method_8_code 2 = .ok (.lload_n 0, 1) := by decide +kernel
theorem dlb_3 : decode prog_13_method_8_code 3 = .ok (.lstore_n 3, 1) := by decide +kernel
theorem dlb_4 : decode prog_13_method_8_code 4 = .ok (.lload_n 3, 1) := by decide +kernel
theorem dlb_5 : decode prog_13_method_8_code 5 = .ok (.lconst 1, 1) := by decide +kernel
theorem dlb_6 : decode prog_13_method_8_code 6 = .ok (.lcmp, 1) := by decide +kernel
theorem dlb_7 : decode prog_13_method_8_code 7 = .ok (.ifCond .le 17, 3) := by decide +kernel
theorem dlb_10 : decode prog_13_method_8_code 10 = .ok (.iinc 2 1, 3) := by decide +kernel
theorem dlb_13 : decode prog_13_method_8_code 13 = .ok (.lload_n 3, 1) := by decide +kernel
theorem dlb_14 : decode prog_13_method_8_code 14 = .ok (.ldc2_w 158, 3) := by decide +kernel
theorem dlb_17 : decode prog_13_method_8_code 17 = .ok (.invokestatic 82, 3) := by decide +kernel
theorem dlb_20 : decode prog_13_method_8_code 20 = .ok (.lstore_n 3, 1) := by decide +kernel
theorem dlb_21 : decode prog_13_method_8_code 21 = .ok (.goto (-17), 3) := by decide +kernel
theorem dlb_24 : decode prog_13_method_8_code 24 = .ok (.iload_n 2, 1) := by decide +kernel
theorem dlb_25 : decode prog_13_method_8_code 25 = .ok (.newarray .long, 2) := by decide +kernel
theorem dlb_27 : decode prog_13_method_8_code 27 = .ok (.astore_n 3, 1) := by decide +kernel
theorem dlb_28 : decode prog_13_method_8_code 28 = .ok (.lload_n 0, 1) := by decide +kernel
theorem dlb_29 : decode prog_13_method_8_code 29 = .ok (.lstore 4, 2) := by decide +kernel
theorem dlb_31 : decode prog_13_method_8_code 31 = .ok (.iconst 0, 1) := by decide +kernel
theorem dlb_32 : decode prog_13_method_8_code 32 = .ok (.istore 6, 2) := by decide +kernel
theorem dlb_34 : decode prog_13_method_8_code 34 = .ok (.iload 6, 2) := by decide +kernel
theorem dlb_36 : decode prog_13_method_8_code 36 = .ok (.iload_n 2, 1) := by decide +kernel
theorem dlb_37 : decode prog_13_method_8_code 37 = .ok (.if_icmp .ge 27, 3) := by decide +kernel
theorem dlb_40 : decode prog_13_method_8_code 40 = .ok (.aload_n 3, 1) := by decide +kernel
theorem dlb_41 : decode prog_13_method_8_code 41 = .ok (.iload 6, 2) := by decide +kernel
theorem dlb_43 : decode prog_13_method_8_code 43 = .ok (.lload 4, 2) := by decide +kernel
theorem dlb_45 : decode prog_13_method_8_code 45 = .ok (.ldc2_w 158, 3) := by decide +kernel
theorem dlb_48 : decode prog_13_method_8_code 48 = .ok (.invokestatic 82, 3) := by decide +kernel
theorem dlb_51 : decode prog_13_method_8_code 51 = .ok (.lastore, 1) := by decide +kernel
theorem dlb_52 : decode prog_13_method_8_code 52 = .ok (.aload_n 3, 1) := by decide +kernel
theorem dlb_53 : decode prog_13_method_8_code 53 = .ok (.iload 6, 2) := by decide +kernel
theorem dlb_55 : decode prog_13_method_8_code 55 = .ok (.laload, 1) := by decide +kernel
theorem dlb_56 : decode prog_13_method_8_code 56 = .ok (.lstore 4, 2) := by decide +kernel
theorem dlb_58 : decode prog_13_method_8_code 58 = .ok (.iinc 6 1, 3) := by decide +kernel
theorem dlb_61 : decode prog_13_method_8_code 61 = .ok (.goto (-27), 3) := by decide +kernel
theorem dlb_64 : decode prog_13_method_8_code 64 = .ok (.aload_n 3, 1) := by decide +kernel
theorem dlb_65 : decode prog_13_method_8_code 65 = .ok (.areturn, 1) := by decide +kernel
theorem own_ct (c : Int32) (f : Nat) : c + (1 : Int32) + Int32.ofNat f = c + Int32.ofNat (f + 1) := by
  rw [own_succ, Int32.add_assoc, Int32.add_comm 1]
set_option maxRecDepth 65536 in
set_option maxHeartbeats 40000000 in
theorem own_lp1 {p : Program} {l : Launch} {e : Env} {s : State} {m : MethodId} {args : Array Value} {below : List Frame} {meth : Method} {c : Code} {Z : State} {a0 : Array Value} (hx : p.tables.exec = Jvm.exec) (hZ : Z.Warmed39 s.vm) (hw : ∀ d ∈ tables_1, d.before a0 Z = true) (hby : c.code = prog_13_method_8_code) (hml : c.maxLocals = 7) (hown : s.vm.findClass "com/example/verity/verity/FsVerityTree" = some m.cls) {Q : Option Value → Heap → List Loc → Prop} {k n : Nat} {h0 : Heap} {locs : List Loc} (q1 : Int64) : ∀ (f : Nat) (b : Int64) (ct : Int32) (T0 : State), Stand p l e ({ frames := 1, cells := 1, slots := 8, locals := 19 } : Room) s m args below meth c T0 locs 0 0 → T0.heap = h0 → 0 ≤ b.toInt → b.toInt ≤ 128 ^ f →
    (∀ (T' : State) (b' : Int64), Stand p l e ({ frames := 1, cells := 1, slots := 8, locals := 19 } : Room) s m args below meth c T' locs 0 0 → T'.heap = h0 → own_Fin p e below s Q k n (T'.setTop (mkF m 24 #[.val (.long q1), .second, .val (.int (ct + Int32.ofNat (own_lv f b).length)), .val (.long b'), .second, .unset, .unset] []))) → own_Fin p e below s Q k n (T0.setTop (mkF m 4 #[.val (.long q1), .second, .val (.int ct), .val (.long b), .second, .unset, .unset] [])) := by
  intro f
  induction f with
  | zero =>
    intro b ct T0 X0 e0 hb0 hb1 K
    refine own_go (U' := T0.setTop (mkF m 5 #[.val (.long q1), .second, .val (.int ct), .val (.long b), .second, .unset, .unset] [(.long b)])) (fun t k => XS.lloadN X0.here hx rfl (hb hby dlb_4) rfl k) ?_
    refine own_go (U' := T0.setTop (mkF m 6 #[.val (.long q1), .second, .val (.int ct), .val (.long b), .second, .unset, .unset] [(.long (1 : Int64)), (.long b)])) (fun t k => XS.lconst X0.here hx rfl (hb hby dlb_5) k) ?_
    refine own_go (U' := T0.setTop (mkF m 7 #[.val (.long q1), .second, .val (.int ct), .val (.long b), .second, .unset, .unset] [(.int (lcmpW b (1 : Int64)))])) (fun t k => XS.lcmp X0.here hx rfl (hb hby dlb_6) rfl k) ?_
    refine own_go (U' := T0.setTop (mkF m 24 #[.val (.long q1), .second, .val (.int ct), .val (.long b), .second, .unset, .unset] [])) (fun t k => XS.ifYes X0.here hx rfl (pc0 := 7) (pc' := 24) rfl (hb hby dlb_7) rfl ((if0 _ _).trans (flt (fun q => (fun q => by rw [Int64.lt_iff_toInt_lt, own_one] at q; have : (128 : Int) ^ 0 = 1 := rfl; omega) ((lw_gt b (1 : Int64)).mp q))).2.2.2) (by decide) (by decide) k) ?_
    have hK := K T0 b X0 e0
    rw [show (own_lv 0 b).length = 0 from rfl, show Int32.ofNat 0 = 0 from rfl, Int32.add_zero] at hK
    exact hK
  | succ f ih =>
    intro b ct T0 X0 e0 hb0 hb1 K
    refine own_go (U' := T0.setTop (mkF m 5 #[.val (.long q1), .second, .val (.int ct), .val (.long b), .second, .unset, .unset] [(.long b)])) (fun t k => XS.lloadN X0.here hx rfl (hb hby dlb_4) rfl k) ?_
    refine own_go (U' := T0.setTop (mkF m 6 #[.val (.long q1), .second, .val (.int ct), .val (.long b), .second, .unset, .unset] [(.long (1 : Int64)), (.long b)])) (fun t k => XS.lconst X0.here hx rfl (hb hby dlb_5) k) ?_
    refine own_go (U' := T0.setTop (mkF m 7 #[.val (.long q1), .second, .val (.int ct), .val (.long b), .second, .unset, .unset] [(.int (lcmpW b (1 : Int64)))])) (fun t k => XS.lcmp X0.here hx rfl (hb hby dlb_6) rfl k) ?_
    by_cases hc : (1 : Int64) < b
    · refine own_go (U' := T0.setTop (mkF m 10 #[.val (.long q1), .second, .val (.int ct), .val (.long b), .second, .unset, .unset] [])) (fun t k => XS.ifNo X0.here hx rfl (hb hby dlb_7) rfl ((if0 _ _).trans (tlt ((lw_gt b (1 : Int64)).mpr hc)).2.2.2) k) ?_
      refine own_go (U' := T0.setTop (mkF m 13 #[.val (.long q1), .second, .val (.int (ct + (1 : Int32))), .val (.long b), .second, .unset, .unset] [])) (fun t k => XS.iinc X0.here hx rfl (hb hby dlb_10) rfl (l' := #[.val (.long q1), .second, .val (.int (ct + (1 : Int32))), .val (.long b), .second, .unset, .unset]) rfl k) ?_
      refine own_go (U' := T0.setTop (mkF m 14 #[.val (.long q1), .second, .val (.int (ct + (1 : Int32))), .val (.long b), .second, .unset, .unset] [(.long b)])) (fun t k => XS.lloadN X0.here hx rfl (hb hby dlb_13) rfl k) ?_
      refine own_go (U' := T0.setTop (mkF m 17 #[.val (.long q1), .second, .val (.int (ct + (1 : Int32))), .val (.long b), .second, .unset, .unset] [(.long (128 : Int64)), (.long b)])) (fun t k => X0.ldc2Long hx hown (mvT hZ (hw _ (List.mem_of_getElem? (i := 19) rfl))) (g := (mkF m 14 #[.val (.long q1), .second, .val (.int (ct + (1 : Int32))), .val (.long b), .second, .unset, .unset] [(.long b)])) rfl (hb hby dlb_14) _ k) ?_
      obtain ⟨v1, T1, h1, L1, e1, X1, hQ1, st1⟩ := own_callS X0 hx hZ (y := (⟨"com/example/verity/verity/FsVerityTree", "ceilDiv", "(JJ)J"⟩ : MethodName)) hown (hw _ (List.mem_of_getElem? (i := 11) rfl)) (hw _ (List.mem_of_getElem? (i := 12) rfl)) (hw _ (List.mem_of_getElem? (i := 8) rfl)) (hw _ (List.mem_of_getElem? (i := 13) rfl)) (by decide) (own_rmcd l Z a0 hw b 128 h0 (by decide)) (W := 0) (by decide) (by decide) (g := (mkF m 17 #[.val (.long q1), .second, .val (.int (ct + (1 : Int32))), .val (.long b), .second, .unset, .unset] [(.long (128 : Int64)), (.long b)])) rfl (by rw [hml]; rfl) (argsL := [(.long b), (.long (128 : Int64))]) (rest := []) (lenOf own_pd0 rfl) rfl rfl (by show 2 * 0 + _ ≤ _; exact Nat.le_of_eq rfl) (hb hby dlb_17) e0 (by decide) (by decide)
      obtain ⟨rfl, rfl, eh1⟩ := hQ1
      have e1 := e1.trans eh1
      rw [List.append_nil] at X1
      refine own_go (U' := T1.setTop (mkF m 20 #[.val (.long q1), .second, .val (.int (ct + (1 : Int32))), .val (.long b), .second, .unset, .unset] [(.long (own_cd b 128))])) st1 ?_
      refine own_go (U' := T1.setTop (mkF m 21 #[.val (.long q1), .second, .val (.int (ct + (1 : Int32))), .val (.long (own_cd b 128)), .second, .unset, .unset] [])) (fun t k => XS.lstoreN X1.here hx rfl (hb hby dlb_20) rfl (l' := #[.val (.long q1), .second, .val (.int (ct + (1 : Int32))), .val (.long (own_cd b 128)), .second, .unset, .unset]) rfl k) ?_
      refine own_go (U' := T1.setTop (mkF m 4 #[.val (.long q1), .second, .val (.int (ct + (1 : Int32))), .val (.long (own_cd b 128)), .second, .unset, .unset] [])) (fun t k => XS.goto X1.here hx rfl (pc0 := 21) (pc' := 4) rfl (hb hby dlb_21) (by decide) (by decide) k) ?_
      obtain ⟨c0, c1⟩ := own_cd128 hb0 hb1
      refine ih (own_cd b 128) (ct + 1) T1 X1 e1 c0 c1 fun T' b' X' e' => ?_
      have hK := K T' b' X' e'
      rw [own_lv_pos hc, List.length_cons, ← own_ct] at hK
      exact hK
    · refine own_go (U' := T0.setTop (mkF m 24 #[.val (.long q1), .second, .val (.int ct), .val (.long b), .second, .unset, .unset] [])) (fun t k => XS.ifYes X0.here hx rfl (pc0 := 7) (pc' := 24) rfl (hb hby dlb_7) rfl ((if0 _ _).trans (flt (fun q => hc ((lw_gt b (1 : Int64)).mp q))).2.2.2) (by decide) (by decide) k) ?_
      have hK := K T0 b X0 e0
      rw [own_lv_neg hc, List.length_nil, show Int32.ofNat 0 = 0 from rfl, Int32.add_zero] at hK
      exact hK
theorem own_lvlen : ∀ f b, (own_lv f b).length ≤ f
  | 0, _ => Nat.le_refl _
  | f + 1, b => by
    by_cases h : (1 : Int64) < b
    · rw [own_lv_pos h, List.length_cons]; exact Nat.succ_le_succ (own_lvlen f _)
    · rw [own_lv_neg h]; exact Nat.zero_le _
abbrev own_ls (l : List Int64) : List Value := l.map Value.long
abbrev own_zs (n : Nat) : List Value := List.replicate n (Value.long 0)
theorem own_ofn {i : Nat} (h : i < 100) : ¬ Int32.ofNat i < 0 ∧ (Int32.ofNat i).toNatClampNeg = i ∧ (Int32.ofNat i).toInt = i := by
  have e : (Int32.ofNat i).toInt = i := Int32.toInt_ofNat_of_lt (by omega)
  refine ⟨fun q => ?_, by rw [Int32.toNatClampNeg, e]; rfl, e⟩
  rw [Int32.lt_iff_toInt_lt, e] at q
  have : (0 : Int32).toInt = 0 := rfl
  omega
theorem own_lt {i j : Nat} (hi : i < 100) (hj : j < 100) : Int32.ofNat i < Int32.ofNat j ↔ i < j := by
  rw [Int32.lt_iff_toInt_lt, (own_ofn hi).2.2, (own_ofn hj).2.2]; omega
theorem own_set (dn : List Int64) (v : Int64) (k : Nat) : (own_ls dn ++ own_zs (k + 1)).set dn.length (.long v) = own_ls (dn ++ [v]) ++ own_zs k := by
  rw [List.set_append_right _ _ (by simp)]
  simp [own_ls, own_zs, List.replicate_succ]
theorem own_at (dn : List Int64) (v : Int64) (k : Nat) : (own_ls (dn ++ [v]) ++ own_zs k)[dn.length]? = some (.long v) := by
  simp [own_ls, List.getElem?_append]
set_option maxRecDepth 65536 in
set_option maxHeartbeats 40000000 in
theorem own_lp2 {p : Program} {l : Launch} {e : Env} {s : State} {m : MethodId} {args : Array Value} {below : List Frame} {meth : Method} {c : Code} {Z : State} {a0 : Array Value} (hx : p.tables.exec = Jvm.exec) (hZ : Z.Warmed39 s.vm) (hw : ∀ d ∈ tables_1, d.before a0 Z = true) (hby : c.code = prog_13_method_8_code) (hml : c.maxLocals = 7) (hown : s.vm.findClass "com/example/verity/verity/FsVerityTree" = some m.cls) {Q : Option Value → Heap → List Loc → Prop} {k n : Nat} {h0 : Heap} (q1 : Int64) (x : Addr) (kx : ClassId) (n0 : Nat) (g_x : n0 ≤ x) (sz_x : h0.size ≤ x) (ct : Int32) : ∀ (f : Nat) (b : Int64) (dn : List Int64) (T0 : State) (locs : List Loc) (hh : Heap), Stand p l e ({ frames := 1, cells := 1, slots := 8, locals := 19 } : Room) s m args below meth c T0 locs 1 8 → T0.heap = hh → f ≤ 8 → 0 ≤ b.toInt → b.toInt ≤ 128 ^ f → dn.length + (own_lv f b).length ≤ 8 → ct = Int32.ofNat (dn.length + (own_lv f b).length) → own_Ar Z hh x kx .long (own_ls dn ++ own_zs (own_lv f b).length) → Fr n0 locs → Keep h0 hh [] → 
    (∀ (T' : State) (locs' : List Loc) (h' : Heap) (b' : Int64), Stand p l e ({ frames := 1, cells := 1, slots := 8, locals := 19 } : Room) s m args below meth c T' locs' 1 8 → T'.heap = h' → own_Ar Z h' x kx .long (own_ls (dn ++ own_lv f b)) → Fr n0 locs' → Keep h0 h' [] → own_Fin p e below s Q k n (T'.setTop (mkF m 64 #[.val (.long q1), .second, .val (.int ct), .val (.ref x), .val (.long b'), .second, .val (.int ct)] []))) → own_Fin p e below s Q k n (T0.setTop (mkF m 34 #[.val (.long q1), .second, .val (.int ct), .val (.ref x), .val (.long b), .second, .val (.int (Int32.ofNat dn.length))] [])) := by
  intro f
  induction f with
  | zero =>
    intro b dn T0 locs hh X0 e0 hf hb0 hb1 hl hct V_x N0 K KK
    refine own_go (U' := T0.setTop (mkF m 36 #[.val (.long q1), .second, .val (.int ct), .val (.ref x), .val (.long b), .second, .val (.int (Int32.ofNat dn.length))] [(.int (Int32.ofNat dn.length))])) (fun t k => XS.iload X0.here hx rfl (hb hby dlb_34) rfl k) ?_
    refine own_go (U' := T0.setTop (mkF m 37 #[.val (.long q1), .second, .val (.int ct), .val (.ref x), .val (.long b), .second, .val (.int (Int32.ofNat dn.length))] [(.int ct), (.int (Int32.ofNat dn.length))])) (fun t k => XS.iloadN X0.here hx rfl (hb hby dlb_36) rfl k) ?_
    refine own_go (U' := T0.setTop (mkF m 64 #[.val (.long q1), .second, .val (.int ct), .val (.ref x), .val (.long b), .second, .val (.int (Int32.ofNat dn.length))] [])) (fun t k => XS.icmpYes X0.here hx rfl (pc0 := 37) (pc' := 64) rfl (hb hby dlb_37) rfl (flt (by rw [hct]; exact fun q => by rw [own_lt (by omega) (by omega)] at q; simp [own_lv] at q)).2.1 (by decide) (by decide) k) ?_
    have hct' : Int32.ofNat dn.length = ct := by rw [hct]; simp [own_lv]
    rw [hct']
    refine KK T0 locs hh b X0 e0 ?_ N0 K
    simpa [own_lv, own_zs] using V_x
  | succ f ih =>
    intro b dn T0 locs hh X0 e0 hf hb0 hb1 hl hct V_x N0 K KK
    by_cases hc : (1 : Int64) < b
    · have hlc : (own_lv (f + 1) b).length = (own_lv f (own_cd b 128)).length + 1 := by rw [own_lv_pos hc, List.length_cons]
      rw [hlc] at hl hct V_x
      have hid := own_ofn (i := dn.length) (by omega)
      obtain ⟨c0, c1⟩ := own_cd128 hb0 hb1
      refine own_go (U' := T0.setTop (mkF m 36 #[.val (.long q1), .second, .val (.int ct), .val (.ref x), .val (.long b), .second, .val (.int (Int32.ofNat dn.length))] [(.int (Int32.ofNat dn.length))])) (fun t k => XS.iload X0.here hx rfl (hb hby dlb_34) rfl k) ?_
      refine own_go (U' := T0.setTop (mkF m 37 #[.val (.long q1), .second, .val (.int ct), .val (.ref x), .val (.long b), .second, .val (.int (Int32.ofNat dn.length))] [(.int ct), (.int (Int32.ofNat dn.length))])) (fun t k => XS.iloadN X0.here hx rfl (hb hby dlb_36) rfl k) ?_
      refine own_go (U' := T0.setTop (mkF m 40 #[.val (.long q1), .second, .val (.int ct), .val (.ref x), .val (.long b), .second, .val (.int (Int32.ofNat dn.length))] [])) (fun t k => XS.icmpNo X0.here hx rfl (hb hby dlb_37) rfl (tlt (by rw [hct, own_lt (by omega) (by omega)]; omega)).2.1 k) ?_
      refine own_go (U' := T0.setTop (mkF m 41 #[.val (.long q1), .second, .val (.int ct), .val (.ref x), .val (.long b), .second, .val (.int (Int32.ofNat dn.length))] [(.ref x)])) (fun t k => XS.aloadN X0.here hx rfl (hb hby dlb_40) rfl rfl k) ?_
      refine own_go (U' := T0.setTop (mkF m 43 #[.val (.long q1), .second, .val (.int ct), .val (.ref x), .val (.long b), .second, .val (.int (Int32.ofNat dn.length))] [(.int (Int32.ofNat dn.length)), (.ref x)])) (fun t k => XS.iload X0.here hx rfl (hb hby dlb_41) rfl k) ?_
      refine own_go (U' := T0.setTop (mkF m 45 #[.val (.long q1), .second, .val (.int ct), .val (.ref x), .val (.long b), .second, .val (.int (Int32.ofNat dn.length))] [(.long b), (.int (Int32.ofNat dn.length)), (.ref x)])) (fun t k => XS.lload X0.here hx rfl (hb hby dlb_43) rfl k) ?_
      refine own_go (U' := T0.setTop (mkF m 48 #[.val (.long q1), .second, .val (.int ct), .val (.ref x), .val (.long b), .second, .val (.int (Int32.ofNat dn.length))] [(.long (128 : Int64)), (.long b), (.int (Int32.ofNat dn.length)), (.ref x)])) (fun t k => X0.ldc2Long hx hown (mvT hZ (hw _ (List.mem_of_getElem? (i := 19) rfl))) (g := (mkF m 45 #[.val (.long q1), .second, .val (.int ct), .val (.ref x), .val (.long b), .second, .val (.int (Int32.ofNat dn.length))] [(.long b), (.int (Int32.ofNat dn.length)), (.ref x)])) rfl (hb hby dlb_45) _ k) ?_
      obtain ⟨v1, T1, h1, L1, e1, X1, hQ1, st1⟩ := own_callS X0 hx hZ (y := (⟨"com/example/verity/verity/FsVerityTree", "ceilDiv", "(JJ)J"⟩ : MethodName)) hown (hw _ (List.mem_of_getElem? (i := 11) rfl)) (hw _ (List.mem_of_getElem? (i := 12) rfl)) (hw _ (List.mem_of_getElem? (i := 8) rfl)) (hw _ (List.mem_of_getElem? (i := 13) rfl)) (by decide) (own_rmcd l Z a0 hw b 128 hh (by decide)) (W := 2) (by decide) (by decide) (g := (mkF m 48 #[.val (.long q1), .second, .val (.int ct), .val (.ref x), .val (.long b), .second, .val (.int (Int32.ofNat dn.length))] [(.long (128 : Int64)), (.long b), (.int (Int32.ofNat dn.length)), (.ref x)])) rfl (by rw [hml]; rfl) (argsL := [(.long b), (.long (128 : Int64))]) (rest := [(.int (Int32.ofNat dn.length)), (.ref x)]) (lenOf own_pd0 rfl) rfl rfl (by show 2 * 0 + _ ≤ _; exact Nat.le_of_eq rfl) (hb hby dlb_48) e0 (by decide) (by decide)
      obtain ⟨rfl, rfl, eh1⟩ := hQ1
      have e1 := e1.trans eh1
      rw [List.append_nil] at X1
      refine own_go (U' := T1.setTop (mkF m 51 #[.val (.long q1), .second, .val (.int ct), .val (.ref x), .val (.long b), .second, .val (.int (Int32.ofNat dn.length))] [(.long (own_cd b 128)), (.int (Int32.ofNat dn.length)), (.ref x)])) st1 ?_
      obtain ⟨T2, h2, X2, e2, W2, A2, st2⟩ := own_lastore X1 hx hZ e1 V_x (j := (Int32.ofNat dn.length)) hid.1 (i := dn.length) hid.2.1 (by simp) (g := (mkF m 51 #[.val (.long q1), .second, .val (.int ct), .val (.ref x), .val (.long b), .second, .val (.int (Int32.ofNat dn.length))] [(.long (own_cd b 128)), (.int (Int32.ofNat dn.length)), (.ref x)])) rfl rfl (hb hby dlb_51)
      have K := K.wr W2 (Or.inr sz_x)
      have V_x : own_Ar Z h2 x kx .long (own_ls (dn ++ [own_cd b 128]) ++ own_zs (own_lv f (own_cd b 128)).length) := own_set dn _ _ ▸ A2
      have N2 := Fr.snoc X2 N0 g_x
      refine own_go (U' := T2.setTop (mkF m 52 #[.val (.long q1), .second, .val (.int ct), .val (.ref x), .val (.long b), .second, .val (.int (Int32.ofNat dn.length))] [])) st2 ?_
      refine own_go (U' := T2.setTop (mkF m 53 #[.val (.long q1), .second, .val (.int ct), .val (.ref x), .val (.long b), .second, .val (.int (Int32.ofNat dn.length))] [(.ref x)])) (fun t k => XS.aloadN X2.here hx rfl (hb hby dlb_52) rfl rfl k) ?_
      refine own_go (U' := T2.setTop (mkF m 55 #[.val (.long q1), .second, .val (.int ct), .val (.ref x), .val (.long b), .second, .val (.int (Int32.ofNat dn.length))] [(.int (Int32.ofNat dn.length)), (.ref x)])) (fun t k => XS.iload X2.here hx rfl (hb hby dlb_53) rfl k) ?_
      refine own_go (U' := T2.setTop (mkF m 56 #[.val (.long q1), .second, .val (.int ct), .val (.ref x), .val (.long b), .second, .val (.int (Int32.ofNat dn.length))] [(.long (own_cd b 128))])) (own_laload X2 hx hZ e2 V_x (j := (Int32.ofNat dn.length)) hid.1 (i := dn.length) hid.2.1 (v := (.long (own_cd b 128))) (own_at dn _ _) (g := (mkF m 55 #[.val (.long q1), .second, .val (.int ct), .val (.ref x), .val (.long b), .second, .val (.int (Int32.ofNat dn.length))] [(.int (Int32.ofNat dn.length)), (.ref x)])) rfl rfl (hb hby dlb_55)) ?_
      refine own_go (U' := T2.setTop (mkF m 58 #[.val (.long q1), .second, .val (.int ct), .val (.ref x), .val (.long (own_cd b 128)), .second, .val (.int (Int32.ofNat dn.length))] [])) (fun t k => XS.lstore X2.here hx rfl (hb hby dlb_56) rfl (l' := #[.val (.long q1), .second, .val (.int ct), .val (.ref x), .val (.long (own_cd b 128)), .second, .val (.int (Int32.ofNat dn.length))]) rfl k) ?_
      refine own_go (U' := T2.setTop (mkF m 61 #[.val (.long q1), .second, .val (.int ct), .val (.ref x), .val (.long (own_cd b 128)), .second, .val (.int ((Int32.ofNat dn.length) + (1 : Int32)))] [])) (fun t k => XS.iinc X2.here hx rfl (hb hby dlb_58) rfl (l' := #[.val (.long q1), .second, .val (.int ct), .val (.ref x), .val (.long (own_cd b 128)), .second, .val (.int ((Int32.ofNat dn.length) + (1 : Int32)))]) rfl k) ?_
      refine own_go (U' := T2.setTop (mkF m 34 #[.val (.long q1), .second, .val (.int ct), .val (.ref x), .val (.long (own_cd b 128)), .second, .val (.int ((Int32.ofNat dn.length) + (1 : Int32)))] [])) (fun t k => XS.goto X2.here hx rfl (pc0 := 61) (pc' := 34) rfl (hb hby dlb_61) (by decide) (by decide) k) ?_
      have hdl : Int32.ofNat dn.length + (1 : Int32) = Int32.ofNat (dn ++ [own_cd b 128]).length := by rw [List.length_append]; exact (own_succ _).symm
      rw [hdl]
      refine ih (own_cd b 128) (dn ++ [own_cd b 128]) T2 _ h2 X2 e2 (by omega) c0 c1 (by simp; omega) (by rw [hct]; congr 1; simp; omega) V_x N2 K fun T' locs' h' b' X' e' V' N' K' => ?_
      refine KK T' locs' h' b' X' e' ?_ N' K'
      rw [own_lv_pos hc]
      rw [List.append_assoc] at V'
      exact V'
    · refine own_go (U' := T0.setTop (mkF m 36 #[.val (.long q1), .second, .val (.int ct), .val (.ref x), .val (.long b), .second, .val (.int (Int32.ofNat dn.length))] [(.int (Int32.ofNat dn.length))])) (fun t k => XS.iload X0.here hx rfl (hb hby dlb_34) rfl k) ?_
      refine own_go (U' := T0.setTop (mkF m 37 #[.val (.long q1), .second, .val (.int ct), .val (.ref x), .val (.long b), .second, .val (.int (Int32.ofNat dn.length))] [(.int ct), (.int (Int32.ofNat dn.length))])) (fun t k => XS.iloadN X0.here hx rfl (hb hby dlb_36) rfl k) ?_
      refine own_go (U' := T0.setTop (mkF m 64 #[.val (.long q1), .second, .val (.int ct), .val (.ref x), .val (.long b), .second, .val (.int (Int32.ofNat dn.length))] [])) (fun t k => XS.icmpYes X0.here hx rfl (pc0 := 37) (pc' := 64) rfl (hb hby dlb_37) rfl (flt (by rw [hct]; exact fun q => by rw [own_lt (by omega) (by omega)] at q; simp [own_lv_neg hc] at q)).2.1 (by decide) (by decide) k) ?_
      have hct' : Int32.ofNat dn.length = ct := by rw [hct]; simp [own_lv_neg hc]
      rw [hct']
      refine KK T0 locs hh b X0 e0 ?_ N0 K
      simpa [own_lv_neg hc, own_zs] using V_x
theorem own_eflb (m : MethodId) (q1 : Int64) : entryFrame m #[(.long q1)] 7 = mkF m 0 #[.val (.long q1), .second, .unset, .unset, .unset, .unset, .unset] [] := by first | (simp [entryFrame, mkF, argsToLocals, Value.category]; done) | rfl
set_option maxRecDepth 65536 in
set_option maxHeartbeats 40000000 in
theorem own_rmlb (l : Launch) (Z : State) (a0 : Array Value) (hw : ∀ d ∈ tables_1, d.before a0 Z = true) (q1 : Int64) (h0 : Heap) (n0 : Nat) (O : Old Z n0 h0) (hb0 : 0 ≤ q1.toInt) (hb1 : q1.toInt ≤ 128 ^ 8) :
    own_C l Z (⟨"com/example/verity/verity/FsVerityTree", "levelBlocks", "(J)[J"⟩ : MethodName) prog_13_method_8_code 7 (some (.array .long)) [] ({ frames := 1, cells := 1, slots := 8, locals := 19 } : Room) #[(.long q1)] h0 (fun v h L => ∃ x kx, v = some (.ref x) ∧ Fr n0 L ∧ Keep h0 h [] ∧ own_Ar Z h x kx .long (own_ls (own_lv 8 q1))) := by
  refine own_body (plainFor_of_name own_pn1) fun p e s m below meth c s₁ hx hby hml hret hlk hown hnm hZ X0 e0 => ?_
  rw [own_eflb m q1]
  have N0 := Fr.nil n0
  have K := Keep.refl h0 []
  refine own_go (U' := s₁.setTop (mkF m 1 #[.val (.long q1), .second, .unset, .unset, .unset, .unset, .unset] [(.int (0 : Int32))])) (fun t k => XS.iconst X0.here hx rfl (hb hby dlb_0) k) ?_
  refine own_go (U' := s₁.setTop (mkF m 2 #[.val (.long q1), .second, .val (.int (0 : Int32)), .unset, .unset, .unset, .unset] [])) (fun t k => XS.istoreN X0.here hx rfl (hb hby dlb_1) rfl (l' := #[.val (.long q1), .second, .val (.int (0 : Int32)), .unset, .unset, .unset, .unset]) rfl k) ?_
  refine own_go (U' := s₁.setTop (mkF m 3 #[.val (.long q1), .second, .val (.int (0 : Int32)), .unset, .unset, .unset, .unset] [(.long q1)])) (fun t k => XS.lloadN X0.here hx rfl (hb hby dlb_2) rfl k) ?_
  refine own_go (U' := s₁.setTop (mkF m 4 #[.val (.long q1), .second, .val (.int (0 : Int32)), .val (.long q1), .second, .unset, .unset] [])) (fun t k => XS.lstoreN X0.here hx rfl (hb hby dlb_3) rfl (l' := #[.val (.long q1), .second, .val (.int (0 : Int32)), .val (.long q1), .second, .unset, .unset]) rfl k) ?_
  refine own_lp1 hx hZ hw hby hml hown q1 8 q1 0 _ X0 e0 hb0 hb1 fun T1 b1 X1 e1 => ?_
  rw [Int32.zero_add]
  have hlen := own_lvlen 8 q1
  have hid := own_ofn (i := (own_lv 8 q1).length) (by omega)
  refine own_go (U' := T1.setTop (mkF m 25 #[.val (.long q1), .second, .val (.int (Int32.ofNat (own_lv 8 q1).length)), .val (.long b1), .second, .unset, .unset] [(.int (Int32.ofNat (own_lv 8 q1).length))])) (fun t k => XS.iloadN X1.here hx rfl (hb hby dlb_24) rfl k) ?_
  obtain ⟨T2, h2, k2, X2, e2, E2, A2, Y2, st2⟩ := own_newarr X1 hx hZ (hw _ (List.mem_of_getElem? (i := 17) rfl)) e1 (g := (mkF m 25 #[.val (.long q1), .second, .val (.int (Int32.ofNat (own_lv 8 q1).length)), .val (.long b1), .second, .unset, .unset] [(.int (Int32.ofNat (own_lv 8 q1).length))])) rfl (hb hby dlb_25) rfl hid.1 (cap := 8) (by rw [hid.2.1]; exact hlen) (by decide) (by decide) (by decide) (ad := "[J") (by decide) rfl (vs := (own_zs (own_lv 8 q1).length)) (by rw [hid.2.1]; rfl)
  obtain ⟨b2, g2⟩ : ∃ z, z = h0.size := ⟨_, rfl⟩
  rw [← g2] at A2 Y2 st2
  have g_b2 : n0 ≤ b2 := Nat.le_trans (Nat.le_trans (Nat.le_of_eq O.1.symm) O.2.1) (Nat.le_of_eq g2.symm)
  have sz_b2 : h0.size ≤ b2 := Nat.le_trans K.1 (Nat.le_of_eq g2.symm)
  have K := K.ext E2
  have O := O.ext E2
  have V_b2 : own_Ar Z h2 b2 k2 .long (own_zs (own_lv 8 q1).length) := A2
  have E_b2 := Y2
  refine own_go (U' := T2.setTop (mkF m 27 #[.val (.long q1), .second, .val (.int (Int32.ofNat (own_lv 8 q1).length)), .val (.long b1), .second, .unset, .unset] [(.ref b2)])) st2 ?_
  refine own_go (U' := T2.setTop (mkF m 28 #[.val (.long q1), .second, .val (.int (Int32.ofNat (own_lv 8 q1).length)), .val (.ref b2), .unset, .unset, .unset] [])) (fun t k => XS.astoreN X2.here hx rfl (hb hby dlb_27) rfl rfl (l' := #[.val (.long q1), .second, .val (.int (Int32.ofNat (own_lv 8 q1).length)), .val (.ref b2), .unset, .unset, .unset]) rfl k) ?_
  refine own_go (U' := T2.setTop (mkF m 29 #[.val (.long q1), .second, .val (.int (Int32.ofNat (own_lv 8 q1).length)), .val (.ref b2), .unset, .unset, .unset] [(.long q1)])) (fun t k => XS.lloadN X2.here hx rfl (hb hby dlb_28) rfl k) ?_
  refine own_go (U' := T2.setTop (mkF m 31 #[.val (.long q1), .second, .val (.int (Int32.ofNat (own_lv 8 q1).length)), .val (.ref b2), .val (.long q1), .second, .unset] [])) (fun t k => XS.lstore X2.here hx rfl (hb hby dlb_29) rfl (l' := #[.val (.long q1), .second, .val (.int (Int32.ofNat (own_lv 8 q1).length)), .val (.ref b2), .val (.long q1), .second, .unset]) rfl k) ?_
  refine own_go (U' := T2.setTop (mkF m 32 #[.val (.long q1), .second, .val (.int (Int32.ofNat (own_lv 8 q1).length)), .val (.ref b2), .val (.long q1), .second, .unset] [(.int (0 : Int32))])) (fun t k => XS.iconst X2.here hx rfl (hb hby dlb_31) k) ?_
  refine own_go (U' := T2.setTop (mkF m 34 #[.val (.long q1), .second, .val (.int (Int32.ofNat (own_lv 8 q1).length)), .val (.ref b2), .val (.long q1), .second, .val (.int (0 : Int32))] [])) (fun t k => XS.istore X2.here hx rfl (hb hby dlb_32) rfl (l' := #[.val (.long q1), .second, .val (.int (Int32.ofNat (own_lv 8 q1).length)), .val (.ref b2), .val (.long q1), .second, .val (.int (0 : Int32))]) rfl k) ?_
  refine own_lp2 hx hZ hw hby hml hown q1 b2 k2 n0 g_b2 sz_b2 (Int32.ofNat (own_lv 8 q1).length) 8 q1 [] _ _ _ X2 e2 (by decide) hb0 hb1 (by simpa using hlen) (by simp) V_b2 N0 K fun T9 locs9 h9 b9 X9 e9 V9 N9 K9 => ?_
  refine own_go (U' := T9.setTop (mkF m 65 #[.val (.long q1), .second, .val (.int (Int32.ofNat (own_lv 8 q1).length)), .val (.ref b2), .val (.long b9), .second, .val (.int (Int32.ofNat (own_lv 8 q1).length))] [(.ref b2)])) (fun t k => XS.aloadN X9.here hx rfl (hb hby dlb_64) rfl rfl k) ?_
  refine own_retA X9 hx (t := (.array .long)) hret rfl hlk rfl (hb hby dlb_65) ?_ (by decide) (by decide)
  rw [e9]
  exact ⟨_, _, rfl, N9, K9, V9⟩
theorem dts_0 : decode prog_13_method_6_code 0 = .ok (.lload_n 0, 1) := by decide +kernel
theorem dts_1 : decode prog_13_method_6_code 1 = .ok (.lconst 0, 1) := by decide +kernel
theorem dts_2 : decode prog_13_method_6_code 2 = .ok (.lcmp, 1) := by decide +kernel
theorem dts_3 : decode prog_13_method_6_code 3 = .ok (.ifCond .ge 17, 3) := by decide +kernel
theorem dts_6 : decode prog_13_method_6_code 6 = .ok (.new 25, 3) := by decide +kernel
theorem dts_9 : decode prog_13_method_6_code 9 = .ok (.dup, 1) := by decide +kernel
theorem dts_10 : decode prog_13_method_6_code 10 = .ok (.lload_n 0, 1) := by decide +kernel
theorem dts_16 : decode prog_13_method_6_code 16 = .ok (.invokespecial 31, 3) := by decide +kernel
theorem dts_19 : decode prog_13_method_6_code 19 = .ok (.athrow, 1) := by decide +kernel
theorem dts_20 : decode prog_13_method_6_code 20 = .ok (.lconst 0, 1) := by decide +kernel
theorem dts_21 : decode prog_13_method_6_code 21 = .ok (.lstore_n 2, 1) := by decide +kernel
theorem dts_22 : decode prog_13_method_6_code 22 = .ok (.lload_n 0, 1) := by decide +kernel
theorem dts_23 : decode prog_13_method_6_code 23 = .ok (.ldc2_w 80, 3) := by decide +kernel
theorem dts_26 : decode prog_13_method_6_code 26 = .ok (.invokestatic 82, 3) := by decide +kernel
theorem dts_29 : decode prog_13_method_6_code 29 = .ok (.invokestatic 102, 3) := by decide +kernel
theorem dts_32 : decode prog_13_method_6_code 32 = .ok (.astore 4, 2) := by decide +kernel
theorem dts_34 : decode prog_13_method_6_code 34 = .ok (.aload 4, 2) := by decide +kernel
theorem dts_36 : decode prog_13_method_6_code 36 = .ok (.arraylength, 1) := by decide +kernel
theorem dts_37 : decode prog_13_method_6_code 37 = .ok (.istore 5, 2) := by decide +kernel
theorem dts_39 : decode prog_13_method_6_code 39 = .ok (.iconst 0, 1) := by decide +kernel
theorem dts_40 : decode prog_13_method_6_code 40 = .ok (.istore 6, 2) := by decide +kernel
theorem dts_42 : decode prog_13_method_6_code 42 = .ok (.iload 6, 2) := by decide +kernel
theorem dts_44 : decode prog_13_method_6_code 44 = .ok (.iload 5, 2) := by decide +kernel
theorem dts_46 : decode prog_13_method_6_code 46 = .ok (.if_icmp .ge 25, 3) := by decide +kernel
theorem dts_49 : decode prog_13_method_6_code 49 = .ok (.aload 4, 2) := by decide +kernel
theorem dts_51 : decode prog_13_method_6_code 51 = .ok (.iload 6, 2) := by decide +kernel
theorem dts_53 : decode prog_13_method_6_code 53 = .ok (.laload, 1) := by decide +kernel
theorem dts_54 : decode prog_13_method_6_code 54 = .ok (.lstore 7, 2) := by decide +kernel
theorem dts_56 : decode prog_13_method_6_code 56 = .ok (.lload_n 2, 1) := by decide +kernel
theorem dts_57 : decode prog_13_method_6_code 57 = .ok (.lload 7, 2) := by decide +kernel
theorem dts_59 : decode prog_13_method_6_code 59 = .ok (.ldc2_w 80, 3) := by decide +kernel
theorem dts_62 : decode prog_13_method_6_code 62 = .ok (.lmul, 1) := by decide +kernel
theorem dts_63 : decode prog_13_method_6_code 63 = .ok (.ladd, 1) := by decide +kernel
theorem dts_64 : decode prog_13_method_6_code 64 = .ok (.lstore_n 2, 1) := by decide +kernel
theorem dts_65 : decode prog_13_method_6_code 65 = .ok (.iinc 6 1, 3) := by decide +kernel
theorem dts_68 : decode prog_13_method_6_code 68 = .ok (.goto (-26), 3) := by decide +kernel
theorem dts_71 : decode prog_13_method_6_code 71 = .ok (.lload_n 2, 1) := by decide +kernel
theorem dts_72 : decode prog_13_method_6_code 72 = .ok (.lreturn, 1) := by decide +kernel
def own_two (o7 o8 : Slot) : Prop := (o7 = .unset ∧ o8 = .unset) ∨ ∃ w, o7 = .val (.long w) ∧ o8 = .second
theorem own_st7 {o7 o8 : Slot} (h : own_two o7 o8) (a b c d e f g : Slot) (hg : g ≠ .second) (hgl : ∀ w, g = .val w → w.category = 1) (v : Int64) : storeLocals #[a, b, c, d, e, f, g, o7, o8] 7 (.long v) = some #[a, b, c, d, e, f, g, .val (.long v), .second] := by
  rcases h with ⟨rfl, rfl⟩ | ⟨w, rfl, rfl⟩ <;> cases g <;> first | rfl | simp_all [storeLocals, Value.category]
set_option maxRecDepth 65536 in
set_option maxHeartbeats 40000000 in
theorem own_lp3 {p : Program} {l : Launch} {e : Env} {s : State} {m : MethodId} {args : Array Value} {below : List Frame} {meth : Method} {c : Code} {Z : State} {a0 : Array Value} (hx : p.tables.exec = Jvm.exec) (hZ : Z.Warmed39 s.vm) (hw : ∀ d ∈ tables_1, d.before a0 Z = true) (hby : c.code = prog_13_method_6_code) (hml : c.maxLocals = 9) (hown : s.vm.findClass "com/example/verity/verity/FsVerityTree" = some m.cls) {Q : Option Value → Heap → List Loc → Prop} {k n : Nat} {h0 : Heap} {locs : List Loc} {x : Addr} {kx : ClassId} (q1 : Int64) (ct : Int32) : ∀ (rs dn : List Int64) (sm : Int64) (o7 o8 : Slot) (T0 : State), Stand p l e ({ frames := 2, cells := 1, slots := 8, locals := 39 } : Room) s m args below meth c T0 locs 1 8 → T0.heap = h0 → own_two o7 o8 → dn.length + rs.length ≤ 8 → ct = Int32.ofNat (dn.length + rs.length) → own_Ar Z h0 x kx .long (own_ls (dn ++ rs)) →
    (∀ (T' : State) (o7 o8 : Slot), Stand p l e ({ frames := 2, cells := 1, slots := 8, locals := 39 } : Room) s m args below meth c T' locs 1 8 → T'.heap = h0 → own_Fin p e below s Q k n (T'.setTop (mkF m 71 #[.val (.long q1), .second, .val (.long (own_acc sm rs)), .second, .val (.ref x), .val (.int ct), .val (.int ct), o7, o8] []))) → own_Fin p e below s Q k n (T0.setTop (mkF m 42 #[.val (.long q1), .second, .val (.long sm), .second, .val (.ref x), .val (.int ct), .val (.int (Int32.ofNat dn.length)), o7, o8] [])) := by
  intro rs
  induction rs with
  | nil =>
    intro dn sm o7 o8 T0 X0 e0 ho hl hct V_x KK
    refine own_go (U' := T0.setTop (mkF m 44 #[.val (.long q1), .second, .val (.long sm), .second, .val (.ref x), .val (.int ct), .val (.int (Int32.ofNat dn.length)), o7, o8] [(.int (Int32.ofNat dn.length))])) (fun t k => XS.iload X0.here hx rfl (hb hby dts_42) rfl k) ?_
    refine own_go (U' := T0.setTop (mkF m 46 #[.val (.long q1), .second, .val (.long sm), .second, .val (.ref x), .val (.int ct), .val (.int (Int32.ofNat dn.length)), o7, o8] [(.int ct), (.int (Int32.ofNat dn.length))])) (fun t k => XS.iload X0.here hx rfl (hb hby dts_44) rfl k) ?_
    refine own_go (U' := T0.setTop (mkF m 71 #[.val (.long q1), .second, .val (.long sm), .second, .val (.ref x), .val (.int ct), .val (.int (Int32.ofNat dn.length)), o7, o8] [])) (fun t k => XS.icmpYes X0.here hx rfl (pc0 := 46) (pc' := 71) rfl (hb hby dts_46) rfl (flt (by rw [hct]; exact fun q => by rw [own_lt (by omega) (by omega)] at q; simp at q)).2.1 (by decide) (by decide) k) ?_
    have hct' : Int32.ofNat dn.length = ct := by rw [hct]; simp
    rw [hct']
    exact KK T0 o7 o8 X0 e0
  | cons v rs ih =>
    intro dn sm o7 o8 T0 X0 e0 ho hl hct V_x KK
    rw [List.length_cons] at hl hct
    have hid := own_ofn (i := dn.length) (by omega)
    refine own_go (U' := T0.setTop (mkF m 44 #[.val (.long q1), .second, .val (.long sm), .second, .val (.ref x), .val (.int ct), .val (.int (Int32.ofNat dn.length)), o7, o8] [(.int (Int32.ofNat dn.length))])) (fun t k => XS.iload X0.here hx rfl (hb hby dts_42) rfl k) ?_
    refine own_go (U' := T0.setTop (mkF m 46 #[.val (.long q1), .second, .val (.long sm), .second, .val (.ref x), .val (.int ct), .val (.int (Int32.ofNat dn.length)), o7, o8] [(.int ct), (.int (Int32.ofNat dn.length))])) (fun t k => XS.iload X0.here hx rfl (hb hby dts_44) rfl k) ?_
    refine own_go (U' := T0.setTop (mkF m 49 #[.val (.long q1), .second, .val (.long sm), .second, .val (.ref x), .val (.int ct), .val (.int (Int32.ofNat dn.length)), o7, o8] [])) (fun t k => XS.icmpNo X0.here hx rfl (hb hby dts_46) rfl (tlt (by rw [hct, own_lt (by omega) (by omega)]; omega)).2.1 k) ?_
    refine own_go (U' := T0.setTop (mkF m 51 #[.val (.long q1), .second, .val (.long sm), .second, .val (.ref x), .val (.int ct), .val (.int (Int32.ofNat dn.length)), o7, o8] [(.ref x)])) (fun t k => XS.aload X0.here hx rfl (hb hby dts_49) rfl rfl k) ?_
    refine own_go (U' := T0.setTop (mkF m 53 #[.val (.long q1), .second, .val (.long sm), .second, .val (.ref x), .val (.int ct), .val (.int (Int32.ofNat dn.length)), o7, o8] [(.int (Int32.ofNat dn.length)), (.ref x)])) (fun t k => XS.iload X0.here hx rfl (hb hby dts_51) rfl k) ?_
    refine own_go (U' := T0.setTop (mkF m 54 #[.val (.long q1), .second, .val (.long sm), .second, .val (.ref x), .val (.int ct), .val (.int (Int32.ofNat dn.length)), o7, o8] [(.long v)])) (own_laload X0 hx hZ e0 V_x (j := (Int32.ofNat dn.length)) hid.1 (i := dn.length) hid.2.1 (v := (.long v)) (by simp [own_ls, List.getElem?_append]) (g := (mkF m 53 #[.val (.long q1), .second, .val (.long sm), .second, .val (.ref x), .val (.int ct), .val (.int (Int32.ofNat dn.length)), o7, o8] [(.int (Int32.ofNat dn.length)), (.ref x)])) rfl rfl (hb hby dts_53)) ?_
    refine own_go (U' := T0.setTop (mkF m 56 #[.val (.long q1), .second, .val (.long sm), .second, .val (.ref x), .val (.int ct), .val (.int (Int32.ofNat dn.length)), .val (.long v), .second] [])) (fun t k => XS.lstore X0.here hx rfl (hb hby dts_54) rfl (l' := #[.val (.long q1), .second, .val (.long sm), .second, .val (.ref x), .val (.int ct), .val (.int (Int32.ofNat dn.length)), .val (.long v), .second]) (own_st7 ho _ _ _ _ _ _ _ (by simp) (by simp [Value.category]) v) k) ?_
    refine own_go (U' := T0.setTop (mkF m 57 #[.val (.long q1), .second, .val (.long sm), .second, .val (.ref x), .val (.int ct), .val (.int (Int32.ofNat dn.length)), .val (.long v), .second] [(.long sm)])) (fun t k => XS.lloadN X0.here hx rfl (hb hby dts_56) rfl k) ?_
    refine own_go (U' := T0.setTop (mkF m 59 #[.val (.long q1), .second, .val (.long sm), .second, .val (.ref x), .val (.int ct), .val (.int (Int32.ofNat dn.length)), .val (.long v), .second] [(.long v), (.long sm)])) (fun t k => XS.lload X0.here hx rfl (hb hby dts_57) rfl k) ?_
    refine own_go (U' := T0.setTop (mkF m 62 #[.val (.long q1), .second, .val (.long sm), .second, .val (.ref x), .val (.int ct), .val (.int (Int32.ofNat dn.length)), .val (.long v), .second] [(.long (4096 : Int64)), (.long v), (.long sm)])) (fun t k => X0.ldc2Long hx hown (mvT hZ (hw _ (List.mem_of_getElem? (i := 10) rfl))) (g := (mkF m 59 #[.val (.long q1), .second, .val (.long sm), .second, .val (.ref x), .val (.int ct), .val (.int (Int32.ofNat dn.length)), .val (.long v), .second] [(.long v), (.long sm)])) rfl (hb hby dts_59) _ k) ?_
    refine own_go (U' := T0.setTop (mkF m 63 #[.val (.long q1), .second, .val (.long sm), .second, .val (.ref x), .val (.int ct), .val (.int (Int32.ofNat dn.length)), .val (.long v), .second] [(.long (v * (4096 : Int64))), (.long sm)])) (fun t k => XS.lmul X0.here hx rfl (hb hby dts_62) rfl k) ?_
    refine own_go (U' := T0.setTop (mkF m 64 #[.val (.long q1), .second, .val (.long sm), .second, .val (.ref x), .val (.int ct), .val (.int (Int32.ofNat dn.length)), .val (.long v), .second] [(.long (sm + (v * (4096 : Int64))))])) (fun t k => XS.ladd X0.here hx rfl (hb hby dts_63) rfl k) ?_
    refine own_go (U' := T0.setTop (mkF m 65 #[.val (.long q1), .second, .val (.long (sm + (v * (4096 : Int64)))), .second, .val (.ref x), .val (.int ct), .val (.int (Int32.ofNat dn.length)), .val (.long v), .second] [])) (fun t k => XS.lstoreN X0.here hx rfl (hb hby dts_64) rfl (l' := #[.val (.long q1), .second, .val (.long (sm + (v * (4096 : Int64)))), .second, .val (.ref x), .val (.int ct), .val (.int (Int32.ofNat dn.length)), .val (.long v), .second]) rfl k) ?_
    refine own_go (U' := T0.setTop (mkF m 68 #[.val (.long q1), .second, .val (.long (sm + (v * (4096 : Int64)))), .second, .val (.ref x), .val (.int ct), .val (.int ((Int32.ofNat dn.length) + (1 : Int32))), .val (.long v), .second] [])) (fun t k => XS.iinc X0.here hx rfl (hb hby dts_65) rfl (l' := #[.val (.long q1), .second, .val (.long (sm + (v * (4096 : Int64)))), .second, .val (.ref x), .val (.int ct), .val (.int ((Int32.ofNat dn.length) + (1 : Int32))), .val (.long v), .second]) rfl k) ?_
    refine own_go (U' := T0.setTop (mkF m 42 #[.val (.long q1), .second, .val (.long (sm + (v * (4096 : Int64)))), .second, .val (.ref x), .val (.int ct), .val (.int ((Int32.ofNat dn.length) + (1 : Int32))), .val (.long v), .second] [])) (fun t k => XS.goto X0.here hx rfl (pc0 := 68) (pc' := 42) rfl (hb hby dts_68) (by decide) (by decide) k) ?_
    have hdl : Int32.ofNat dn.length + (1 : Int32) = Int32.ofNat (dn ++ [v]).length := by rw [List.length_append]; exact (own_succ _).symm
    rw [hdl]
    refine ih (dn ++ [v]) (sm + (v * (4096 : Int64))) _ _ _ X0 e0 (Or.inr ⟨v, rfl, rfl⟩) (by simp; omega) (by rw [hct]; congr 1; simp; omega) (by rw [List.append_assoc]; exact V_x) fun T' o7 o8 X' e' => KK T' o7 o8 X' e'
theorem own_efts (m : MethodId) (q1 : Int64) : entryFrame m #[(.long q1)] 9 = mkF m 0 #[.val (.long q1), .second, .unset, .unset, .unset, .unset, .unset, .unset, .unset] [] := by first | (simp [entryFrame, mkF, argsToLocals, Value.category]; done) | rfl
set_option maxRecDepth 65536 in
set_option maxHeartbeats 40000000 in
theorem own_rmts (l : Launch) (Z : State) (a0 : Array Value) (hw : ∀ d ∈ tables_1, d.before a0 Z = true) (q1 : Int64) (h0 : Heap) (n0 : Nat) (O : Old Z n0 h0) (hb0 : 0 ≤ q1.toInt) :
    own_C l Z (⟨"com/example/verity/verity/FsVerityTree", "treeSize", "(J)J"⟩ : MethodName) prog_13_method_6_code 9 (some .long) [] ({ frames := 2, cells := 1, slots := 8, locals := 39 } : Room) #[(.long q1)] h0 (fun v h L => v = some (.long (own_acc 0 (own_lv 8 (own_cd q1 4096)))) ∧ Fr n0 L) := by
  refine own_body (plainFor_of_name own_pn1) fun p e s m below meth c s₁ hx hby hml hret hlk hown hnm hZ X0 e0 => ?_
  rw [own_efts m q1]
  have N0 := Fr.nil n0
  have hd := own_cd_toInt hb0 (b := 4096) (d := 4096) rfl (by decide) (by decide)
  have hr := rng64 q1
  have p8 : (128 : Int) ^ 8 = 72057594037927936 := by decide
  have hd0 : 0 ≤ (own_cd q1 4096).toInt ∧ (own_cd q1 4096).toInt ≤ 128 ^ 8 := by rw [hd, p8]; split <;> omega
  have hlen := own_lvlen 8 (own_cd q1 4096)
  refine own_go (U' := s₁.setTop (mkF m 1 #[.val (.long q1), .second, .unset, .unset, .unset, .unset, .unset, .unset, .unset] [(.long q1)])) (fun t k => XS.lloadN X0.here hx rfl (hb hby dts_0) rfl k) ?_
  refine own_go (U' := s₁.setTop (mkF m 2 #[.val (.long q1), .second, .unset, .unset, .unset, .unset, .unset, .unset, .unset] [(.long (0 : Int64)), (.long q1)])) (fun t k => XS.lconst X0.here hx rfl (hb hby dts_1) k) ?_
  refine own_go (U' := s₁.setTop (mkF m 3 #[.val (.long q1), .second, .unset, .unset, .unset, .unset, .unset, .unset, .unset] [(.int (lcmpW q1 (0 : Int64)))])) (fun t k => XS.lcmp X0.here hx rfl (hb hby dts_2) rfl k) ?_
  refine own_go (U' := s₁.setTop (mkF m 20 #[.val (.long q1), .second, .unset, .unset, .unset, .unset, .unset, .unset, .unset] [])) (fun t k => XS.ifYes X0.here hx rfl (pc0 := 3) (pc' := 20) rfl (hb hby dts_3) rfl ((if0 _ _).trans (flt (fun q => (fun q => by rw [Int64.lt_iff_toInt_lt, own_zero] at q; omega) ((lw_lt q1 (0 : Int64)).mp q))).2.1) (by decide) (by decide) k) ?_
  refine own_go (U' := s₁.setTop (mkF m 21 #[.val (.long q1), .second, .unset, .unset, .unset, .unset, .unset, .unset, .unset] [(.long (0 : Int64))])) (fun t k => XS.lconst X0.here hx rfl (hb hby dts_20) k) ?_
  refine own_go (U' := s₁.setTop (mkF m 22 #[.val (.long q1), .second, .val (.long (0 : Int64)), .second, .unset, .unset, .unset, .unset, .unset] [])) (fun t k => XS.lstoreN X0.here hx rfl (hb hby dts_21) rfl (l' := #[.val (.long q1), .second, .val (.long (0 : Int64)), .second, .unset, .unset, .unset, .unset, .unset]) rfl k) ?_
  refine own_go (U' := s₁.setTop (mkF m 23 #[.val (.long q1), .second, .val (.long (0 : Int64)), .second, .unset, .unset, .unset, .unset, .unset] [(.long q1)])) (fun t k => XS.lloadN X0.here hx rfl (hb hby dts_22) rfl k) ?_
  refine own_go (U' := s₁.setTop (mkF m 26 #[.val (.long q1), .second, .val (.long (0 : Int64)), .second, .unset, .unset, .unset, .unset, .unset] [(.long (4096 : Int64)), (.long q1)])) (fun t k => X0.ldc2Long hx hown (mvT hZ (hw _ (List.mem_of_getElem? (i := 10) rfl))) (g := (mkF m 23 #[.val (.long q1), .second, .val (.long (0 : Int64)), .second, .unset, .unset, .unset, .unset, .unset] [(.long q1)])) rfl (hb hby dts_23) _ k) ?_
  obtain ⟨v1, T1, h1, L1, e1, X1, hQ1, st1⟩ := own_callS X0 hx hZ (y := (⟨"com/example/verity/verity/FsVerityTree", "ceilDiv", "(JJ)J"⟩ : MethodName)) hown (hw _ (List.mem_of_getElem? (i := 11) rfl)) (hw _ (List.mem_of_getElem? (i := 12) rfl)) (hw _ (List.mem_of_getElem? (i := 8) rfl)) (hw _ (List.mem_of_getElem? (i := 13) rfl)) (by decide) (own_rmcd l Z a0 hw q1 4096 h0 (by decide)) (W := 0) (by decide) (by decide) (g := (mkF m 26 #[.val (.long q1), .second, .val (.long (0 : Int64)), .second, .unset, .unset, .unset, .unset, .unset] [(.long (4096 : Int64)), (.long q1)])) rfl (by rw [hml]; rfl) (argsL := [(.long q1), (.long (4096 : Int64))]) (rest := []) (lenOf own_pd0 rfl) rfl rfl (by show 2 * 0 + _ ≤ _; exact Nat.le_of_eq rfl) (hb hby dts_26) e0 (by decide) (by decide)
  obtain ⟨rfl, rfl, eh1⟩ := hQ1
  have e1 := e1.trans eh1
  rw [List.append_nil] at X1
  refine own_go (U' := T1.setTop (mkF m 29 #[.val (.long q1), .second, .val (.long (0 : Int64)), .second, .unset, .unset, .unset, .unset, .unset] [(.long (own_cd q1 4096))])) st1 ?_
  obtain ⟨v2, T2, h2, L2, e2, X2, hQ2, st2⟩ := own_callS X1 hx hZ (y := (⟨"com/example/verity/verity/FsVerityTree", "levelBlocks", "(J)[J"⟩ : MethodName)) hown (hw _ (List.mem_of_getElem? (i := 14) rfl)) (hw _ (List.mem_of_getElem? (i := 15) rfl)) (hw _ (List.mem_of_getElem? (i := 8) rfl)) (hw _ (List.mem_of_getElem? (i := 16) rfl)) (by decide) (own_rmlb l Z a0 hw (own_cd q1 4096) h0 n0 O hd0.1 hd0.2) (W := 0) (by decide) (by decide) (g := (mkF m 29 #[.val (.long q1), .second, .val (.long (0 : Int64)), .second, .unset, .unset, .unset, .unset, .unset] [(.long (own_cd q1 4096))])) rfl (by rw [hml]; rfl) (argsL := [(.long (own_cd q1 4096))]) (rest := []) (lenOf own_pd2 rfl) rfl rfl (by show 2 * 0 + _ ≤ _; exact Nat.le_of_eq rfl) (hb hby dts_29) e1 (by decide) (by decide)
  obtain ⟨x, kx, rfl, Nq, Kq, V_x⟩ := hQ2
  have O := O.keep Kq all0
  have N2 := Fr.app N0 Nq
  refine own_go (U' := T2.setTop (mkF m 32 #[.val (.long q1), .second, .val (.long (0 : Int64)), .second, .unset, .unset, .unset, .unset, .unset] [(.ref x)])) st2 ?_
  refine own_go (U' := T2.setTop (mkF m 34 #[.val (.long q1), .second, .val (.long (0 : Int64)), .second, .val (.ref x), .unset, .unset, .unset, .unset] [])) (fun t k => XS.astore X2.here hx rfl (hb hby dts_32) rfl rfl (l' := #[.val (.long q1), .second, .val (.long (0 : Int64)), .second, .val (.ref x), .unset, .unset, .unset, .unset]) rfl k) ?_
  refine own_go (U' := T2.setTop (mkF m 36 #[.val (.long q1), .second, .val (.long (0 : Int64)), .second, .val (.ref x), .unset, .unset, .unset, .unset] [(.ref x)])) (fun t k => XS.aload X2.here hx rfl (hb hby dts_34) rfl rfl k) ?_
  refine own_go (U' := T2.setTop (mkF m 37 #[.val (.long q1), .second, .val (.long (0 : Int64)), .second, .val (.ref x), .unset, .unset, .unset, .unset] [(.int (Int32.ofNat (own_lv 8 (own_cd q1 4096)).length))])) (own_arrlen X2 hx hZ e2 V_x (n := (Int32.ofNat (own_lv 8 (own_cd q1 4096)).length)) (by simp [own_ls]) (g := (mkF m 36 #[.val (.long q1), .second, .val (.long (0 : Int64)), .second, .val (.ref x), .unset, .unset, .unset, .unset] [(.ref x)])) rfl rfl (hb hby dts_36)) ?_
  refine own_go (U' := T2.setTop (mkF m 39 #[.val (.long q1), .second, .val (.long (0 : Int64)), .second, .val (.ref x), .val (.int (Int32.ofNat (own_lv 8 (own_cd q1 4096)).length)), .unset, .unset, .unset] [])) (fun t k => XS.istore X2.here hx rfl (hb hby dts_37) rfl (l' := #[.val (.long q1), .second, .val (.long (0 : Int64)), .second, .val (.ref x), .val (.int (Int32.ofNat (own_lv 8 (own_cd q1 4096)).length)), .unset, .unset, .unset]) rfl k) ?_
  refine own_go (U' := T2.setTop (mkF m 40 #[.val (.long q1), .second, .val (.long (0 : Int64)), .second, .val (.ref x), .val (.int (Int32.ofNat (own_lv 8 (own_cd q1 4096)).length)), .unset, .unset, .unset] [(.int (0 : Int32))])) (fun t k => XS.iconst X2.here hx rfl (hb hby dts_39) k) ?_
  refine own_go (U' := T2.setTop (mkF m 42 #[.val (.long q1), .second, .val (.long (0 : Int64)), .second, .val (.ref x), .val (.int (Int32.ofNat (own_lv 8 (own_cd q1 4096)).length)), .val (.int (0 : Int32)), .unset, .unset] [])) (fun t k => XS.istore X2.here hx rfl (hb hby dts_40) rfl (l' := #[.val (.long q1), .second, .val (.long (0 : Int64)), .second, .val (.ref x), .val (.int (Int32.ofNat (own_lv 8 (own_cd q1 4096)).length)), .val (.int (0 : Int32)), .unset, .unset]) rfl k) ?_
  refine own_lp3 hx hZ hw hby hml hown q1 _ (own_lv 8 (own_cd q1 4096)) [] 0 .unset .unset _ X2 e2 (Or.inl ⟨rfl, rfl⟩) (by simpa using hlen) (by simp) V_x fun T9 o7 o8 X9 e9 => ?_
  refine own_go (U' := T9.setTop (mkF m 72 #[.val (.long q1), .second, .val (.long (own_acc 0 (own_lv 8 (own_cd q1 4096)))), .second, .val (.ref x), .val (.int (Int32.ofNat (own_lv 8 (own_cd q1 4096)).length)), .val (.int (Int32.ofNat (own_lv 8 (own_cd q1 4096)).length)), o7, o8] [(.long (own_acc 0 (own_lv 8 (own_cd q1 4096))))])) (fun t k => XS.lloadN X9.here hx rfl (hb hby dts_71) rfl k) ?_
  refine own_retL X9 hx hret hlk (hb hby dts_72) ?_ (by decide) (by decide)
  exact ⟨rfl, N2⟩
theorem own_fs (x : Int64) (m : UInt64) : 0 ≤ (((x &&& (9223372036854775807 : Int64)).toUInt64 >>> m).toInt64).toInt := by
  have h1 := c_maskL x 9223372036854775807 63 (by decide) (by decide)
  have h2 : 0 ≤ (x &&& (9223372036854775807 : Int64)).toInt := by rw [h1]; omega
  generalize (x &&& (9223372036854775807 : Int64)) = y at *
  have h3 : y.toUInt64.toNat < 2 ^ 63 := by
    have h4 : y.toInt = (y.toBitVec).toInt := rfl
    have h5 : y.toUInt64.toNat = y.toBitVec.toNat := rfl
    rw [h4, BitVec.toInt_eq_toNat_cond] at h2
    have := y.toBitVec.isLt
    rw [h5]; split at h2 <;> omega
  have h6 : (y.toUInt64 >>> m).toNat ≤ y.toUInt64.toNat := by
    rw [UInt64.toNat_shiftRight]; exact Nat.shiftRight_le _ _
  have h7 : ((y.toUInt64 >>> m).toInt64).toInt = ((y.toUInt64 >>> m).toBitVec).toInt := rfl
  rw [h7, BitVec.toInt_eq_toNat_cond]
  have h8 : (y.toUInt64 >>> m).toBitVec.toNat = (y.toUInt64 >>> m).toNat := rfl
  rw [h8]; split <;> omega
theorem own_d (f : Int64) (h : 0 ≤ f.toInt) : own_sh f 12 + (if (f &&& (4095 : Int64)) = (0 : Int64) then (0 : Int64) else (1 : Int64)) = own_cd f 4096 := by
  apply Int64.toInt_inj.mp
  rw [own_cd_toInt h (d := 4096) rfl (by decide) (by decide)]
  have a1 := c_lushr f 12 12 rfl (by decide)
  have a2 := c_maskL f 4095 12 (by decide) (by decide)
  have hr := rng64 f
  have e12 : ((2 ^ 12 : Nat) : Int) = 4096 := rfl
  rw [e12] at a1 a2
  have a3 : (f &&& (4095 : Int64)) = (0 : Int64) ↔ f.toInt % 4096 = 0 := by rw [← Int64.toInt_inj, a2]; exact Iff.rfl
  have a4 := c_ladd (own_sh f 12) 1
  have a5 := rng64 (own_sh f 12 + 1)
  rw [own_one] at a4
  have a6 : (own_sh f 12).toInt = f.toInt / 4096 := by rw [own_sh, a1]; omega
  by_cases q : f.toInt % 4096 = 0
  · rw [if_pos (a3.mpr q), if_pos q, Int64.add_zero, a6]; omega
  · rw [if_neg fun z => q (a3.mp z), if_neg q]; omega
theorem own_plain (f : Int64) (h : 0 ≤ f.toInt) (d l1 l2 l3 l4 l5 l6 l7 l8 : Int64) (hd : d = own_cd f 4096) (h1 : l1 = own_up d) (h2 : l2 = own_up l1) (h3 : l3 = own_up l2) (h4 : l4 = own_up l3) (h5 : l5 = own_up l4) (h6 : l6 = own_up l5) (h7 : l7 = own_up l6) (h8 : l8 = own_up l7) :
    own_acc 0 (own_lv 8 (own_cd f 4096)) = ((l1 + l2 + l3 + l4 + l5 + l6 + l7 + l8) <<< ((12 : Int32) &&& 0x3f).toInt64) := by
  have hq := own_cd_toInt h (b := 4096) (d := 4096) rfl (by decide) (by decide)
  have hr := rng64 f
  have p8 : (128 : Int) ^ 8 = 72057594037927936 := by decide
  rw [own_sum 8 _ (by rw [hq]; split <;> omega) (by decide) (by rw [hq, p8]; split <;> omega), shlmL (m := 4096) (by decide), Int64.zero_add]
  have e : own_us 8 (own_cd f 4096) = l1 + l2 + l3 + l4 + l5 + l6 + l7 + l8 := by
    simp only [own_us, ← hd, ← h1, ← h2, ← h3, ← h4, ← h5, ← h6, ← h7, ← h8, Int64.add_zero, Int64.add_assoc]
  rw [e]
theorem own_ef0 (m : MethodId) (q1 : Int64) (p1 : Int32) : entryFrame m #[(.long q1), (.int p1)] maxLocals = mkF m 0 #[.val (.long q1), .second, .val (.int p1), .unset, .unset, .unset, .unset, .unset, .unset, .unset, .unset, .unset, .unset, .unset, .unset, .unset, .unset, .unset, .unset, .unset, .unset, .unset, .unset, .unset, .unset] [] := by first | (simp [entryFrame, mkF, argsToLocals, Value.category, maxLocals]; done) | rfl
set_option maxRecDepth 65536 in
set_option maxHeartbeats 40000000 in
theorem own_rm0 (l : Launch) (Z : State) (a0 : Array Value) (hw : ∀ d ∈ tables_1, d.before a0 Z = true) (ws : List Jvm.Cond) (q1 : Int64) (p1 : Int32) (h0 : Heap) (n0 : Nat) (O : Old Z n0 h0) :
    own_C l Z x code maxLocals ret ws room_1 #[(.long q1), (.int p1)] h0 (fun v h L => v = some (.int 1) ∧ Fr n0 L) := by
  refine own_body (plainFor_of_name own_pn0) fun p e s m below meth c s₁ hx hby hml hret hlk hown hnm hZ X0 e0 => ?_
  rw [own_ef0 m q1 p1]
  have hml : c.maxLocals = 25 := hml
  have hret : meth.sig.returnType = some .boolean := hret
  have N0 := Fr.nil n0
  refine own_go (U' := s₁.setTop (mkF m 1 #[.val (.long q1), .second, .val (.int p1), .unset, .unset, .unset, .unset, .unset, .unset, .unset, .unset, .unset, .unset, .unset, .unset, .unset, .unset, .unset, .unset, .unset, .unset, .unset, .unset, .unset, .unset] [(.long q1)])) (fun t k => XS.lloadN X0.here hx rfl (hb hby at_0) rfl k) ?_
  refine own_go (U' := s₁.setTop (mkF m 4 #[.val (.long q1), .second, .val (.int p1), .unset, .unset, .unset, .unset, .unset, .unset, .unset, .unset, .unset, .unset, .unset, .unset, .unset, .unset, .unset, .unset, .unset, .unset, .unset, .unset, .unset, .unset] [(.long (9223372036854775807 : Int64)), (.long q1)])) (fun t k => X0.ldc2Long hx hown (mvT hZ (hw _ (List.mem_of_getElem? (i := 0) rfl))) (g := (mkF m 1 #[.val (.long q1), .second, .val (.int p1), .unset, .unset, .unset, .unset, .unset, .unset, .unset, .unset, .unset, .unset, .unset, .unset, .unset, .unset, .unset, .unset, .unset, .unset, .unset, .unset, .unset, .unset] [(.long q1)])) rfl (hb hby at_1) _ k) ?_
  refine own_go (U' := s₁.setTop (mkF m 5 #[.val (.long q1), .second, .val (.int p1), .unset, .unset, .unset, .unset, .unset, .unset, .unset, .unset, .unset, .unset, .unset, .unset, .unset, .unset, .unset, .unset, .unset, .unset, .unset, .unset, .unset, .unset] [(.long (q1 &&& (9223372036854775807 : Int64)))])) (fun t k => XS.land X0.here hx rfl (hb hby at_4) rfl k) ?_
  refine own_go (U' := s₁.setTop (mkF m 6 #[.val (.long q1), .second, .val (.int p1), .unset, .unset, .unset, .unset, .unset, .unset, .unset, .unset, .unset, .unset, .unset, .unset, .unset, .unset, .unset, .unset, .unset, .unset, .unset, .unset, .unset, .unset] [(.int p1), (.long (q1 &&& (9223372036854775807 : Int64)))])) (fun t k => XS.iloadN X0.here hx rfl (hb hby at_5) rfl k) ?_
  refine own_go (U' := s₁.setTop (mkF m 8 #[.val (.long q1), .second, .val (.int p1), .unset, .unset, .unset, .unset, .unset, .unset, .unset, .unset, .unset, .unset, .unset, .unset, .unset, .unset, .unset, .unset, .unset, .unset, .unset, .unset, .unset, .unset] [(.int (63 : Int32)), (.int p1), (.long (q1 &&& (9223372036854775807 : Int64)))])) (fun t k => XS.bipush X0.here hx rfl (hb hby at_6) k) ?_
  refine own_go (U' := s₁.setTop (mkF m 9 #[.val (.long q1), .second, .val (.int p1), .unset, .unset, .unset, .unset, .unset, .unset, .unset, .unset, .unset, .unset, .unset, .unset, .unset, .unset, .unset, .unset, .unset, .unset, .unset, .unset, .unset, .unset] [(.int (p1 &&& (63 : Int32))), (.long (q1 &&& (9223372036854775807 : Int64)))])) (fun t k => XS.iand X0.here hx rfl (hb hby at_8) rfl k) ?_
  refine own_go (U' := s₁.setTop (mkF m 10 #[.val (.long q1), .second, .val (.int p1), .unset, .unset, .unset, .unset, .unset, .unset, .unset, .unset, .unset, .unset, .unset, .unset, .unset, .unset, .unset, .unset, .unset, .unset, .unset, .unset, .unset, .unset] [(.long (((q1 &&& (9223372036854775807 : Int64)).toUInt64 >>> ((p1 &&& (63 : Int32)) &&& 0x3f).toInt64.toUInt64).toInt64))])) (fun t k => XS.lushr X0.here hx rfl (hb hby at_9) rfl k) ?_
  generalize hv_fs : (((q1 &&& (9223372036854775807 : Int64)).toUInt64 >>> ((p1 &&& (63 : Int32)) &&& 0x3f).toInt64.toUInt64).toInt64) = fs
  refine own_go (U' := s₁.setTop (mkF m 11 #[.val (.long q1), .second, .val (.int p1), .val (.long fs), .second, .unset, .unset, .unset, .unset, .unset, .unset, .unset, .unset, .unset, .unset, .unset, .unset, .unset, .unset, .unset, .unset, .unset, .unset, .unset, .unset] [])) (fun t k => XS.lstoreN X0.here hx rfl (hb hby at_10) rfl (l' := #[.val (.long q1), .second, .val (.int p1), .val (.long fs), .second, .unset, .unset, .unset, .unset, .unset, .unset, .unset, .unset, .unset, .unset, .unset, .unset, .unset, .unset, .unset, .unset, .unset, .unset, .unset, .unset]) rfl k) ?_
  refine own_go (U' := s₁.setTop (mkF m 12 #[.val (.long q1), .second, .val (.int p1), .val (.long fs), .second, .unset, .unset, .unset, .unset, .unset, .unset, .unset, .unset, .unset, .unset, .unset, .unset, .unset, .unset, .unset, .unset, .unset, .unset, .unset, .unset] [(.long fs)])) (fun t k => XS.lloadN X0.here hx rfl (hb hby at_11) rfl k) ?_
  refine own_go (U' := s₁.setTop (mkF m 14 #[.val (.long q1), .second, .val (.int p1), .val (.long fs), .second, .unset, .unset, .unset, .unset, .unset, .unset, .unset, .unset, .unset, .unset, .unset, .unset, .unset, .unset, .unset, .unset, .unset, .unset, .unset, .unset] [(.int (12 : Int32)), (.long fs)])) (fun t k => XS.bipush X0.here hx rfl (hb hby at_12) k) ?_
  refine own_go (U' := s₁.setTop (mkF m 15 #[.val (.long q1), .second, .val (.int p1), .val (.long fs), .second, .unset, .unset, .unset, .unset, .unset, .unset, .unset, .unset, .unset, .unset, .unset, .unset, .unset, .unset, .unset, .unset, .unset, .unset, .unset, .unset] [(.long ((fs.toUInt64 >>> ((12 : Int32) &&& 0x3f).toInt64.toUInt64).toInt64))])) (fun t k => XS.lushr X0.here hx rfl (hb hby at_14) rfl k) ?_
  refine own_go (U' := s₁.setTop (mkF m 16 #[.val (.long q1), .second, .val (.int p1), .val (.long fs), .second, .unset, .unset, .unset, .unset, .unset, .unset, .unset, .unset, .unset, .unset, .unset, .unset, .unset, .unset, .unset, .unset, .unset, .unset, .unset, .unset] [(.long fs), (.long ((fs.toUInt64 >>> ((12 : Int32) &&& 0x3f).toInt64.toUInt64).toInt64))])) (fun t k => XS.lloadN X0.here hx rfl (hb hby at_15) rfl k) ?_
  refine own_go (U' := s₁.setTop (mkF m 19 #[.val (.long q1), .second, .val (.int p1), .val (.long fs), .second, .unset, .unset, .unset, .unset, .unset, .unset, .unset, .unset, .unset, .unset, .unset, .unset, .unset, .unset, .unset, .unset, .unset, .unset, .unset, .unset] [(.long (4095 : Int64)), (.long fs), (.long ((fs.toUInt64 >>> ((12 : Int32) &&& 0x3f).toInt64.toUInt64).toInt64))])) (fun t k => X0.ldc2Long hx hown (mvT hZ (hw _ (List.mem_of_getElem? (i := 1) rfl))) (g := (mkF m 16 #[.val (.long q1), .second, .val (.int p1), .val (.long fs), .second, .unset, .unset, .unset, .unset, .unset, .unset, .unset, .unset, .unset, .unset, .unset, .unset, .unset, .unset, .unset, .unset, .unset, .unset, .unset, .unset] [(.long fs), (.long ((fs.toUInt64 >>> ((12 : Int32) &&& 0x3f).toInt64.toUInt64).toInt64))])) rfl (hb hby at_16) _ k) ?_
  refine own_go (U' := s₁.setTop (mkF m 20 #[.val (.long q1), .second, .val (.int p1), .val (.long fs), .second, .unset, .unset, .unset, .unset, .unset, .unset, .unset, .unset, .unset, .unset, .unset, .unset, .unset, .unset, .unset, .unset, .unset, .unset, .unset, .unset] [(.long (fs &&& (4095 : Int64))), (.long ((fs.toUInt64 >>> ((12 : Int32) &&& 0x3f).toInt64.toUInt64).toInt64))])) (fun t k => XS.land X0.here hx rfl (hb hby at_19) rfl k) ?_
  refine own_go (U' := s₁.setTop (mkF m 21 #[.val (.long q1), .second, .val (.int p1), .val (.long fs), .second, .unset, .unset, .unset, .unset, .unset, .unset, .unset, .unset, .unset, .unset, .unset, .unset, .unset, .unset, .unset, .unset, .unset, .unset, .unset, .unset] [(.long (0 : Int64)), (.long (fs &&& (4095 : Int64))), (.long ((fs.toUInt64 >>> ((12 : Int32) &&& 0x3f).toInt64.toUInt64).toInt64))])) (fun t k => XS.lconst X0.here hx rfl (hb hby at_20) k) ?_
  refine own_go (U' := s₁.setTop (mkF m 22 #[.val (.long q1), .second, .val (.int p1), .val (.long fs), .second, .unset, .unset, .unset, .unset, .unset, .unset, .unset, .unset, .unset, .unset, .unset, .unset, .unset, .unset, .unset, .unset, .unset, .unset, .unset, .unset] [(.int (lcmpW (fs &&& (4095 : Int64)) (0 : Int64))), (.long ((fs.toUInt64 >>> ((12 : Int32) &&& 0x3f).toInt64.toUInt64).toInt64))])) (fun t k => XS.lcmp X0.here hx rfl (hb hby at_21) rfl k) ?_
  have hfs : 0 ≤ fs.toInt := hv_fs ▸ own_fs q1 _
  refine own_go (U' := s₁.setTop (mkF m 30 #[.val (.long q1), .second, .val (.int p1), .val (.long fs), .second, .unset, .unset, .unset, .unset, .unset, .unset, .unset, .unset, .unset, .unset, .unset, .unset, .unset, .unset, .unset, .unset, .unset, .unset, .unset, .unset] [(.long (if (fs &&& (4095 : Int64)) = (0 : Int64) then (0 : Int64) else (1 : Int64))), (.long ((fs.toUInt64 >>> ((12 : Int32) &&& 0x3f).toInt64.toUInt64).toInt64))])) (fun t k => ?_) ?_
  · show Steps p.tables e below (s₁.setTop (mkF m 22 #[.val (.long q1), .second, .val (.int p1), .val (.long fs), .second, .unset, .unset, .unset, .unset, .unset, .unset, .unset, .unset, .unset, .unset, .unset, .unset, .unset, .unset, .unset, .unset, .unset, .unset, .unset, .unset] [(.int (lcmpW (fs &&& (4095 : Int64)) (0 : Int64))), (.long ((fs.toUInt64 >>> ((12 : Int32) &&& 0x3f).toInt64.toUInt64).toInt64))])) _
    by_cases hd22 : (fs &&& (4095 : Int64)) = (0 : Int64)
    · simp only [if_pos hd22] at k
      refine XS.ifYes X0.here hx rfl (pc0 := 22) (pc' := 29) rfl (hb hby at_22) rfl ((if0 _ _).trans (teq ((lw_eq (fs &&& (4095 : Int64)) (0 : Int64)).mpr hd22)).1) (by decide) (by decide) ?_
      show Steps p.tables e below (s₁.setTop (mkF m 29 #[.val (.long q1), .second, .val (.int p1), .val (.long fs), .second, .unset, .unset, .unset, .unset, .unset, .unset, .unset, .unset, .unset, .unset, .unset, .unset, .unset, .unset, .unset, .unset, .unset, .unset, .unset, .unset] [(.long ((fs.toUInt64 >>> ((12 : Int32) &&& 0x3f).toInt64.toUInt64).toInt64))])) _
      refine XS.lconst X0.here hx rfl (hb hby at_29) ?_
      show Steps p.tables e below (s₁.setTop (mkF m 30 #[.val (.long q1), .second, .val (.int p1), .val (.long fs), .second, .unset, .unset, .unset, .unset, .unset, .unset, .unset, .unset, .unset, .unset, .unset, .unset, .unset, .unset, .unset, .unset, .unset, .unset, .unset, .unset] [(.long (0 : Int64)), (.long ((fs.toUInt64 >>> ((12 : Int32) &&& 0x3f).toInt64.toUInt64).toInt64))])) _
      exact k
    · simp only [if_neg hd22] at k
      refine XS.ifNo X0.here hx rfl (hb hby at_22) rfl ((if0 _ _).trans (feq (fun q => hd22 ((lw_eq (fs &&& (4095 : Int64)) (0 : Int64)).mp q))).1) ?_
      show Steps p.tables e below (s₁.setTop (mkF m 25 #[.val (.long q1), .second, .val (.int p1), .val (.long fs), .second, .unset, .unset, .unset, .unset, .unset, .unset, .unset, .unset, .unset, .unset, .unset, .unset, .unset, .unset, .unset, .unset, .unset, .unset, .unset, .unset] [(.long ((fs.toUInt64 >>> ((12 : Int32) &&& 0x3f).toInt64.toUInt64).toInt64))])) _
      refine XS.lconst X0.here hx rfl (hb hby at_25) ?_
      show Steps p.tables e below (s₁.setTop (mkF m 26 #[.val (.long q1), .second, .val (.int p1), .val (.long fs), .second, .unset, .unset, .unset, .unset, .unset, .unset, .unset, .unset, .unset, .unset, .unset, .unset, .unset, .unset, .unset, .unset, .unset, .unset, .unset, .unset] [(.long (1 : Int64)), (.long ((fs.toUInt64 >>> ((12 : Int32) &&& 0x3f).toInt64.toUInt64).toInt64))])) _
      refine XS.goto X0.here hx rfl (pc0 := 26) (pc' := 30) rfl (hb hby at_26) (by decide) (by decide) ?_
      show Steps p.tables e below (s₁.setTop (mkF m 30 #[.val (.long q1), .second, .val (.int p1), .val (.long fs), .second, .unset, .unset, .unset, .unset, .unset, .unset, .unset, .unset, .unset, .unset, .unset, .unset, .unset, .unset, .unset, .unset, .unset, .unset, .unset, .unset] [(.long (1 : Int64)), (.long ((fs.toUInt64 >>> ((12 : Int32) &&& 0x3f).toInt64.toUInt64).toInt64))])) _
      exact k
  refine own_go (U' := s₁.setTop (mkF m 31 #[.val (.long q1), .second, .val (.int p1), .val (.long fs), .second, .unset, .unset, .unset, .unset, .unset, .unset, .unset, .unset, .unset, .unset, .unset, .unset, .unset, .unset, .unset, .unset, .unset, .unset, .unset, .unset] [(.long (((fs.toUInt64 >>> ((12 : Int32) &&& 0x3f).toInt64.toUInt64).toInt64) + (if (fs &&& (4095 : Int64)) = (0 : Int64) then (0 : Int64) else (1 : Int64))))])) (fun t k => XS.ladd X0.here hx rfl (hb hby at_30) rfl k) ?_
  generalize hv_d : (((fs.toUInt64 >>> ((12 : Int32) &&& 0x3f).toInt64.toUInt64).toInt64) + (if (fs &&& (4095 : Int64)) = (0 : Int64) then (0 : Int64) else (1 : Int64))) = d
  refine own_go (U' := s₁.setTop (mkF m 33 #[.val (.long q1), .second, .val (.int p1), .val (.long fs), .second, .val (.long d), .second, .unset, .unset, .unset, .unset, .unset, .unset, .unset, .unset, .unset, .unset, .unset, .unset, .unset, .unset, .unset, .unset, .unset, .unset] [])) (fun t k => XS.lstore X0.here hx rfl (hb hby at_31) rfl (l' := #[.val (.long q1), .second, .val (.int p1), .val (.long fs), .second, .val (.long d), .second, .unset, .unset, .unset, .unset, .unset, .unset, .unset, .unset, .unset, .unset, .unset, .unset, .unset, .unset, .unset, .unset, .unset, .unset]) rfl k) ?_
  refine own_go (U' := s₁.setTop (mkF m 35 #[.val (.long q1), .second, .val (.int p1), .val (.long fs), .second, .val (.long d), .second, .unset, .unset, .unset, .unset, .unset, .unset, .unset, .unset, .unset, .unset, .unset, .unset, .unset, .unset, .unset, .unset, .unset, .unset] [(.long d)])) (fun t k => XS.lload X0.here hx rfl (hb hby at_33) rfl k) ?_
  obtain ⟨v1, T1, h1, L1, e1, X1, hQ1, st1⟩ := own_callS X0 hx hZ (y := (⟨"com/example/verity/verity/FsVerityTreeTreeSizePinLaw", "up", "(J)J"⟩ : MethodName)) hown (hw _ (List.mem_of_getElem? (i := 2) rfl)) (hw _ (List.mem_of_getElem? (i := 3) rfl)) (hw _ (List.mem_of_getElem? (i := 4) rfl)) (hw _ (List.mem_of_getElem? (i := 5) rfl)) (by decide) (own_rmup l Z a0 hw d h0) (W := 0) (by decide) (by decide) (g := (mkF m 35 #[.val (.long q1), .second, .val (.int p1), .val (.long fs), .second, .val (.long d), .second, .unset, .unset, .unset, .unset, .unset, .unset, .unset, .unset, .unset, .unset, .unset, .unset, .unset, .unset, .unset, .unset, .unset, .unset] [(.long d)])) rfl (by rw [hml]; rfl) (argsL := [(.long d)]) (rest := []) (lenOf own_pd1 rfl) rfl rfl (by show 2 * 0 + _ ≤ _; exact Nat.le_of_eq rfl) (hb hby at_35) e0 (by decide) (by decide)
  obtain ⟨rfl, rfl, eh1⟩ := hQ1
  have e1 := e1.trans eh1
  rw [List.append_nil] at X1
  refine own_go (U' := T1.setTop (mkF m 38 #[.val (.long q1), .second, .val (.int p1), .val (.long fs), .second, .val (.long d), .second, .unset, .unset, .unset, .unset, .unset, .unset, .unset, .unset, .unset, .unset, .unset, .unset, .unset, .unset, .unset, .unset, .unset, .unset] [(.long (own_up d))])) st1 ?_
  generalize hv_l1 : (own_up d) = l1
  refine own_go (U' := T1.setTop (mkF m 40 #[.val (.long q1), .second, .val (.int p1), .val (.long fs), .second, .val (.long d), .second, .val (.long l1), .second, .unset, .unset, .unset, .unset, .unset, .unset, .unset, .unset, .unset, .unset, .unset, .unset, .unset, .unset, .unset, .unset] [])) (fun t k => XS.lstore X1.here hx rfl (hb hby at_38) rfl (l' := #[.val (.long q1), .second, .val (.int p1), .val (.long fs), .second, .val (.long d), .second, .val (.long l1), .second, .unset, .unset, .unset, .unset, .unset, .unset, .unset, .unset, .unset, .unset, .unset, .unset, .unset, .unset, .unset, .unset]) rfl k) ?_
  refine own_go (U' := T1.setTop (mkF m 42 #[.val (.long q1), .second, .val (.int p1), .val (.long fs), .second, .val (.long d), .second, .val (.long l1), .second, .unset, .unset, .unset, .unset, .unset, .unset, .unset, .unset, .unset, .unset, .unset, .unset, .unset, .unset, .unset, .unset] [(.long l1)])) (fun t k => XS.lload X1.here hx rfl (hb hby at_40) rfl k) ?_
  obtain ⟨v2, T2, h2, L2, e2, X2, hQ2, st2⟩ := own_callS X1 hx hZ (y := (⟨"com/example/verity/verity/FsVerityTreeTreeSizePinLaw", "up", "(J)J"⟩ : MethodName)) hown (hw _ (List.mem_of_getElem? (i := 2) rfl)) (hw _ (List.mem_of_getElem? (i := 3) rfl)) (hw _ (List.mem_of_getElem? (i := 4) rfl)) (hw _ (List.mem_of_getElem? (i := 5) rfl)) (by decide) (own_rmup l Z a0 hw l1 h0) (W := 0) (by decide) (by decide) (g := (mkF m 42 #[.val (.long q1), .second, .val (.int p1), .val (.long fs), .second, .val (.long d), .second, .val (.long l1), .second, .unset, .unset, .unset, .unset, .unset, .unset, .unset, .unset, .unset, .unset, .unset, .unset, .unset, .unset, .unset, .unset] [(.long l1)])) rfl (by rw [hml]; rfl) (argsL := [(.long l1)]) (rest := []) (lenOf own_pd1 rfl) rfl rfl (by show 2 * 0 + _ ≤ _; exact Nat.le_of_eq rfl) (hb hby at_42) e1 (by decide) (by decide)
  obtain ⟨rfl, rfl, eh2⟩ := hQ2
  have e2 := e2.trans eh2
  rw [List.append_nil] at X2
  refine own_go (U' := T2.setTop (mkF m 45 #[.val (.long q1), .second, .val (.int p1), .val (.long fs), .second, .val (.long d), .second, .val (.long l1), .second, .unset, .unset, .unset, .unset, .unset, .unset, .unset, .unset, .unset, .unset, .unset, .unset, .unset, .unset, .unset, .unset] [(.long (own_up l1))])) st2 ?_
  generalize hv_l2 : (own_up l1) = l2
  refine own_go (U' := T2.setTop (mkF m 47 #[.val (.long q1), .second, .val (.int p1), .val (.long fs), .second, .val (.long d), .second, .val (.long l1), .second, .val (.long l2), .second, .unset, .unset, .unset, .unset, .unset, .unset, .unset, .unset, .unset, .unset, .unset, .unset, .unset, .unset] [])) (fun t k => XS.lstore X2.here hx rfl (hb hby at_45) rfl (l' := #[.val (.long q1), .second, .val (.int p1), .val (.long fs), .second, .val (.long d), .second, .val (.long l1), .second, .val (.long l2), .second, .unset, .unset, .unset, .unset, .unset, .unset, .unset, .unset, .unset, .unset, .unset, .unset, .unset, .unset]) rfl k) ?_
  refine own_go (U' := T2.setTop (mkF m 49 #[.val (.long q1), .second, .val (.int p1), .val (.long fs), .second, .val (.long d), .second, .val (.long l1), .second, .val (.long l2), .second, .unset, .unset, .unset, .unset, .unset, .unset, .unset, .unset, .unset, .unset, .unset, .unset, .unset, .unset] [(.long l2)])) (fun t k => XS.lload X2.here hx rfl (hb hby at_47) rfl k) ?_
  obtain ⟨v3, T3, h3, L3, e3, X3, hQ3, st3⟩ := own_callS X2 hx hZ (y := (⟨"com/example/verity/verity/FsVerityTreeTreeSizePinLaw", "up", "(J)J"⟩ : MethodName)) hown (hw _ (List.mem_of_getElem? (i := 2) rfl)) (hw _ (List.mem_of_getElem? (i := 3) rfl)) (hw _ (List.mem_of_getElem? (i := 4) rfl)) (hw _ (List.mem_of_getElem? (i := 5) rfl)) (by decide) (own_rmup l Z a0 hw l2 h0) (W := 0) (by decide) (by decide) (g := (mkF m 49 #[.val (.long q1), .second, .val (.int p1), .val (.long fs), .second, .val (.long d), .second, .val (.long l1), .second, .val (.long l2), .second, .unset, .unset, .unset, .unset, .unset, .unset, .unset, .unset, .unset, .unset, .unset, .unset, .unset, .unset] [(.long l2)])) rfl (by rw [hml]; rfl) (argsL := [(.long l2)]) (rest := []) (lenOf own_pd1 rfl) rfl rfl (by show 2 * 0 + _ ≤ _; exact Nat.le_of_eq rfl) (hb hby at_49) e2 (by decide) (by decide)
  obtain ⟨rfl, rfl, eh3⟩ := hQ3
  have e3 := e3.trans eh3
  rw [List.append_nil] at X3
  refine own_go (U' := T3.setTop (mkF m 52 #[.val (.long q1), .second, .val (.int p1), .val (.long fs), .second, .val (.long d), .second, .val (.long l1), .second, .val (.long l2), .second, .unset, .unset, .unset, .unset, .unset, .unset, .unset, .unset, .unset, .unset, .unset, .unset, .unset, .unset] [(.long (own_up l2))])) st3 ?_
  generalize hv_l3 : (own_up l2) = l3
  refine own_go (U' := T3.setTop (mkF m 54 #[.val (.long q1), .second, .val (.int p1), .val (.long fs), .second, .val (.long d), .second, .val (.long l1), .second, .val (.long l2), .second, .val (.long l3), .second, .unset, .unset, .unset, .unset, .unset, .unset, .unset, .unset, .unset, .unset, .unset, .unset] [])) (fun t k => XS.lstore X3.here hx rfl (hb hby at_52) rfl (l' := #[.val (.long q1), .second, .val (.int p1), .val (.long fs), .second, .val (.long d), .second, .val (.long l1), .second, .val (.long l2), .second, .val (.long l3), .second, .unset, .unset, .unset, .unset, .unset, .unset, .unset, .unset, .unset, .unset, .unset, .unset]) rfl k) ?_
  refine own_go (U' := T3.setTop (mkF m 56 #[.val (.long q1), .second, .val (.int p1), .val (.long fs), .second, .val (.long d), .second, .val (.long l1), .second, .val (.long l2), .second, .val (.long l3), .second, .unset, .unset, .unset, .unset, .unset, .unset, .unset, .unset, .unset, .unset, .unset, .unset] [(.long l3)])) (fun t k => XS.lload X3.here hx rfl (hb hby at_54) rfl k) ?_
  obtain ⟨v4, T4, h4, L4, e4, X4, hQ4, st4⟩ := own_callS X3 hx hZ (y := (⟨"com/example/verity/verity/FsVerityTreeTreeSizePinLaw", "up", "(J)J"⟩ : MethodName)) hown (hw _ (List.mem_of_getElem? (i := 2) rfl)) (hw _ (List.mem_of_getElem? (i := 3) rfl)) (hw _ (List.mem_of_getElem? (i := 4) rfl)) (hw _ (List.mem_of_getElem? (i := 5) rfl)) (by decide) (own_rmup l Z a0 hw l3 h0) (W := 0) (by decide) (by decide) (g := (mkF m 56 #[.val (.long q1), .second, .val (.int p1), .val (.long fs), .second, .val (.long d), .second, .val (.long l1), .second, .val (.long l2), .second, .val (.long l3), .second, .unset, .unset, .unset, .unset, .unset, .unset, .unset, .unset, .unset, .unset, .unset, .unset] [(.long l3)])) rfl (by rw [hml]; rfl) (argsL := [(.long l3)]) (rest := []) (lenOf own_pd1 rfl) rfl rfl (by show 2 * 0 + _ ≤ _; exact Nat.le_of_eq rfl) (hb hby at_56) e3 (by decide) (by decide)
  obtain ⟨rfl, rfl, eh4⟩ := hQ4
  have e4 := e4.trans eh4
  rw [List.append_nil] at X4
  refine own_go (U' := T4.setTop (mkF m 59 #[.val (.long q1), .second, .val (.int p1), .val (.long fs), .second, .val (.long d), .second, .val (.long l1), .second, .val (.long l2), .second, .val (.long l3), .second, .unset, .unset, .unset, .unset, .unset, .unset, .unset, .unset, .unset, .unset, .unset, .unset] [(.long (own_up l3))])) st4 ?_
  generalize hv_l4 : (own_up l3) = l4
  refine own_go (U' := T4.setTop (mkF m 61 #[.val (.long q1), .second, .val (.int p1), .val (.long fs), .second, .val (.long d), .second, .val (.long l1), .second, .val (.long l2), .second, .val (.long l3), .second, .val (.long l4), .second, .unset, .unset, .unset, .unset, .unset, .unset, .unset, .unset, .unset, .unset] [])) (fun t k => XS.lstore X4.here hx rfl (hb hby at_59) rfl (l' := #[.val (.long q1), .second, .val (.int p1), .val (.long fs), .second, .val (.long d), .second, .val (.long l1), .second, .val (.long l2), .second, .val (.long l3), .second, .val (.long l4), .second, .unset, .unset, .unset, .unset, .unset, .unset, .unset, .unset, .unset, .unset]) rfl k) ?_
  refine own_go (U' := T4.setTop (mkF m 63 #[.val (.long q1), .second, .val (.int p1), .val (.long fs), .second, .val (.long d), .second, .val (.long l1), .second, .val (.long l2), .second, .val (.long l3), .second, .val (.long l4), .second, .unset, .unset, .unset, .unset, .unset, .unset, .unset, .unset, .unset, .unset] [(.long l4)])) (fun t k => XS.lload X4.here hx rfl (hb hby at_61) rfl k) ?_
  obtain ⟨v5, T5, h5, L5, e5, X5, hQ5, st5⟩ := own_callS X4 hx hZ (y := (⟨"com/example/verity/verity/FsVerityTreeTreeSizePinLaw", "up", "(J)J"⟩ : MethodName)) hown (hw _ (List.mem_of_getElem? (i := 2) rfl)) (hw _ (List.mem_of_getElem? (i := 3) rfl)) (hw _ (List.mem_of_getElem? (i := 4) rfl)) (hw _ (List.mem_of_getElem? (i := 5) rfl)) (by decide) (own_rmup l Z a0 hw l4 h0) (W := 0) (by decide) (by decide) (g := (mkF m 63 #[.val (.long q1), .second, .val (.int p1), .val (.long fs), .second, .val (.long d), .second, .val (.long l1), .second, .val (.long l2), .second, .val (.long l3), .second, .val (.long l4), .second, .unset, .unset, .unset, .unset, .unset, .unset, .unset, .unset, .unset, .unset] [(.long l4)])) rfl (by rw [hml]; rfl) (argsL := [(.long l4)]) (rest := []) (lenOf own_pd1 rfl) rfl rfl (by show 2 * 0 + _ ≤ _; exact Nat.le_of_eq rfl) (hb hby at_63) e4 (by decide) (by decide)
  obtain ⟨rfl, rfl, eh5⟩ := hQ5
  have e5 := e5.trans eh5
  rw [List.append_nil] at X5
  refine own_go (U' := T5.setTop (mkF m 66 #[.val (.long q1), .second, .val (.int p1), .val (.long fs), .second, .val (.long d), .second, .val (.long l1), .second, .val (.long l2), .second, .val (.long l3), .second, .val (.long l4), .second, .unset, .unset, .unset, .unset, .unset, .unset, .unset, .unset, .unset, .unset] [(.long (own_up l4))])) st5 ?_
  generalize hv_l5 : (own_up l4) = l5
  refine own_go (U' := T5.setTop (mkF m 68 #[.val (.long q1), .second, .val (.int p1), .val (.long fs), .second, .val (.long d), .second, .val (.long l1), .second, .val (.long l2), .second, .val (.long l3), .second, .val (.long l4), .second, .val (.long l5), .second, .unset, .unset, .unset, .unset, .unset, .unset, .unset, .unset] [])) (fun t k => XS.lstore X5.here hx rfl (hb hby at_66) rfl (l' := #[.val (.long q1), .second, .val (.int p1), .val (.long fs), .second, .val (.long d), .second, .val (.long l1), .second, .val (.long l2), .second, .val (.long l3), .second, .val (.long l4), .second, .val (.long l5), .second, .unset, .unset, .unset, .unset, .unset, .unset, .unset, .unset]) rfl k) ?_
  refine own_go (U' := T5.setTop (mkF m 70 #[.val (.long q1), .second, .val (.int p1), .val (.long fs), .second, .val (.long d), .second, .val (.long l1), .second, .val (.long l2), .second, .val (.long l3), .second, .val (.long l4), .second, .val (.long l5), .second, .unset, .unset, .unset, .unset, .unset, .unset, .unset, .unset] [(.long l5)])) (fun t k => XS.lload X5.here hx rfl (hb hby at_68) rfl k) ?_
  obtain ⟨v6, T6, h6, L6, e6, X6, hQ6, st6⟩ := own_callS X5 hx hZ (y := (⟨"com/example/verity/verity/FsVerityTreeTreeSizePinLaw", "up", "(J)J"⟩ : MethodName)) hown (hw _ (List.mem_of_getElem? (i := 2) rfl)) (hw _ (List.mem_of_getElem? (i := 3) rfl)) (hw _ (List.mem_of_getElem? (i := 4) rfl)) (hw _ (List.mem_of_getElem? (i := 5) rfl)) (by decide) (own_rmup l Z a0 hw l5 h0) (W := 0) (by decide) (by decide) (g := (mkF m 70 #[.val (.long q1), .second, .val (.int p1), .val (.long fs), .second, .val (.long d), .second, .val (.long l1), .second, .val (.long l2), .second, .val (.long l3), .second, .val (.long l4), .second, .val (.long l5), .second, .unset, .unset, .unset, .unset, .unset, .unset, .unset, .unset] [(.long l5)])) rfl (by rw [hml]; rfl) (argsL := [(.long l5)]) (rest := []) (lenOf own_pd1 rfl) rfl rfl (by show 2 * 0 + _ ≤ _; exact Nat.le_of_eq rfl) (hb hby at_70) e5 (by decide) (by decide)
  obtain ⟨rfl, rfl, eh6⟩ := hQ6
  have e6 := e6.trans eh6
  rw [List.append_nil] at X6
  refine own_go (U' := T6.setTop (mkF m 73 #[.val (.long q1), .second, .val (.int p1), .val (.long fs), .second, .val (.long d), .second, .val (.long l1), .second, .val (.long l2), .second, .val (.long l3), .second, .val (.long l4), .second, .val (.long l5), .second, .unset, .unset, .unset, .unset, .unset, .unset, .unset, .unset] [(.long (own_up l5))])) st6 ?_
  generalize hv_l6 : (own_up l5) = l6
  refine own_go (U' := T6.setTop (mkF m 75 #[.val (.long q1), .second, .val (.int p1), .val (.long fs), .second, .val (.long d), .second, .val (.long l1), .second, .val (.long l2), .second, .val (.long l3), .second, .val (.long l4), .second, .val (.long l5), .second, .val (.long l6), .second, .unset, .unset, .unset, .unset, .unset, .unset] [])) (fun t k => XS.lstore X6.here hx rfl (hb hby at_73) rfl (l' := #[.val (.long q1), .second, .val (.int p1), .val (.long fs), .second, .val (.long d), .second, .val (.long l1), .second, .val (.long l2), .second, .val (.long l3), .second, .val (.long l4), .second, .val (.long l5), .second, .val (.long l6), .second, .unset, .unset, .unset, .unset, .unset, .unset]) rfl k) ?_
  refine own_go (U' := T6.setTop (mkF m 77 #[.val (.long q1), .second, .val (.int p1), .val (.long fs), .second, .val (.long d), .second, .val (.long l1), .second, .val (.long l2), .second, .val (.long l3), .second, .val (.long l4), .second, .val (.long l5), .second, .val (.long l6), .second, .unset, .unset, .unset, .unset, .unset, .unset] [(.long l6)])) (fun t k => XS.lload X6.here hx rfl (hb hby at_75) rfl k) ?_
  obtain ⟨v7, T7, h7, L7, e7, X7, hQ7, st7⟩ := own_callS X6 hx hZ (y := (⟨"com/example/verity/verity/FsVerityTreeTreeSizePinLaw", "up", "(J)J"⟩ : MethodName)) hown (hw _ (List.mem_of_getElem? (i := 2) rfl)) (hw _ (List.mem_of_getElem? (i := 3) rfl)) (hw _ (List.mem_of_getElem? (i := 4) rfl)) (hw _ (List.mem_of_getElem? (i := 5) rfl)) (by decide) (own_rmup l Z a0 hw l6 h0) (W := 0) (by decide) (by decide) (g := (mkF m 77 #[.val (.long q1), .second, .val (.int p1), .val (.long fs), .second, .val (.long d), .second, .val (.long l1), .second, .val (.long l2), .second, .val (.long l3), .second, .val (.long l4), .second, .val (.long l5), .second, .val (.long l6), .second, .unset, .unset, .unset, .unset, .unset, .unset] [(.long l6)])) rfl (by rw [hml]; rfl) (argsL := [(.long l6)]) (rest := []) (lenOf own_pd1 rfl) rfl rfl (by show 2 * 0 + _ ≤ _; exact Nat.le_of_eq rfl) (hb hby at_77) e6 (by decide) (by decide)
  obtain ⟨rfl, rfl, eh7⟩ := hQ7
  have e7 := e7.trans eh7
  rw [List.append_nil] at X7
  refine own_go (U' := T7.setTop (mkF m 80 #[.val (.long q1), .second, .val (.int p1), .val (.long fs), .second, .val (.long d), .second, .val (.long l1), .second, .val (.long l2), .second, .val (.long l3), .second, .val (.long l4), .second, .val (.long l5), .second, .val (.long l6), .second, .unset, .unset, .unset, .unset, .unset, .unset] [(.long (own_up l6))])) st7 ?_
  generalize hv_l7 : (own_up l6) = l7
  refine own_go (U' := T7.setTop (mkF m 82 #[.val (.long q1), .second, .val (.int p1), .val (.long fs), .second, .val (.long d), .second, .val (.long l1), .second, .val (.long l2), .second, .val (.long l3), .second, .val (.long l4), .second, .val (.long l5), .second, .val (.long l6), .second, .val (.long l7), .second, .unset, .unset, .unset, .unset] [])) (fun t k => XS.lstore X7.here hx rfl (hb hby at_80) rfl (l' := #[.val (.long q1), .second, .val (.int p1), .val (.long fs), .second, .val (.long d), .second, .val (.long l1), .second, .val (.long l2), .second, .val (.long l3), .second, .val (.long l4), .second, .val (.long l5), .second, .val (.long l6), .second, .val (.long l7), .second, .unset, .unset, .unset, .unset]) rfl k) ?_
  refine own_go (U' := T7.setTop (mkF m 84 #[.val (.long q1), .second, .val (.int p1), .val (.long fs), .second, .val (.long d), .second, .val (.long l1), .second, .val (.long l2), .second, .val (.long l3), .second, .val (.long l4), .second, .val (.long l5), .second, .val (.long l6), .second, .val (.long l7), .second, .unset, .unset, .unset, .unset] [(.long l7)])) (fun t k => XS.lload X7.here hx rfl (hb hby at_82) rfl k) ?_
  obtain ⟨v8, T8, h8, L8, e8, X8, hQ8, st8⟩ := own_callS X7 hx hZ (y := (⟨"com/example/verity/verity/FsVerityTreeTreeSizePinLaw", "up", "(J)J"⟩ : MethodName)) hown (hw _ (List.mem_of_getElem? (i := 2) rfl)) (hw _ (List.mem_of_getElem? (i := 3) rfl)) (hw _ (List.mem_of_getElem? (i := 4) rfl)) (hw _ (List.mem_of_getElem? (i := 5) rfl)) (by decide) (own_rmup l Z a0 hw l7 h0) (W := 0) (by decide) (by decide) (g := (mkF m 84 #[.val (.long q1), .second, .val (.int p1), .val (.long fs), .second, .val (.long d), .second, .val (.long l1), .second, .val (.long l2), .second, .val (.long l3), .second, .val (.long l4), .second, .val (.long l5), .second, .val (.long l6), .second, .val (.long l7), .second, .unset, .unset, .unset, .unset] [(.long l7)])) rfl (by rw [hml]; rfl) (argsL := [(.long l7)]) (rest := []) (lenOf own_pd1 rfl) rfl rfl (by show 2 * 0 + _ ≤ _; exact Nat.le_of_eq rfl) (hb hby at_84) e7 (by decide) (by decide)
  obtain ⟨rfl, rfl, eh8⟩ := hQ8
  have e8 := e8.trans eh8
  rw [List.append_nil] at X8
  refine own_go (U' := T8.setTop (mkF m 87 #[.val (.long q1), .second, .val (.int p1), .val (.long fs), .second, .val (.long d), .second, .val (.long l1), .second, .val (.long l2), .second, .val (.long l3), .second, .val (.long l4), .second, .val (.long l5), .second, .val (.long l6), .second, .val (.long l7), .second, .unset, .unset, .unset, .unset] [(.long (own_up l7))])) st8 ?_
  generalize hv_l8 : (own_up l7) = l8
  refine own_go (U' := T8.setTop (mkF m 89 #[.val (.long q1), .second, .val (.int p1), .val (.long fs), .second, .val (.long d), .second, .val (.long l1), .second, .val (.long l2), .second, .val (.long l3), .second, .val (.long l4), .second, .val (.long l5), .second, .val (.long l6), .second, .val (.long l7), .second, .val (.long l8), .second, .unset, .unset] [])) (fun t k => XS.lstore X8.here hx rfl (hb hby at_87) rfl (l' := #[.val (.long q1), .second, .val (.int p1), .val (.long fs), .second, .val (.long d), .second, .val (.long l1), .second, .val (.long l2), .second, .val (.long l3), .second, .val (.long l4), .second, .val (.long l5), .second, .val (.long l6), .second, .val (.long l7), .second, .val (.long l8), .second, .unset, .unset]) rfl k) ?_
  refine own_go (U' := T8.setTop (mkF m 91 #[.val (.long q1), .second, .val (.int p1), .val (.long fs), .second, .val (.long d), .second, .val (.long l1), .second, .val (.long l2), .second, .val (.long l3), .second, .val (.long l4), .second, .val (.long l5), .second, .val (.long l6), .second, .val (.long l7), .second, .val (.long l8), .second, .unset, .unset] [(.long l1)])) (fun t k => XS.lload X8.here hx rfl (hb hby at_89) rfl k) ?_
  refine own_go (U' := T8.setTop (mkF m 93 #[.val (.long q1), .second, .val (.int p1), .val (.long fs), .second, .val (.long d), .second, .val (.long l1), .second, .val (.long l2), .second, .val (.long l3), .second, .val (.long l4), .second, .val (.long l5), .second, .val (.long l6), .second, .val (.long l7), .second, .val (.long l8), .second, .unset, .unset] [(.long l2), (.long l1)])) (fun t k => XS.lload X8.here hx rfl (hb hby at_91) rfl k) ?_
  refine own_go (U' := T8.setTop (mkF m 94 #[.val (.long q1), .second, .val (.int p1), .val (.long fs), .second, .val (.long d), .second, .val (.long l1), .second, .val (.long l2), .second, .val (.long l3), .second, .val (.long l4), .second, .val (.long l5), .second, .val (.long l6), .second, .val (.long l7), .second, .val (.long l8), .second, .unset, .unset] [(.long (l1 + l2))])) (fun t k => XS.ladd X8.here hx rfl (hb hby at_93) rfl k) ?_
  refine own_go (U' := T8.setTop (mkF m 96 #[.val (.long q1), .second, .val (.int p1), .val (.long fs), .second, .val (.long d), .second, .val (.long l1), .second, .val (.long l2), .second, .val (.long l3), .second, .val (.long l4), .second, .val (.long l5), .second, .val (.long l6), .second, .val (.long l7), .second, .val (.long l8), .second, .unset, .unset] [(.long l3), (.long (l1 + l2))])) (fun t k => XS.lload X8.here hx rfl (hb hby at_94) rfl k) ?_
  refine own_go (U' := T8.setTop (mkF m 97 #[.val (.long q1), .second, .val (.int p1), .val (.long fs), .second, .val (.long d), .second, .val (.long l1), .second, .val (.long l2), .second, .val (.long l3), .second, .val (.long l4), .second, .val (.long l5), .second, .val (.long l6), .second, .val (.long l7), .second, .val (.long l8), .second, .unset, .unset] [(.long ((l1 + l2) + l3))])) (fun t k => XS.ladd X8.here hx rfl (hb hby at_96) rfl k) ?_
  refine own_go (U' := T8.setTop (mkF m 99 #[.val (.long q1), .second, .val (.int p1), .val (.long fs), .second, .val (.long d), .second, .val (.long l1), .second, .val (.long l2), .second, .val (.long l3), .second, .val (.long l4), .second, .val (.long l5), .second, .val (.long l6), .second, .val (.long l7), .second, .val (.long l8), .second, .unset, .unset] [(.long l4), (.long ((l1 + l2) + l3))])) (fun t k => XS.lload X8.here hx rfl (hb hby at_97) rfl k) ?_
  refine own_go (U' := T8.setTop (mkF m 100 #[.val (.long q1), .second, .val (.int p1), .val (.long fs), .second, .val (.long d), .second, .val (.long l1), .second, .val (.long l2), .second, .val (.long l3), .second, .val (.long l4), .second, .val (.long l5), .second, .val (.long l6), .second, .val (.long l7), .second, .val (.long l8), .second, .unset, .unset] [(.long (((l1 + l2) + l3) + l4))])) (fun t k => XS.ladd X8.here hx rfl (hb hby at_99) rfl k) ?_
  refine own_go (U' := T8.setTop (mkF m 102 #[.val (.long q1), .second, .val (.int p1), .val (.long fs), .second, .val (.long d), .second, .val (.long l1), .second, .val (.long l2), .second, .val (.long l3), .second, .val (.long l4), .second, .val (.long l5), .second, .val (.long l6), .second, .val (.long l7), .second, .val (.long l8), .second, .unset, .unset] [(.long l5), (.long (((l1 + l2) + l3) + l4))])) (fun t k => XS.lload X8.here hx rfl (hb hby at_100) rfl k) ?_
  refine own_go (U' := T8.setTop (mkF m 103 #[.val (.long q1), .second, .val (.int p1), .val (.long fs), .second, .val (.long d), .second, .val (.long l1), .second, .val (.long l2), .second, .val (.long l3), .second, .val (.long l4), .second, .val (.long l5), .second, .val (.long l6), .second, .val (.long l7), .second, .val (.long l8), .second, .unset, .unset] [(.long ((((l1 + l2) + l3) + l4) + l5))])) (fun t k => XS.ladd X8.here hx rfl (hb hby at_102) rfl k) ?_
  refine own_go (U' := T8.setTop (mkF m 105 #[.val (.long q1), .second, .val (.int p1), .val (.long fs), .second, .val (.long d), .second, .val (.long l1), .second, .val (.long l2), .second, .val (.long l3), .second, .val (.long l4), .second, .val (.long l5), .second, .val (.long l6), .second, .val (.long l7), .second, .val (.long l8), .second, .unset, .unset] [(.long l6), (.long ((((l1 + l2) + l3) + l4) + l5))])) (fun t k => XS.lload X8.here hx rfl (hb hby at_103) rfl k) ?_
  refine own_go (U' := T8.setTop (mkF m 106 #[.val (.long q1), .second, .val (.int p1), .val (.long fs), .second, .val (.long d), .second, .val (.long l1), .second, .val (.long l2), .second, .val (.long l3), .second, .val (.long l4), .second, .val (.long l5), .second, .val (.long l6), .second, .val (.long l7), .second, .val (.long l8), .second, .unset, .unset] [(.long (((((l1 + l2) + l3) + l4) + l5) + l6))])) (fun t k => XS.ladd X8.here hx rfl (hb hby at_105) rfl k) ?_
  refine own_go (U' := T8.setTop (mkF m 108 #[.val (.long q1), .second, .val (.int p1), .val (.long fs), .second, .val (.long d), .second, .val (.long l1), .second, .val (.long l2), .second, .val (.long l3), .second, .val (.long l4), .second, .val (.long l5), .second, .val (.long l6), .second, .val (.long l7), .second, .val (.long l8), .second, .unset, .unset] [(.long l7), (.long (((((l1 + l2) + l3) + l4) + l5) + l6))])) (fun t k => XS.lload X8.here hx rfl (hb hby at_106) rfl k) ?_
  refine own_go (U' := T8.setTop (mkF m 109 #[.val (.long q1), .second, .val (.int p1), .val (.long fs), .second, .val (.long d), .second, .val (.long l1), .second, .val (.long l2), .second, .val (.long l3), .second, .val (.long l4), .second, .val (.long l5), .second, .val (.long l6), .second, .val (.long l7), .second, .val (.long l8), .second, .unset, .unset] [(.long ((((((l1 + l2) + l3) + l4) + l5) + l6) + l7))])) (fun t k => XS.ladd X8.here hx rfl (hb hby at_108) rfl k) ?_
  refine own_go (U' := T8.setTop (mkF m 111 #[.val (.long q1), .second, .val (.int p1), .val (.long fs), .second, .val (.long d), .second, .val (.long l1), .second, .val (.long l2), .second, .val (.long l3), .second, .val (.long l4), .second, .val (.long l5), .second, .val (.long l6), .second, .val (.long l7), .second, .val (.long l8), .second, .unset, .unset] [(.long l8), (.long ((((((l1 + l2) + l3) + l4) + l5) + l6) + l7))])) (fun t k => XS.lload X8.here hx rfl (hb hby at_109) rfl k) ?_
  refine own_go (U' := T8.setTop (mkF m 112 #[.val (.long q1), .second, .val (.int p1), .val (.long fs), .second, .val (.long d), .second, .val (.long l1), .second, .val (.long l2), .second, .val (.long l3), .second, .val (.long l4), .second, .val (.long l5), .second, .val (.long l6), .second, .val (.long l7), .second, .val (.long l8), .second, .unset, .unset] [(.long (((((((l1 + l2) + l3) + l4) + l5) + l6) + l7) + l8))])) (fun t k => XS.ladd X8.here hx rfl (hb hby at_111) rfl k) ?_
  refine own_go (U' := T8.setTop (mkF m 114 #[.val (.long q1), .second, .val (.int p1), .val (.long fs), .second, .val (.long d), .second, .val (.long l1), .second, .val (.long l2), .second, .val (.long l3), .second, .val (.long l4), .second, .val (.long l5), .second, .val (.long l6), .second, .val (.long l7), .second, .val (.long l8), .second, .unset, .unset] [(.int (12 : Int32)), (.long (((((((l1 + l2) + l3) + l4) + l5) + l6) + l7) + l8))])) (fun t k => XS.bipush X8.here hx rfl (hb hby at_112) k) ?_
  refine own_go (U' := T8.setTop (mkF m 115 #[.val (.long q1), .second, .val (.int p1), .val (.long fs), .second, .val (.long d), .second, .val (.long l1), .second, .val (.long l2), .second, .val (.long l3), .second, .val (.long l4), .second, .val (.long l5), .second, .val (.long l6), .second, .val (.long l7), .second, .val (.long l8), .second, .unset, .unset] [(.long ((((((((l1 + l2) + l3) + l4) + l5) + l6) + l7) + l8) <<< ((12 : Int32) &&& 0x3f).toInt64))])) (fun t k => XS.lshl X8.here hx rfl (hb hby at_114) rfl k) ?_
  refine own_go (U' := T8.setTop (mkF m 117 #[.val (.long q1), .second, .val (.int p1), .val (.long fs), .second, .val (.long d), .second, .val (.long l1), .second, .val (.long l2), .second, .val (.long l3), .second, .val (.long l4), .second, .val (.long l5), .second, .val (.long l6), .second, .val (.long l7), .second, .val (.long l8), .second, .val (.long ((((((((l1 + l2) + l3) + l4) + l5) + l6) + l7) + l8) <<< ((12 : Int32) &&& 0x3f).toInt64)), .second] [])) (fun t k => XS.lstore X8.here hx rfl (hb hby at_115) rfl (l' := #[.val (.long q1), .second, .val (.int p1), .val (.long fs), .second, .val (.long d), .second, .val (.long l1), .second, .val (.long l2), .second, .val (.long l3), .second, .val (.long l4), .second, .val (.long l5), .second, .val (.long l6), .second, .val (.long l7), .second, .val (.long l8), .second, .val (.long ((((((((l1 + l2) + l3) + l4) + l5) + l6) + l7) + l8) <<< ((12 : Int32) &&& 0x3f).toInt64)), .second]) rfl k) ?_
  refine own_go (U' := T8.setTop (mkF m 118 #[.val (.long q1), .second, .val (.int p1), .val (.long fs), .second, .val (.long d), .second, .val (.long l1), .second, .val (.long l2), .second, .val (.long l3), .second, .val (.long l4), .second, .val (.long l5), .second, .val (.long l6), .second, .val (.long l7), .second, .val (.long l8), .second, .val (.long ((((((((l1 + l2) + l3) + l4) + l5) + l6) + l7) + l8) <<< ((12 : Int32) &&& 0x3f).toInt64)), .second] [(.long fs)])) (fun t k => XS.lloadN X8.here hx rfl (hb hby at_117) rfl k) ?_
  obtain ⟨v9, T9, h9, L9, e9, X9, hQ9, st9⟩ := own_callS X8 hx hZ (y := (⟨"com/example/verity/verity/FsVerityTree", "treeSize", "(J)J"⟩ : MethodName)) hown (hw _ (List.mem_of_getElem? (i := 6) rfl)) (hw _ (List.mem_of_getElem? (i := 7) rfl)) (hw _ (List.mem_of_getElem? (i := 8) rfl)) (hw _ (List.mem_of_getElem? (i := 9) rfl)) (by decide) (own_rmts l Z a0 hw fs h0 n0 O hfs) (W := 0) (by decide) (by decide) (g := (mkF m 118 #[.val (.long q1), .second, .val (.int p1), .val (.long fs), .second, .val (.long d), .second, .val (.long l1), .second, .val (.long l2), .second, .val (.long l3), .second, .val (.long l4), .second, .val (.long l5), .second, .val (.long l6), .second, .val (.long l7), .second, .val (.long l8), .second, .val (.long ((((((((l1 + l2) + l3) + l4) + l5) + l6) + l7) + l8) <<< ((12 : Int32) &&& 0x3f).toInt64)), .second] [(.long fs)])) rfl (by rw [hml]; rfl) (argsL := [(.long fs)]) (rest := []) (lenOf own_pd1 rfl) rfl rfl (by show 2 * 0 + _ ≤ _; exact Nat.le_of_eq rfl) (hb hby at_118) e8 (by decide) (by decide)
  obtain ⟨rfl, Nq⟩ := hQ9
  have N9 := Fr.app N0 Nq
  refine own_go (U' := T9.setTop (mkF m 121 #[.val (.long q1), .second, .val (.int p1), .val (.long fs), .second, .val (.long d), .second, .val (.long l1), .second, .val (.long l2), .second, .val (.long l3), .second, .val (.long l4), .second, .val (.long l5), .second, .val (.long l6), .second, .val (.long l7), .second, .val (.long l8), .second, .val (.long ((((((((l1 + l2) + l3) + l4) + l5) + l6) + l7) + l8) <<< ((12 : Int32) &&& 0x3f).toInt64)), .second] [(.long (own_acc 0 (own_lv 8 (own_cd fs 4096))))])) st9 ?_
  refine own_go (U' := T9.setTop (mkF m 123 #[.val (.long q1), .second, .val (.int p1), .val (.long fs), .second, .val (.long d), .second, .val (.long l1), .second, .val (.long l2), .second, .val (.long l3), .second, .val (.long l4), .second, .val (.long l5), .second, .val (.long l6), .second, .val (.long l7), .second, .val (.long l8), .second, .val (.long ((((((((l1 + l2) + l3) + l4) + l5) + l6) + l7) + l8) <<< ((12 : Int32) &&& 0x3f).toInt64)), .second] [(.long ((((((((l1 + l2) + l3) + l4) + l5) + l6) + l7) + l8) <<< ((12 : Int32) &&& 0x3f).toInt64)), (.long (own_acc 0 (own_lv 8 (own_cd fs 4096))))])) (fun t k => XS.lload X9.here hx rfl (hb hby at_121) rfl k) ?_
  refine own_go (U' := T9.setTop (mkF m 124 #[.val (.long q1), .second, .val (.int p1), .val (.long fs), .second, .val (.long d), .second, .val (.long l1), .second, .val (.long l2), .second, .val (.long l3), .second, .val (.long l4), .second, .val (.long l5), .second, .val (.long l6), .second, .val (.long l7), .second, .val (.long l8), .second, .val (.long ((((((((l1 + l2) + l3) + l4) + l5) + l6) + l7) + l8) <<< ((12 : Int32) &&& 0x3f).toInt64)), .second] [(.int (lcmpW (own_acc 0 (own_lv 8 (own_cd fs 4096))) ((((((((l1 + l2) + l3) + l4) + l5) + l6) + l7) + l8) <<< ((12 : Int32) &&& 0x3f).toInt64)))])) (fun t k => XS.lcmp X9.here hx rfl (hb hby at_123) rfl k) ?_
  refine own_go (U' := T9.setTop (mkF m 127 #[.val (.long q1), .second, .val (.int p1), .val (.long fs), .second, .val (.long d), .second, .val (.long l1), .second, .val (.long l2), .second, .val (.long l3), .second, .val (.long l4), .second, .val (.long l5), .second, .val (.long l6), .second, .val (.long l7), .second, .val (.long l8), .second, .val (.long ((((((((l1 + l2) + l3) + l4) + l5) + l6) + l7) + l8) <<< ((12 : Int32) &&& 0x3f).toInt64)), .second] [])) (fun t k => XS.ifNo X9.here hx rfl (hb hby at_124) rfl ((if0 _ _).trans (teq ((lw_eq (own_acc 0 (own_lv 8 (own_cd fs 4096))) ((((((((l1 + l2) + l3) + l4) + l5) + l6) + l7) + l8) <<< ((12 : Int32) &&& 0x3f).toInt64)).mpr (own_plain fs hfs d l1 l2 l3 l4 l5 l6 l7 l8 (hv_d.symm.trans (own_d fs hfs)) hv_l1.symm hv_l2.symm hv_l3.symm hv_l4.symm hv_l5.symm hv_l6.symm hv_l7.symm hv_l8.symm))).2) k) ?_
  refine own_go (U' := T9.setTop (mkF m 128 #[.val (.long q1), .second, .val (.int p1), .val (.long fs), .second, .val (.long d), .second, .val (.long l1), .second, .val (.long l2), .second, .val (.long l3), .second, .val (.long l4), .second, .val (.long l5), .second, .val (.long l6), .second, .val (.long l7), .second, .val (.long l8), .second, .val (.long ((((((((l1 + l2) + l3) + l4) + l5) + l6) + l7) + l8) <<< ((12 : Int32) &&& 0x3f).toInt64)), .second] [(.int (1 : Int32))])) (fun t k => XS.iconst X9.here hx rfl (hb hby at_127) k) ?_
  refine own_go (U' := T9.setTop (mkF m 132 #[.val (.long q1), .second, .val (.int p1), .val (.long fs), .second, .val (.long d), .second, .val (.long l1), .second, .val (.long l2), .second, .val (.long l3), .second, .val (.long l4), .second, .val (.long l5), .second, .val (.long l6), .second, .val (.long l7), .second, .val (.long l8), .second, .val (.long ((((((((l1 + l2) + l3) + l4) + l5) + l6) + l7) + l8) <<< ((12 : Int32) &&& 0x3f).toInt64)), .second] [(.int (1 : Int32))])) (fun t k => XS.goto X9.here hx rfl (pc0 := 128) (pc' := 132) rfl (hb hby at_128) (by decide) (by decide) k) ?_
  refine own_retN X9 hx (t := .boolean) hret (by simp) hlk (hb hby at_132) ?_ (by decide) (by decide)
  exact ⟨rfl, N9⟩
set_option maxRecDepth 65536 in
set_option maxHeartbeats 40000000 in
theorem comes_1 {Post : Tables → Env → Array Value → State → Outcome → State → Prop} (hpost : ∀ tb e args s v u, (limb_1_1.after args s (.returned v) u = true ∧ limb_1_2.after args s (.returned v) u = true) → FrameEnd s (.returned v) u (Jvm.fieldLocs frame_1_writes args s ++ Jvm.arrayLocs frame_1_arrays args s ++ Jvm.staticLocs frame_1_statics s) 16 128 → Post tb e args s (.returned v) u) :
    ArmFor flags0 classFile x code maxLocals ret World_1 tables_1 room_1 Calls_1 rest_1 Pre_1 Post := by
  intro l hfl _ _ p e ha hc hk s m args below hf hA hF happ hP
  obtain ⟨hcalls, hrest, hpre⟩ := hP
  obtain ⟨-, -, -, hnamed, -, -, -, hat⟩ := (Spec.applies_iff hf).mp happ
  obtain ⟨hg, hn⟩ := and_e (Cond.before_iff.mp (show (Jvm.Cond.and given_1 narrow_1).before args s = true from hpre))
  obtain ⟨hcount, r0⟩ := and_e hg
  obtain ⟨g0, g1⟩ := and_e r0
  obtain ⟨w0, w1, rfl⟩ : ∃ w0 w1 : Value, args = #[w0, w1] := by
    have hs : args.size = 2 := by simpa [Cond.value, given_1] using hcount
    obtain ⟨L⟩ := args
    match L, hs with
    | [w0, w1], _ => exact ⟨w0, w1, rfl⟩
  have hw := fun d (hd : d ∈ tables_1) => atoms_spec (ws := Jvm.Cond.code x code maxLocals ret :: tables_1) hat d (List.mem_cons_of_mem _ hd)
  have hfit : Fit s := fun {y c} hc i hi => by
    obtain ⟨ha, rfl⟩ := Array.getElem?_eq_some_iff.mp hc
    have q := List.all_eq_true.mp ((Array.all_eq_true_iff_forall_mem.mp hF) _ (Array.getElem_mem ha)) i (List.mem_range.mpr hi)
    simpa [Array.getElem?_eq_getElem hi] using q
  obtain ⟨i0, ei0⟩ := isL_v g0
  obtain rfl : w0 = (.long i0) := Option.some.inj ei0
  obtain ⟨i1, ei1⟩ := is_v g1
  obtain rfl : w1 = (.int i1) := Option.some.inj ei1
  obtain ⟨n, o, h1, h2, h3, _, L, rfl, ⟨rfl, N⟩, hq⟩ := own_rm0 l s _ hw tables_1 i0 i1 s.heap s.heap.size (Old.start s) p e ha hc hk s m _ below hf ((Spec.applies_iff_loose hf).mp happ).1 ⟨rfl, State.Warmed39.refl s, rfl⟩ trivial
  refine ⟨n, _, h1, h2, h3, hpost _ _ _ _ _ _ ⟨Cond.after_iff.mpr rfl, Cond.after_iff.mpr (eq_i res_at (Term.int_eval (1)) rfl)⟩ ⟨hq.1, hq.2.1, (hq.2.2.sift fun y hy => Or.inr (N y hy)).mono (by decide) (by decide)⟩⟩
theorem main_1_1 : Claimed_1_1 := comes_1 fun _ _ _ _ _ _ h hF => ⟨h.1, hF⟩
theorem main_1_2 : Claimed_1_2 := comes_1 fun _ _ _ _ _ _ h hF => ⟨h.2, hF⟩
end Jvm.Pilot.@@N@@
namespace Jvm.Pilot.@@N@@
open Jvm Jvm.ClassFile Sem Op Lib Jvm.Free Jvm.Stand Jvm.Pilot.@@N@@.Jvm.D
/-! MADE BY PROGRAM (witnessworld.py) out of the Statement's table words and the real class files: 11 classes; the members and pool entries that the words name. The judged class is class 1, her method 2. -/
namespace start1
open Jvm.ClassFile
def u (s : String) : CpInfo := .utf8 (stringToUtf16 s)
/-- a pool by its gaps: so many unusable entries, then the entry; so many at the end -/
def gap : Nat → List CpInfo → List CpInfo
  | 0, r => r
  | n + 1, r => .unusable :: gap n r
def poolList (es : List (Nat × CpInfo)) (last : Nat) : List CpInfo := es.foldr (fun e r => gap e.1 (e.2 :: r)) (gap last [])
def pool (es : List (Nat × CpInfo)) (last : Nat) : Array CpInfo := ⟨poolList es last⟩
def fileOf (pool : Array CpInfo) (this : Nat) (attrs : Array Attribute := #[]) (ms : Array MethodInfo := #[]) (fl : Nat := 33) (sup : Nat := 0) (ifs : Array Nat := #[]) (fds : Array FieldInfo := #[]) : ClassFile where
  minorVersion := 0
  majorVersion := 65
  constantPool := pool
  accessFlags := fl
  thisClass := this
  superClass := sup
  interfaces := ifs
  fields := fds
  methods := ms
  attributes := attrs
def plain (name : String) (sup : Option ClassId) : Class where
  name := name
  kind := .ordinary
  loader := none
  accessFlags := 33
  super := sup
  interfaces := #[]
  cf := none
  fields := #[]
  methods := #[]
  instanceTypes := #[]
  staticTypes := #[]
  resolved := #[]
  callSites := []
  init := .initialized
  statics := none
  mirror := none

def pool0 : Array CpInfo := pool [(5, u "<init>"), (0, u "()V"), (1, .class_ 10), (1, u "java/lang/Object")] 113

def k0m0 : Method := { name := "<init>", desc := "()V", sig := { parameters := [], returnType := none }, accessFlags := 1, code := none }
/-- java/lang/Object -/
def k0 : Class := { plain "java/lang/Object" none with
  accessFlags := 33
  interfaces := #[]
  cf := some (fileOf pool0 8 #[] #[{ accessFlags := 1, nameIndex := 5, descriptorIndex := 6, attributes := #[] }] 33 0 #[] #[])
  fields := #[]
  methods := #[k0m0]
  instanceTypes := #[]
  staticTypes := #[]
  resolved := Array.replicate 124 none
  statics := none }

def pool1 : Array CpInfo := pool [(2, .class_ 4), (1, u "java/lang/Object"), (0, u "<init>"), (0, u "()V"), (0, .long 127), (3, .long 9223372036854775807), (1, .long 4095), (1, .methodref 16 17), (0, .class_ 18), (0, .nameAndType 19 20), (0, u "com/example/verity/verity/FsVerityTreeTreeSizePinLaw"), (0, u "up"), (0, u "(J)J"), (0, .methodref 22 23), (0, .class_ 24), (0, .nameAndType 25 20), (0, u "com/example/verity/verity/FsVerityTree"), (0, u "treeSize"), (3, u "law"), (0, u "(JI)Z")] 2

def k1m0 : Method := { name := "<init>", desc := "()V", sig := { parameters := [], returnType := none }, accessFlags := 1, code := none }
def k1c1 : Code := { maxStack := 4, maxLocals := 2, code := method_2_code, exceptionTable := #[], attributes := #[] }
def k1m1 : Method := { name := "up", desc := "(J)J", sig := { parameters := [.long], returnType := some .long }, accessFlags := 10, code := some k1c1 }
def k1c2 : Code := { maxStack := 6, maxLocals := 25, code := code, exceptionTable := #[], attributes := #[] }
def k1m2 : Method := { name := "law", desc := "(JI)Z", sig := { parameters := [.long, .int], returnType := some .boolean }, accessFlags := 9, code := some k1c2 }
/-- com/example/verity/verity/FsVerityTreeTreeSizePinLaw -/
def k1 : Class := { plain "com/example/verity/verity/FsVerityTreeTreeSizePinLaw" (some 0) with
  accessFlags := 49
  interfaces := #[]
  cf := some (fileOf pool1 16 #[] #[{ accessFlags := 1, nameIndex := 5, descriptorIndex := 6, attributes := #[] }, { accessFlags := 10, nameIndex := 19, descriptorIndex := 20, attributes := #[] }, { accessFlags := 9, nameIndex := 29, descriptorIndex := 30, attributes := #[] }] 49 2 #[] #[])
  fields := #[]
  methods := #[k1m0, k1m1, k1m2]
  instanceTypes := #[]
  staticTypes := #[]
  resolved := Array.replicate 33 none
  statics := none }

def pool2 : Array CpInfo := pool [(1, .class_ 2), (0, u "com/example/verity/verity/FsVerityTree"), (1, .class_ 6), (1, u "java/lang/Object"), (0, u "<init>"), (0, u "()V"), (61, .class_ 71), (0, u "com/example/verity/verity/FsVerityTree$BlockHasher"), (8, .long 4096), (1, .methodref 1 83), (0, .nameAndType 84 85), (0, u "ceilDiv"), (0, u "(JJ)J"), (0, .class_ 87), (0, u "com/example/verity/verity/FsVerityTree$Levels"), (14, .methodref 1 103), (0, .nameAndType 104 105), (0, u "levelBlocks"), (0, u "(J)[J"), (52, .long 128), (3, u "ZEROS"), (0, u "[B"), (0, u "BLOCK_SIZE"), (0, u "I"), (2, u "HASH_SIZE"), (1, u "MAX_SALT_SIZE"), (0, u "HASHES_PER_BLOCK"), (1, u "SALT_PADDED_SIZE"), (1, u "READ_SIZE"), (8, u "treeSize"), (0, u "(J)J"), (8, .class_ 195), (0, u "com/example/verity/verity/FsVerityTree$BlockSink")] 35

def k2m0 : Method := { name := "<init>", desc := "()V", sig := { parameters := [], returnType := none }, accessFlags := 2, code := none }
def k2c1 : Code := { maxStack := 6, maxLocals := 9, code := prog_13_method_6_code, exceptionTable := #[], attributes := #[] }
def k2m1 : Method := { name := "treeSize", desc := "(J)J", sig := { parameters := [.long], returnType := some .long }, accessFlags := 9, code := some k2c1 }
def k2c2 : Code := { maxStack := 6, maxLocals := 7, code := prog_13_method_8_code, exceptionTable := #[], attributes := #[] }
def k2m2 : Method := { name := "levelBlocks", desc := "(J)[J", sig := { parameters := [.long], returnType := some (.array .long) }, accessFlags := 10, code := some k2c2 }
def k2c3 : Code := { maxStack := 4, maxLocals := 6, code := prog_13_method_9_code, exceptionTable := #[], attributes := #[] }
def k2m3 : Method := { name := "ceilDiv", desc := "(JJ)J", sig := { parameters := [.long, .long], returnType := some .long }, accessFlags := 10, code := some k2c3 }
/-- com/example/verity/verity/FsVerityTree -/
def k2 : Class := { plain "com/example/verity/verity/FsVerityTree" (some 0) with
  accessFlags := 49
  interfaces := #[]
  cf := some (fileOf pool2 1 #[.nestMembers #[70, 86, 194]] #[{ accessFlags := 2, nameIndex := 7, descriptorIndex := 8, attributes := #[] }, { accessFlags := 9, nameIndex := 184, descriptorIndex := 185, attributes := #[] }, { accessFlags := 10, nameIndex := 104, descriptorIndex := 105, attributes := #[] }, { accessFlags := 10, nameIndex := 84, descriptorIndex := 85, attributes := #[] }] 49 4 #[] #[{ accessFlags := 25, nameIndex := 164, descriptorIndex := 165, attributes := #[] }, { accessFlags := 25, nameIndex := 168, descriptorIndex := 165, attributes := #[] }, { accessFlags := 25, nameIndex := 170, descriptorIndex := 165, attributes := #[] }, { accessFlags := 26, nameIndex := 171, descriptorIndex := 165, attributes := #[] }, { accessFlags := 26, nameIndex := 173, descriptorIndex := 165, attributes := #[] }, { accessFlags := 26, nameIndex := 175, descriptorIndex := 165, attributes := #[] }, { accessFlags := 26, nameIndex := 162, descriptorIndex := 163, attributes := #[] }])
  fields := #[{ name := "BLOCK_SIZE", type := .int, accessFlags := 25, slot := 0, constantValue := 0 }, { name := "HASH_SIZE", type := .int, accessFlags := 25, slot := 1, constantValue := 0 }, { name := "MAX_SALT_SIZE", type := .int, accessFlags := 25, slot := 2, constantValue := 0 }, { name := "HASHES_PER_BLOCK", type := .int, accessFlags := 26, slot := 3, constantValue := 0 }, { name := "SALT_PADDED_SIZE", type := .int, accessFlags := 26, slot := 4, constantValue := 0 }, { name := "READ_SIZE", type := .int, accessFlags := 26, slot := 5, constantValue := 0 }, { name := "ZEROS", type := (.array .byte), accessFlags := 26, slot := 6, constantValue := 0 }]
  methods := #[k2m0, k2m1, k2m2, k2m3]
  instanceTypes := #[]
  staticTypes := #[.int, .int, .int, .int, .int, .int, (.array .byte)]
  resolved := Array.replicate 231 none
  statics := none }

def pool3 : Array CpInfo := pool [(1, u "java/lang/Cloneable"), (0, .class_ 1), (0, u "java/lang/Object"), (0, .class_ 3)] 3

/-- java/lang/Cloneable -/
def k3 : Class := { plain "java/lang/Cloneable" (some 0) with
  accessFlags := 1537
  interfaces := #[]
  cf := some (fileOf pool3 2 #[] #[] 1537 4 #[] #[])
  fields := #[]
  methods := #[]
  instanceTypes := #[]
  staticTypes := #[]
  resolved := Array.replicate 8 none
  statics := none }

def pool4 : Array CpInfo := pool [(1, u "java/io/Serializable"), (0, .class_ 1), (0, u "java/lang/Object"), (0, .class_ 3)] 3

/-- java/io/Serializable -/
def k4 : Class := { plain "java/io/Serializable" (some 0) with
  accessFlags := 1537
  interfaces := #[]
  cf := some (fileOf pool4 2 #[] #[] 1537 4 #[] #[])
  fields := #[]
  methods := #[]
  instanceTypes := #[]
  staticTypes := #[]
  resolved := Array.replicate 8 none
  statics := none }

/-- the primitive byte -/
def k5 : Class := { plain "byte" none with kind := .primitive 'B', accessFlags := 0x411 }
/-- [B -/
def k6 : Class := { plain "[B" (some 0) with kind := .array 5 .byte, interfaces := #[3, 4], accessFlags := 1041 }

/-- the primitive int -/
def k7 : Class := { plain "int" none with kind := .primitive 'I', accessFlags := 0x411 }
/-- [I -/
def k8 : Class := { plain "[I" (some 0) with kind := .array 7 .int, interfaces := #[3, 4], accessFlags := 1041 }

/-- the primitive long -/
def k9 : Class := { plain "long" none with kind := .primitive 'J', accessFlags := 0x411 }
/-- [J -/
def k10 : Class := { plain "[J" (some 0) with kind := .array 9 .long, interfaces := #[3, 4], accessFlags := 1041 }

def heap : Heap := #[]
def classes : Array Class := #[k0, k1, k2, k3, k4, k5, k6, k7, k8, k9, k10]
def interned : List (Array UInt16 × Addr) := []
def slotsUsed : Nat := 0
def theMethod : MethodId := ⟨1, 2⟩
def args0 : Array Value := #[.long 500000, .int 7]
def aboutOver (below : List Frame) : State where
  vm := { classes := classes, interned := interned.toArray }
  heap := heap
  slotsUsed := slotsUsed
  threads := #[{ frames := .invoking theMethod args0 :: below }]
def below0 : List Frame := [.native { method := ⟨0, 0⟩, args := #[] }]
def about1 : State := aboutOver below0
def p0 : Program := .bare "" "" ""
def e0 : Env := launch0.env 0 0 0
theorem w_frames : about1.frames = Frame.invoking theMethod args0 :: below0 := rfl
set_option maxRecDepth 65536 in
theorem w_args : argsFit about1.vm theMethod args0 = true := by decide +kernel
set_option maxRecDepth 65536 in
theorem w_heap : heapFits about1 = true := by decide +kernel
set_option maxRecDepth 65536 in
theorem w_runnable : about1.curStatus? = some .runnable := by decide +kernel
set_option maxRecDepth 65536 in
theorem w_alone : about1.alone = true := by decide +kernel
set_option maxRecDepth 65536 in
theorem w_named : about1.methodNamed? x = some theMethod := by decide +kernel
set_option maxRecDepth 65536 in
theorem w_hears : about1.hears theMethod below0 = true := by decide +kernel
set_option maxRecDepth 65536 in
theorem w_ripe : about1.ripe theMethod args0 below0 = true := by decide +kernel
theorem w_running : about1.status = .running := rfl
set_option maxRecDepth 65536 in
theorem w_room : about1.hasRoom e0.platform room_1 = true :=
  launch0.hasRoom_least _ room_1 (by decide +kernel) (by decide +kernel) (by decide +kernel) (by decide +kernel) (by decide +kernel) (by decide +kernel)
theorem allAtoms_all (ts : List Jvm.Cond) (a : Array Jvm.Value) (st : Jvm.State) : (allAtoms ts).before a st = ts.all (fun c => c.before a st) := by
  induction ts with
  | nil => rfl
  | cons c t ih =>
    show (Jvm.Cond.and c (allAtoms t)).before a st = _
    rw [Jvm.Cond.before_and, ih, List.all_cons]
def words1 : List Jvm.Cond := Jvm.Cond.code x code maxLocals ret :: tables_1
/-- a 'code' word, met by the world's own term for the bytes: nothing is compared byte by byte -/
theorem code_word {y : MethodName} {bytes : ByteArray} {mx : Nat} {rt : Option FieldType} {a : Array Value} {s : State} {m : MethodId} {meth : Method} {c : Code} (h1 : s.methodNamed? y = some m) (h2 : s.vm.method? m = some meth) (h3 : meth.code = some c) (h4 : c.code = bytes)
    (h5 : (c.maxLocals == mx && c.exceptionTable.isEmpty && decide (c.maxStack ≤ mostOperands) && decide (meth.sig.returnType = rt) && !meth.locks && decide (parseMethodDescriptor y.desc = some meth.sig)) = true) : (Jvm.Cond.code y bytes mx rt).before a s = true := by
  simp only [Bool.and_eq_true, beq_iff_eq, Bool.not_eq_true', decide_eq_true_eq] at h5
  obtain ⟨⟨⟨⟨⟨g1, g2⟩, g3⟩, g4⟩, g5⟩, g6⟩ := h5
  simp [Cond.before, Cond.holds, Cond.value, h1, h2, h3, h4, g1, g2, g3, g4, g5, g6]
def isCode : Jvm.Cond → Bool
  | .code _ _ _ _ => true
  | _ => false
theorem all_split {L : List Jvm.Cond} {P : Jvm.Cond → Bool} (h1 : L.all (fun c => isCode c || P c) = true) (h2 : ∀ c ∈ L.filter isCode, P c = true) : L.all P = true := by
  refine List.all_eq_true.mpr fun c hc => ?_
  have h := List.all_eq_true.mp h1 c hc
  rcases Bool.eq_false_or_eq_true (isCode c) with hi | hi
  · exact h2 c (List.mem_filter.mpr ⟨hc, hi⟩)
  · simpa [hi] using h
set_option maxRecDepth 65536 in
theorem w_c0 : (Jvm.Cond.code x code maxLocals ret).before args0 about1 = true := code_word (m := ⟨1, 2⟩) (meth := k1m2) (c := k1c2) (by decide +kernel) rfl rfl rfl (by decide +kernel)
set_option maxRecDepth 65536 in
theorem w_c1 : (Jvm.Cond.code ({ cls := "com/example/verity/verity/FsVerityTreeTreeSizePinLaw", name := "up", desc := "(J)J" } : Jvm.MethodName) method_2_code (2 : Nat) (Option.some Jvm.ClassFile.FieldType.long)).before args0 about1 = true := code_word (m := ⟨1, 1⟩) (meth := k1m1) (c := k1c1) (by decide +kernel) rfl rfl rfl (by decide +kernel)
set_option maxRecDepth 65536 in
theorem w_c2 : (Jvm.Cond.code ({ cls := "com/example/verity/verity/FsVerityTree", name := "treeSize", desc := "(J)J" } : Jvm.MethodName) prog_13_method_6_code (9 : Nat) (Option.some Jvm.ClassFile.FieldType.long)).before args0 about1 = true := code_word (m := ⟨2, 1⟩) (meth := k2m1) (c := k2c1) (by decide +kernel) rfl rfl rfl (by decide +kernel)
set_option maxRecDepth 65536 in
theorem w_c3 : (Jvm.Cond.code ({ cls := "com/example/verity/verity/FsVerityTree", name := "ceilDiv", desc := "(JJ)J" } : Jvm.MethodName) prog_13_method_9_code (6 : Nat) (Option.some Jvm.ClassFile.FieldType.long)).before args0 about1 = true := code_word (m := ⟨2, 3⟩) (meth := k2m3) (c := k2c3) (by decide +kernel) rfl rfl rfl (by decide +kernel)
set_option maxRecDepth 65536 in
theorem w_c4 : (Jvm.Cond.code ({ cls := "com/example/verity/verity/FsVerityTree", name := "levelBlocks", desc := "(J)[J" } : Jvm.MethodName) prog_13_method_8_code (7 : Nat) (Option.some (Jvm.ClassFile.FieldType.array Jvm.ClassFile.FieldType.long))).before args0 about1 = true := code_word (m := ⟨2, 2⟩) (meth := k2m2) (c := k2c2) (by decide +kernel) rfl rfl rfl (by decide +kernel)
def codes1 : List Jvm.Cond := [Jvm.Cond.code x code maxLocals ret, Jvm.Cond.code ({ cls := "com/example/verity/verity/FsVerityTreeTreeSizePinLaw", name := "up", desc := "(J)J" } : Jvm.MethodName) method_2_code (2 : Nat) (Option.some Jvm.ClassFile.FieldType.long), Jvm.Cond.code ({ cls := "com/example/verity/verity/FsVerityTree", name := "treeSize", desc := "(J)J" } : Jvm.MethodName) prog_13_method_6_code (9 : Nat) (Option.some Jvm.ClassFile.FieldType.long), Jvm.Cond.code ({ cls := "com/example/verity/verity/FsVerityTree", name := "ceilDiv", desc := "(JJ)J" } : Jvm.MethodName) prog_13_method_9_code (6 : Nat) (Option.some Jvm.ClassFile.FieldType.long), Jvm.Cond.code ({ cls := "com/example/verity/verity/FsVerityTree", name := "levelBlocks", desc := "(J)[J" } : Jvm.MethodName) prog_13_method_8_code (7 : Nat) (Option.some (Jvm.ClassFile.FieldType.array Jvm.ClassFile.FieldType.long))]
set_option maxRecDepth 65536 in
theorem codes_eq : words1.filter isCode = codes1 := rfl
theorem w_codes : ∀ c ∈ words1.filter isCode, c.before args0 about1 = true := by
  rw [codes_eq]
  intro c hc
  simp only [codes1, List.mem_cons, List.not_mem_nil, or_false] at hc
  rcases hc with rfl | rfl | rfl | rfl | rfl
  · exact w_c0
  · exact w_c1
  · exact w_c2
  · exact w_c3
  · exact w_c4
set_option maxRecDepth 65536 in
theorem w_t1 : words1.all (fun c => isCode c || c.before args0 about1) = true := by decide +kernel
theorem w_tables : (allAtoms (Jvm.Cond.code x code maxLocals ret :: tables_1)).before args0 about1 = true := by
  rw [allAtoms_all]
  show words1.all (fun c => c.before args0 about1) = true
  refine all_split ?_ w_codes
  rw [w_t1]
set_option maxRecDepth 65536 in
theorem w_case : (Jvm.Cond.and given_1 narrow_1).before args0 about1 = true := by decide +kernel
theorem w_applies : (headSpec (Jvm.Cond.code x code maxLocals ret :: tables_1) room_1).applies x e0.platform about1 = true :=
  (Spec.applies_iff w_frames).mpr ⟨w_running, w_runnable, w_alone, w_named, w_hears, w_ripe, w_room, w_tables⟩
theorem atStart : AtStart classFile x code maxLocals ret World_1 tables_1 room_1 Calls_1 rest_1 Pre_1 launch0 p0 e0 about1 theMethod args0 below0 :=
  ⟨lists_1, trivial, launch0.admits_env _ _ _, launch0.least_env, fairChoices_fair.cas, fairChoices_fair.clock, w_frames, w_args, w_heap, w_applies, trivial, trivial, w_case⟩
end start1
theorem witness_1 : WitnessClaimed_1 := ⟨start1.p0, start1.e0, start1.about1, start1.theMethod, start1.args0, start1.below0, start1.atStart⟩
end Jvm.Pilot.@@N@@
