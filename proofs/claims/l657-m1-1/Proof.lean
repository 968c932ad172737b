import JvmDerived
import JvmDerived.Pilot.@@N@@Statement
import JvmDerived.Pilot.@@N@@Code
set_option linter.unusedVariables false
set_option linter.unusedSimpArgs false
namespace Jvm.Pilot.@@N@@
open Jvm Jvm.ClassFile Sem Op Lib Jvm.Free Jvm.Stand Jvm.LawKit Jvm.RoadKit Bundle Jvm.Pilot.@@N@@.Jvm.D
/-! own_: the walk's goal in one piece (from this state on the body returns, and what it leaves says Q), its steps, its ends, its calls -/
theorem own_succ (k : Nat) : Int32.ofNat (k + 1) = Int32.ofNat k + 1 := (Int32.ofNat_succ k).symm
section OwnKit
variable {p : Program} {l : Launch} {e : Env} {R : Room} {s : State} {m : MethodId} {args : Array Value} {below : List Frame} {meth : Method} {c : Code} {T : State} {locs : List Loc} {cells slots : Nat} {Z : State} {a0 : Array Value} {h : Heap}
def own_Fin (p : Program) (e : Env) (below : List Frame) (s : State) (Q : Option Value → Heap → List Loc → Prop) (k n : Nat) (U : State) : Prop :=
  ∃ (s₂ : State) (o : Outcome), Steps p.tables e below U s₂ ∧ s₂.status = .running ∧ Ended s₂ below o ∧ ∃ v L, o = .returned v ∧ Q v s₂.heap L ∧ FrameEnd s o s₂ L k n
variable {Q : Option Value → Heap → List Loc → Prop} {k n : Nat}
theorem own_go {U U' : State} (st : ∀ t, Steps p.tables e below U' t → Steps p.tables e below U t) (F : own_Fin p e below s Q k n U') : own_Fin p e below s Q k n U := by
  obtain ⟨s2, o, h1, h2⟩ := F
  exact ⟨s2, o, st _ h1, h2⟩
theorem own_ret (X : Stand p l e R s m args below meth c T locs cells slots) (hx : p.tables.exec = Jvm.exec) {t : FieldType} (hret : meth.sig.returnType = some t) (hlk : meth.locks = false) {pc : Nat} {Ls : Array Slot} {w : Value} {i : Instr} {rest : List Value} (hn : narrow t w = w)
    (hi : (i = .ireturn ∧ (t = .int ∨ t = .boolean ∨ t = .byte ∨ t = .char ∨ t = .short) ∧ ∃ z, w = .int z) ∨ (i = .lreturn ∧ t = .long ∧ ∃ z, w = .long z) ∨ (i = .dreturn ∧ t = .double ∧ ∃ z, w = .double z) ∨ (i = .freturn ∧ t = .float ∧ ∃ z, w = .float z) ∨ (i = .areturn ∧ t.isReference = true ∧ w.isRef = true))
    (hd : decode c.code pc = .ok (i, 1)) (hQ : Q (some w) T.heap locs) (hc : cells ≤ k) (hs : slots ≤ n) : own_Fin p e below s Q k n (T.setTop (mkF m pc Ls (w :: rest))) := by
  obtain ⟨fs, hr, hrun, hended, hW, hsame⟩ := X.leave (v := some w) (fun h => by rw [hret] at h; cases h) hlk
  exact ⟨_, _, retOut X hx hret hn hi hd hr, hrun, hended, _, _, rfl, hQ, ⟨_, rfl⟩, hW, hsame.mono hc hs⟩
theorem own_retI (X : Stand p l e R s m args below meth c T locs cells slots) (hx : p.tables.exec = Jvm.exec) (hret : meth.sig.returnType = some .int) (hlk : meth.locks = false) {pc : Nat} {Ls : Array Slot} {z : Int32} {rest : List Value}
    (hd : decode c.code pc = .ok (.ireturn, 1)) (hQ : Q (some (.int z)) T.heap locs) (hc : cells ≤ k) (hs : slots ≤ n) : own_Fin p e below s Q k n (T.setTop (mkF m pc Ls (.int z :: rest))) :=
  own_ret X hx hret hlk rfl (Or.inl ⟨rfl, Or.inl rfl, z, rfl⟩) hd hQ hc hs
theorem own_retN (X : Stand p l e R s m args below meth c T locs cells slots) (hx : p.tables.exec = Jvm.exec) {t : FieldType} (hret : meth.sig.returnType = some t) (ht : t = .boolean ∨ t = .byte ∨ t = .char ∨ t = .short) (hlk : meth.locks = false) {pc : Nat} {Ls : Array Slot} {z : Int32} {rest : List Value}
    (hd : decode c.code pc = .ok (.ireturn, 1)) (hQ : Q (some (.int (nar t z))) T.heap locs) (hc : cells ≤ k) (hs : slots ≤ n) : own_Fin p e below s Q k n (T.setTop (mkF m pc Ls (.int z :: rest))) := by
  obtain ⟨fs, hr, hrun, hended, hW, hsame⟩ := X.leave (v := some (.int (nar t z))) (fun h => by rw [hret] at h; cases h) hlk
  exact ⟨_, _, retN X hx hret ht hd hr, hrun, hended, _, _, rfl, hQ, ⟨_, rfl⟩, hW, hsame.mono hc hs⟩
theorem own_retL (X : Stand p l e R s m args below meth c T locs cells slots) (hx : p.tables.exec = Jvm.exec) (hret : meth.sig.returnType = some .long) (hlk : meth.locks = false) {pc : Nat} {Ls : Array Slot} {z : Int64} {rest : List Value}
    (hd : decode c.code pc = .ok (.lreturn, 1)) (hQ : Q (some (.long z)) T.heap locs) (hc : cells ≤ k) (hs : slots ≤ n) : own_Fin p e below s Q k n (T.setTop (mkF m pc Ls (.long z :: rest))) :=
  own_ret X hx hret hlk rfl (Or.inr (Or.inl ⟨rfl, rfl, z, rfl⟩)) hd hQ hc hs
theorem own_retA (X : Stand p l e R s m args below meth c T locs cells slots) (hx : p.tables.exec = Jvm.exec) {t : FieldType} (hret : meth.sig.returnType = some t) (ht : t.isReference = true) (hlk : meth.locks = false) {pc : Nat} {Ls : Array Slot} {w : Value} {rest : List Value} (hw : w.isRef = true)
    (hd : decode c.code pc = .ok (.areturn, 1)) (hQ : Q (some w) T.heap locs) (hc : cells ≤ k) (hs : slots ≤ n) : own_Fin p e below s Q k n (T.setTop (mkF m pc Ls (w :: rest))) :=
  own_ret X hx hret hlk (by rcases ref_cases hw with rfl | ⟨z, rfl⟩ <;> cases t <;> rfl) (Or.inr (Or.inr (Or.inr (Or.inr ⟨rfl, ht, hw⟩)))) hd hQ hc hs
theorem own_retV (X : Stand p l e R s m args below meth c T locs cells slots) (hx : p.tables.exec = Jvm.exec) (hret : meth.sig.returnType = none) (hlk : meth.locks = false) {pc : Nat} {Ls : Array Slot}
    (hd : decode c.code pc = .ok (.return_, 1)) (hQ : Q none T.heap locs) (hc : cells ≤ k) (hs : slots ≤ n) : own_Fin p e below s Q k n (T.setTop (mkF m pc Ls [])) := by
  obtain ⟨fs, hr, hrun, hended, hW, hsame⟩ := X.leave (v := none) (fun _ => rfl) hlk
  exact ⟨_, _, X.returnOut hx hret hd hr, hrun, hended, _, _, rfl, hQ, ⟨_, rfl⟩, hW, hsame.mono hc hs⟩
/-- a body's contract: called with these arguments at this heap it returns, and what it leaves says Q -/
abbrev own_C (l : Launch) (Z : State) (y : MethodName) (bytes : ByteArray) (maxL : Nat) (ret : Option FieldType) (ws : List Jvm.Cond) (rm : Room) (as' : Array Value) (h0 : Heap) (Q : Option Value → Heap → List Loc → Prop) : Prop :=
  MetFree l y (head1 (Jvm.Cond.code y bytes maxL ret :: ws) rm) (fun a U => a = as' ∧ Z.Warmed39 U.vm ∧ U.heap = h0) (fun _ _ _ _ _ => True) (fun _ U o U' => ∃ v L, o = .returned v ∧ Q v U'.heap L ∧ FrameEnd U o U' L rm.cells rm.slots)
theorem own_body {y : MethodName} {bytes : ByteArray} {maxL : Nat} {ret : Option FieldType} {ws : List Jvm.Cond} {rm : Room} {as' : Array Value} {h0 : Heap} (hpn : plainFor y = true)
    (body : ∀ (p : Program) (e : Env) (s : State) (m : MethodId) (below : List Frame) (meth : Method) (c : Code) (s₁ : State), p.tables.exec = Jvm.exec → c.code = bytes → c.maxLocals = maxL → meth.sig.returnType = ret → meth.locks = false → s.vm.findClass y.cls = some m.cls → meth.name = y.name → Z.Warmed39 s.vm →
      Stand p l e rm s m as' below meth c s₁ [] 0 0 → s₁.heap = h0 → own_Fin p e below s Q rm.cells rm.slots (s₁.setTop (entryFrame m as' maxL))) : own_C l Z y bytes maxL ret ws rm as' h0 Q := by
  refine MetFree.of_bodySF hpn hisR ?_
  intro p e s m args below meth c s₁ Bd hml0 hP hK
  obtain ⟨rfl, hZ, hh⟩ := hP
  exact body p e s m below meth c s₁ Bd.exec Bd.bytes hml0 Bd.returns Bd.notSynchronized (findClass_of_methodNamed Bd.named) (name_of_methodNamed Bd.named Bd.method).1 hZ (Stand.of_body Bd) (by rw [← hh, Bd.state]; rfl)
theorem own_callS (X : Stand p l e R s m args below meth c T locs cells slots) (hx : p.tables.exec = Jvm.exec) (hZ : Z.Warmed39 s.vm) {own : String} {index : Nat} {y : MethodName} {bytes : ByteArray} {maxL : Nat} {ret : Option FieldType} (hown : s.vm.findClass own = some m.cls)
    (w1 : (Cond.methodLink own index y).before a0 Z = true) (w2 : (Cond.static y).before a0 Z = true) (w3 : (Cond.initialized y.cls).before a0 Z = true) (w4 : (Cond.code y bytes maxL ret).before a0 Z = true) (hy : y.cls ≠ "java/lang/invoke/MethodHandle" ∧ y.cls ≠ "java/lang/invoke/VarHandle")
    {rm : Room} {argsL rest : List Value} {as' : Array Value} (hM : own_C l Z y bytes maxL ret [] rm as' h Q) {W : Nat} (hf : rm.frames + 1 ≤ R.frames) (hl : W + (maxL + 11) + rm.locals ≤ R.locals) {g : JFrame} (hg : g.method = m) (hsize : g.locals.size = c.maxLocals)
    (hlen : ∀ sig, parseMethodDescriptor y.desc = some sig → argsL.length = sig.parameters.length) (hstack : g.stack = argsL.reverse ++ rest) (has : argsL.toArray = as') (hW : 2 * g.monitorRoom + (rest.map fun v => v.category).sum ≤ W) (hdg : decode c.code g.pc = .ok (.invokestatic index, 3)) (eT : T.heap = h)
    (hc : cells + rm.cells ≤ R.cells) (hs : slots + rm.slots ≤ R.slots) :
    ∃ (v : Option Value) (T' : State) (h' : Heap) (L : List Loc), T'.heap = h' ∧ Stand p l e R s m args below meth c T' (locs ++ L) (cells + rm.cells) (slots + rm.slots) ∧ Q v h' L ∧ ∀ target, Steps p.tables e below (T'.setTop { g with pc := g.pc + 3, stack := v.toList ++ rest }) target → Steps p.tables e below (T.setTop g) target := by
  obtain ⟨v, vm, ⟨T', L', k', n'⟩, -, X', ⟨Lc, hQ, l1, y1, z1⟩, st⟩ := Jvm.LawKit.callS X hx (y := y) hown (mvT hZ w1) (mvT hZ w2) (mvT hZ w3) (mvT hZ w4) hy (backOf (W := W) hM hZ w4 w3 hf hl) hg hsize hlen hstack hW hdg (fun _ _ => ⟨has, eT, hc, hs⟩)
  dsimp only [Pt.U, Pt.locs, Pt.cells, Pt.slots] at X' l1 y1 z1 st hQ
  subst l1 y1 z1
  exact ⟨v, T', _, Lc, rfl, X', hQ, st⟩
theorem own_callC (X : Stand p l e R s m args below meth c T locs cells slots) (hx : p.tables.exec = Jvm.exec) (hZ : Z.Warmed39 s.vm) {own : String} {index : Nat} {y : MethodName} {bytes : ByteArray} {maxL : Nat} (hy1 : y.name = "<init>") (hown : s.vm.findClass own = some m.cls)
    (w1 : (Cond.methodLink own index y).before a0 Z = true) (w2 : (Cond.instanceMethod y).before a0 Z = true) (w3 : (Cond.initialized y.cls).before a0 Z = true) (w4 : (Cond.code y bytes maxL none).before a0 Z = true) (hy : y.cls ≠ "java/lang/invoke/MethodHandle" ∧ y.cls ≠ "java/lang/invoke/VarHandle")
    {rm : Room} {a : Addr} {argsL rest : List Value} {as' : Array Value} (hM : own_C l Z y bytes maxL none [] rm as' h Q) {W : Nat} (hf : rm.frames + 1 ≤ R.frames) (hl : W + (maxL + 11) + rm.locals ≤ R.locals) {g : JFrame} (hg : g.method = m) (hsize : g.locals.size = c.maxLocals)
    (hlen : ∀ sig, parseMethodDescriptor y.desc = some sig → argsL.length = sig.parameters.length) (hstack : g.stack = argsL.reverse ++ .ref a :: rest) (has : (.ref a :: argsL).toArray = as') (hW : 2 * g.monitorRoom + (rest.map fun v => v.category).sum ≤ W) (hdg : decode c.code g.pc = .ok (.invokespecial index, 3)) (eT : T.heap = h)
    (hc : cells + rm.cells ≤ R.cells) (hs : slots + rm.slots ≤ R.slots) :
    ∃ (v : Option Value) (T' : State) (h' : Heap) (L : List Loc), T'.heap = h' ∧ Stand p l e R s m args below meth c T' (locs ++ L) (cells + rm.cells) (slots + rm.slots) ∧ Q v h' L ∧ ∀ target, Steps p.tables e below (T'.setTop { g with pc := g.pc + 3, stack := v.toList ++ rest }) target → Steps p.tables e below (T.setTop g) target := by
  obtain ⟨v, vm, ⟨T', L', k', n'⟩, -, X', ⟨Lc, hQ, l1, y1, z1⟩, st⟩ := X.specialBack hx (y := y) hy1 hown (mvT hZ w1) (mvT hZ w2) (mvT hZ w4) hy (backOf (W := W) hM hZ w4 w3 hf hl) hg hsize (Steps.refl _) hlen hstack hW hdg (fun _ _ => ⟨has, eT, hc, hs⟩)
  dsimp only [Pt.U, Pt.locs, Pt.cells, Pt.slots] at X' l1 y1 z1 st hQ
  subst l1 y1 z1
  exact ⟨v, T', _, Lc, rfl, X', hQ, fun _ k => st.trans k⟩
theorem own_callV (X : Stand p l e R s m args below meth c T locs cells slots) (hx : p.tables.exec = Jvm.exec) (hZ : Z.Warmed39 s.vm) {own C : String} {index : Nat} {y z : MethodName} {bytes : ByteArray} {maxL : Nat} {ret : Option FieldType} (hown : s.vm.findClass own = some m.cls)
    (w1 : (Cond.methodLink own index y).before a0 Z = true) (w2 : (Cond.declares y).before a0 Z = true) (hnf : NotFace s y) (w5 : (Cond.selects C y z).before a0 Z = true) (w6 : (Cond.instanceMethod z).before a0 Z = true) (w3 : (Cond.initialized z.cls).before a0 Z = true) (w4 : (Cond.code z bytes maxL ret).before a0 Z = true) (hy : y.cls ≠ "java/lang/invoke/MethodHandle" ∧ y.cls ≠ "java/lang/invoke/VarHandle")
    {rm : Room} {a : Addr} (E : Exa Z h a C) {argsL rest : List Value} {as' : Array Value} (hM : own_C l Z z bytes maxL ret [] rm as' h Q) {W : Nat} (hf : rm.frames + 1 ≤ R.frames) (hl : W + (maxL + 11) + rm.locals ≤ R.locals) {g : JFrame} (hg : g.method = m) (hsize : g.locals.size = c.maxLocals)
    (hlen : ∀ sig, parseMethodDescriptor y.desc = some sig → argsL.length = sig.parameters.length) (hstack : g.stack = argsL.reverse ++ .ref a :: rest) (has : (.ref a :: argsL).toArray = as') (hW : 2 * g.monitorRoom + (rest.map fun v => v.category).sum ≤ W) (hdg : decode c.code g.pc = .ok (.invokevirtual index, 3)) (eT : T.heap = h)
    (hc : cells + rm.cells ≤ R.cells) (hs : slots + rm.slots ≤ R.slots) :
    ∃ (v : Option Value) (T' : State) (h' : Heap) (L : List Loc), T'.heap = h' ∧ Stand p l e R s m args below meth c T' (locs ++ L) (cells + rm.cells) (slots + rm.slots) ∧ Q v h' L ∧ ∀ target, Steps p.tables e below (T'.setTop { g with pc := g.pc + 3, stack := v.toList ++ rest }) target → Steps p.tables e below (T.setTop g) target := by
  obtain ⟨cq, kq, qa, qb, qc⟩ := isOf hZ eT E
  obtain ⟨v, vm, ⟨T', L', k', n'⟩, -, X', ⟨Lc, hQ, l1, y1, z1⟩, st⟩ := X.virtualBack hx (y := y) (z := z) hown (mvT hZ w1) (mvT hZ w2) hnf (mvT hZ w5) (mvT hZ w6) hy (backOf (W := W) hM hZ w4 w3 hf hl) qa qc hg hsize (Steps.refl _) hlen hstack hW hdg (fun _ _ => ⟨has, eT, hc, hs⟩)
  dsimp only [Pt.U, Pt.locs, Pt.cells, Pt.slots] at X' l1 y1 z1 st hQ
  subst l1 y1 z1
  exact ⟨v, T', _, Lc, rfl, X', hQ, fun _ k => st.trans k⟩
theorem own_callI (X : Stand p l e R s m args below meth c T locs cells slots) (hx : p.tables.exec = Jvm.exec) (hZ : Z.Warmed39 s.vm) {own C : String} {index count : Nat} {y z : MethodName} {bytes : ByteArray} {maxL : Nat} {ret : Option FieldType} (hown : s.vm.findClass own = some m.cls)
    (w1 : (Cond.methodLink own index y).before a0 Z = true) (w2 : (Cond.declares y).before a0 Z = true) (w7 : (Cond.interfaceMethod y.cls y.cls y.name y.desc).before args s = true) (w5 : (Cond.selects C y z).before a0 Z = true) (w6 : (Cond.instanceMethod z).before a0 Z = true) (w8 : (Cond.publicMethod z).before a0 Z = true)
    (w9 : (Cond.unhidden C y.name y.desc).before a0 Z = true) (w10 : (Cond.castable C y.cls).before a0 Z = true) (w3 : (Cond.initialized z.cls).before a0 Z = true) (w4 : (Cond.code z bytes maxL ret).before a0 Z = true) (hy : y.cls ≠ "java/lang/invoke/MethodHandle" ∧ y.cls ≠ "java/lang/invoke/VarHandle")
    {rm : Room} {a : Addr} (E : Exa Z h a C) {argsL rest : List Value} {as' : Array Value} (hM : own_C l Z z bytes maxL ret [] rm as' h Q) {W : Nat} (hf : rm.frames + 1 ≤ R.frames) (hl : W + (maxL + 11) + rm.locals ≤ R.locals) {g : JFrame} (hg : g.method = m) (hsize : g.locals.size = c.maxLocals)
    (hlen : ∀ sig, parseMethodDescriptor y.desc = some sig → argsL.length = sig.parameters.length) (hstack : g.stack = argsL.reverse ++ .ref a :: rest) (has : (.ref a :: argsL).toArray = as') (hW : 2 * g.monitorRoom + (rest.map fun v => v.category).sum ≤ W) (hdg : decode c.code g.pc = .ok (.invokeinterface index count, 5)) (eT : T.heap = h)
    (hc : cells + rm.cells ≤ R.cells) (hs : slots + rm.slots ≤ R.slots) :
    ∃ (v : Option Value) (T' : State) (h' : Heap) (L : List Loc), T'.heap = h' ∧ Stand p l e R s m args below meth c T' (locs ++ L) (cells + rm.cells) (slots + rm.slots) ∧ Q v h' L ∧ ∀ target, Steps p.tables e below (T'.setTop { g with pc := g.pc + 5, stack := v.toList ++ rest }) target → Steps p.tables e below (T.setTop g) target := by
  obtain ⟨cq, kq, qa, qb, qc⟩ := isOf hZ eT E
  obtain ⟨v, vm, ⟨T', L', k', n'⟩, -, X', ⟨Lc, hQ, l1, y1, z1⟩, st⟩ := X.interfaceBack hx (xi := y) (y := z) hown (mvT hZ w1) (mvT hZ w2) w7 (mvT hZ w5) (mvT hZ w6) (mvT hZ w8) (mvT hZ w9) (mvT hZ w10) hy (backOf (W := W) hM hZ w4 w3 hf hl) qa qb qc hg hsize (Steps.refl _) hlen hstack hW hdg (fun _ _ => ⟨has, eT, hc, hs⟩)
  dsimp only [Pt.U, Pt.locs, Pt.cells, Pt.slots] at X' l1 y1 z1 st hQ
  subst l1 y1 z1
  exact ⟨v, T', _, Lc, rfl, X', hQ, fun _ k => st.trans k⟩
theorem own_callP (X : Stand p l e R s m args below meth c T locs cells slots) (hx : p.tables.exec = Jvm.exec) (hZ : Z.Warmed39 s.vm) {own C : String} {index : Nat} {y : MethodName} {bytes : ByteArray} {maxL : Nat} {ret : Option FieldType} (hown : s.vm.findClass own = some m.cls)
    (w1 : (Cond.methodLink own index y).before a0 Z = true) (w6 : (Cond.instanceMethod y).before a0 Z = true) (w5 : (Cond.selects y.cls y y).before a0 Z = true) (w7 : (Cond.privateMethod y).before a0 Z = true) (w3 : (Cond.initialized y.cls).before a0 Z = true) (w4 : (Cond.code y bytes maxL ret).before a0 Z = true) (hy : y.cls ≠ "java/lang/invoke/MethodHandle" ∧ y.cls ≠ "java/lang/invoke/VarHandle")
    {rm : Room} {a : Addr} (E : Exa Z h a C) {argsL rest : List Value} {as' : Array Value} (hM : own_C l Z y bytes maxL ret [] rm as' h Q) {W : Nat} (hf : rm.frames + 1 ≤ R.frames) (hl : W + (maxL + 11) + rm.locals ≤ R.locals) {g : JFrame} (hg : g.method = m) (hsize : g.locals.size = c.maxLocals)
    (hlen : ∀ sig, parseMethodDescriptor y.desc = some sig → argsL.length = sig.parameters.length) (hstack : g.stack = argsL.reverse ++ .ref a :: rest) (has : (.ref a :: argsL).toArray = as') (hW : 2 * g.monitorRoom + (rest.map fun v => v.category).sum ≤ W) (hdg : decode c.code g.pc = .ok (.invokevirtual index, 3)) (eT : T.heap = h)
    (hc : cells + rm.cells ≤ R.cells) (hs : slots + rm.slots ≤ R.slots) :
    ∃ (v : Option Value) (T' : State) (h' : Heap) (L : List Loc), T'.heap = h' ∧ Stand p l e R s m args below meth c T' (locs ++ L) (cells + rm.cells) (slots + rm.slots) ∧ Q v h' L ∧ ∀ target, Steps p.tables e below (T'.setTop { g with pc := g.pc + 3, stack := v.toList ++ rest }) target → Steps p.tables e below (T.setTop g) target := by
  obtain ⟨cq, q, q'⟩ := E.cell
  obtain ⟨v, vm, ⟨T', L', k', n'⟩, -, X', ⟨Lc, hQ, l1, y1, z1⟩, st⟩ := X.privateBack hx (y := y) hown (mvT hZ w1) (mvT hZ w6) (mvT hZ w5) (Cond.privateMethod_at (mvP hZ w7 (args := #[]))) (mvT hZ w4) hy (backOf (W := W) hM hZ w4 w3 hf hl) hg hsize (Steps.refl _) (a := a) (by rw [eT]; exact q) q' hlen hstack hW hdg (fun _ _ => ⟨has, eT, hc, hs⟩)
  dsimp only [Pt.U, Pt.locs, Pt.cells, Pt.slots] at X' l1 y1 z1 st hQ
  subst l1 y1 z1
  exact ⟨v, T', _, Lc, rfl, X', hQ, fun _ k => st.trans k⟩
theorem own_lremM {g : JFrame} {target : State} (X : Stand p l e R s m args below meth c T locs cells slots) (hx : p.tables.exec = Jvm.exec) (hg : g.method = m) {x y : Int64} {rest : List Value} (hd : decode c.code g.pc = .ok (.lrem, 1)) (hs : g.stack = .long y :: .long x :: rest) (hy : y ≠ 0)
    (hr : Steps p.tables e below (T.setTop { g with pc := g.pc + 1, stack := .long (x % y) :: rest }) target) : Steps p.tables e below (T.setTop g) target :=
  XS.lrem X.here hx hg hd hs hy (by rw [lrem_mod]; exact hr)
theorem own_mono (X : Stand p l e R s m args below meth c T locs cells slots) {cells' slots' : Nat} (hc : cells ≤ cells') (hs : slots ≤ slots') : Stand p l e R s m args below meth c T locs cells' slots' :=
  ⟨X.admits, X.cas, X.clock, X.frames, X.room, X.hears, X.method, X.code, X.here, X.tail, X.warmed, X.limits, X.bytes, X.same.mono hc hs⟩
end OwnKit
theorem own_nar01 {x : Int32} (h : x = 0 ∨ x = 1) : nar .boolean x = x := by rcases h with rfl | rfl <;> rfl
theorem own_bit (c : Prop) [Decidable c] {x : Int32} (h : (if c then (0 : Int32) else (1 : Int32)) = x) : x = 0 ∨ x = 1 := by
  by_cases hc : c
  · rw [if_pos hc] at h; exact Or.inl h.symm
  · rw [if_neg hc] at h; exact Or.inr h.symm
def own_min (a b : Int32) : Int32 := if b < a then b else a
def own_deny (d1 d2 w1 w2 m : Int32) : Int32 := (if d1 = (0 : Int32) then (if d2 = (0 : Int32) then (0 : Int32) else (if w2 = m then (1 : Int32) else (0 : Int32))) else (if w1 = m then (1 : Int32) else (if d2 = (0 : Int32) then (0 : Int32) else (if w2 = m then (1 : Int32) else (0 : Int32)))))
theorem own_pA {d1 d2 w1 w2 : Int32} (h1 : d1 = 0 ∨ d1 = 1) (h : w1 < w2 ∨ (w1 = w2 ∧ ¬ d1 = 0)) : w1 = own_min w1 w2 ∧ d1 = own_deny d1 d2 w1 w2 (own_min w1 w2) := by
  have hm : own_min w1 w2 = w1 := by
    unfold own_min; rw [if_neg]; rcases h with h | ⟨rfl, -⟩
    · rw [Int32.lt_iff_toInt_lt] at *; omega
    · exact Int32.lt_irrefl
  refine ⟨hm.symm, ?_⟩
  rw [hm]; unfold own_deny
  rcases h1 with rfl | rfl
  · rcases h with h | ⟨-, h⟩
    · have : ¬ w2 = w1 := fun q => by subst q; exact Int32.lt_irrefl h
      simp [this]
    · exact absurd rfl h
  · simp
theorem own_pB {d1 d2 w1 w2 : Int32} (h1 : d1 = 0 ∨ d1 = 1) (h2 : d2 = 0 ∨ d2 = 1) (h : ¬ w1 < w2 ∧ (w1 = w2 → d1 = 0)) : w2 = own_min w1 w2 ∧ d2 = own_deny d1 d2 w1 w2 (own_min w1 w2) := by
  have hm : own_min w1 w2 = w2 := by
    unfold own_min; split
    · rfl
    · rename_i q; apply Int32.toInt_inj.mp; have h3 := h.1; rw [Int32.lt_iff_toInt_lt] at q h3; omega
  refine ⟨hm.symm, ?_⟩
  rw [hm]; unfold own_deny
  by_cases q : w1 = w2
  · have := h.2 q
    subst this; subst q
    rcases h2 with rfl | rfl <;> simp
  · rcases h1 with rfl | rfl <;> rcases h2 with rfl | rfl <;> simp [q]
theorem own_pd0 : parseMethodDescriptor "()V" = some ⟨[], none⟩ := by decide +kernel
theorem dac_0 : decode jdk_22_method_1_code 0 = .ok (.aload_n 0, 1) := by decide +kernel
theorem dac_1 : decode jdk_22_method_1_code 1 = .ok (.invokespecial 1, 3) := by decide +kernel
theorem dac_4 : decode jdk_22_method_1_code 4 = .ok (.return_, 1) := by decide +kernel
theorem own_pn0 : plainName "java/util/AbstractCollection" = true := by first | (simp [plainName, overriddenIn]; done) | decide +kernel
theorem own_efac (m : MethodId) (a : Addr) : entryFrame m #[(.ref a)] 1 = mkF m 0 #[.val (.ref a)] [] := by first | (simp [entryFrame, mkF, argsToLocals, Value.category]; done) | rfl
set_option maxRecDepth 65536 in
set_option maxHeartbeats 40000000 in
theorem own_rmac (l : Launch) (Z : State) (a0 : Array Value) (hw : ∀ d ∈ tables_1, d.before a0 Z = true) (a : Addr) (h0 : Heap)  :
    own_C l Z (⟨"java/util/AbstractCollection", "<init>", "()V"⟩ : MethodName) jdk_22_method_1_code 1 none [] ({ frames := 1, cells := 0, slots := 0, locals := 12 } : Room) #[(.ref a)] h0 (fun v h L => v = none ∧ L = [] ∧ h = h0) := by
  refine own_body (plainFor_of_name own_pn0) fun p e s m below meth c s₁ hx hby hml hret hlk hown hnm hZ X0 e0 => ?_
  rw [own_efac m a]
  refine own_go (U' := s₁.setTop (mkF m 1 #[.val (.ref a)] [(.ref a)])) (fun t k => XS.aloadN X0.here hx rfl (hb hby dac_0) rfl rfl k) ?_
  obtain ⟨T1, X1, e1, st1⟩ := initO X0 hx hZ hown (hw _ (List.mem_of_getElem? (i := 21) rfl)) (hw _ (List.mem_of_getElem? (i := 22) rfl)) (hw _ (List.mem_of_getElem? (i := 23) rfl)) e0 (g := (mkF m 1 #[.val (.ref a)] [(.ref a)])) rfl (by rw [hml]; rfl) rfl (hb hby dac_1) (by decide) (W := 0) (by show 2 * 0 + _ ≤ _; exact Nat.le_of_eq rfl) (by decide)
  refine own_go (U' := T1.setTop (mkF m 4 #[.val (.ref a)] [])) st1 ?_
  refine own_retV X1 hx hret hlk (hb hby dac_4) ?_ (by decide) (by decide)
  exact ⟨rfl, rfl, e1⟩
theorem dab_0 : decode jdk_39_method_1_code 0 = .ok (.aload_n 0, 1) := by decide +kernel
theorem dab_1 : decode jdk_39_method_1_code 1 = .ok (.invokespecial 1, 3) := by decide +kernel
theorem dab_4 : decode jdk_39_method_1_code 4 = .ok (.aload_n 0, 1) := by decide +kernel
theorem dab_5 : decode jdk_39_method_1_code 5 = .ok (.iconst 0, 1) := by decide +kernel
theorem dab_6 : decode jdk_39_method_1_code 6 = .ok (.putfield 7, 3) := by decide +kernel
theorem dab_9 : decode jdk_39_method_1_code 9 = .ok (.return_, 1) := by decide +kernel
theorem own_pn1 : plainName "java/util/AbstractList" = true := by first | (simp [plainName, overriddenIn]; done) | decide +kernel
theorem own_efab (m : MethodId) (a : Addr) : entryFrame m #[(.ref a)] 1 = mkF m 0 #[.val (.ref a)] [] := by first | (simp [entryFrame, mkF, argsToLocals, Value.category]; done) | rfl
set_option maxRecDepth 65536 in
set_option maxHeartbeats 40000000 in
theorem own_rmab (l : Launch) (Z : State) (a0 : Array Value) (hw : ∀ d ∈ tables_1, d.before a0 Z = true) (a : Addr) (h0 : Heap) (n0 : Nat) (g_a : n0 ≤ a) (u0 u1 : Value) (E_a : Exa Z h0 a "java/util/ArrayList") (F_modCount_a : Fld Z h0 a "java/util/AbstractList" "modCount" "I" u0) (F_elementData_a : Fld Z h0 a "java/util/ArrayList" "elementData" "[Ljava/lang/Object;" u1) :
    own_C l Z (⟨"java/util/AbstractList", "<init>", "()V"⟩ : MethodName) jdk_39_method_1_code 1 none [] ({ frames := 2, cells := 0, slots := 0, locals := 24 } : Room) #[(.ref a)] h0 (fun v h L => v = none ∧ Fr n0 L ∧ Keep h0 h [a] ∧ Fld Z h a "java/util/AbstractList" "modCount" "I" (.int 0) ∧ Fld Z h a "java/util/ArrayList" "elementData" "[Ljava/lang/Object;" u1) := by
  refine own_body (plainFor_of_name own_pn1) fun p e s m below meth c s₁ hx hby hml hret hlk hown hnm hZ X0 e0 => ?_
  rw [own_efab m a]
  have N0 := Fr.nil n0
  have K := Keep.refl h0 [a]
  refine own_go (U' := s₁.setTop (mkF m 1 #[.val (.ref a)] [(.ref a)])) (fun t k => XS.aloadN X0.here hx rfl (hb hby dab_0) rfl rfl k) ?_
  obtain ⟨v1, T1, h1, L1, e1, X1, hQ1, st1⟩ := own_callC X0 hx hZ (y := (⟨"java/util/AbstractCollection", "<init>", "()V"⟩ : MethodName)) rfl hown (hw _ (List.mem_of_getElem? (i := 15) rfl)) (hw _ (List.mem_of_getElem? (i := 16) rfl)) (hw _ (List.mem_of_getElem? (i := 19) rfl)) (hw _ (List.mem_of_getElem? (i := 20) rfl)) (by decide) (a := a) (own_rmac l Z a0 hw a h0) (W := 0) (by decide) (by decide) (g := (mkF m 1 #[.val (.ref a)] [(.ref a)])) rfl (by rw [hml]; rfl) (argsL := []) (rest := []) (lenOf own_pd0 rfl) rfl rfl (by show 2 * 0 + _ ≤ _; exact Nat.le_of_eq rfl) (hb hby dab_1) e0 (by decide) (by decide)
  obtain ⟨rfl, rfl, eh1⟩ := hQ1
  have e1 := e1.trans eh1
  rw [List.append_nil] at X1
  refine own_go (U' := T1.setTop (mkF m 4 #[.val (.ref a)] [])) st1 ?_
  refine own_go (U' := T1.setTop (mkF m 5 #[.val (.ref a)] [(.ref a)])) (fun t k => XS.aloadN X1.here hx rfl (hb hby dab_4) rfl rfl k) ?_
  refine own_go (U' := T1.setTop (mkF m 6 #[.val (.ref a)] [(.int (0 : Int32)), (.ref a)])) (fun t k => XS.iconst X1.here hx rfl (hb hby dab_5) k) ?_
  obtain ⟨T2, h2, X2, e2, W2, st2⟩ := putF X1 hx hZ hown (host := "") (Or.inl (hw _ (List.mem_of_getElem? (i := 24) rfl))) Via.refl e1 F_modCount_a E_a (Or.inl (hw _ (List.mem_of_getElem? (i := 25) rfl))) (hw _ (List.mem_of_getElem? (i := 4) rfl)) (ty := .int) (by decide) rfl rfl (g := (mkF m 6 #[.val (.ref a)] [(.int (0 : Int32)), (.ref a)])) rfl rfl (hb hby dab_6)
  have K := K.wr W2 (Or.inl (List.mem_of_getElem? (i := 0) rfl))
  have E_a := E_a.wr W2
  have F_elementData_a := F_elementData_a.other W2 (Or.inr (slot_ne (Or.inl (hw _ (List.mem_of_getElem? (i := 28) rfl))) (Or.inl (hw _ (List.mem_of_getElem? (i := 25) rfl))) (by decide) (t := (.array (.object "java/lang/Object"))) (t' := .int) (by decide) (by decide)))
  have F_modCount_a := F_modCount_a.same W2
  have N2 := Fr.snoc X2 N0 g_a
  refine own_go (U' := T2.setTop (mkF m 9 #[.val (.ref a)] [])) st2 ?_
  refine own_retV X2 hx hret hlk (hb hby dab_9) ?_ (by decide) (by decide)
  rw [e2]
  exact ⟨rfl, N2, K, F_modCount_a, F_elementData_a⟩
theorem dal_0 : decode jdk_38_method_2_code 0 = .ok (.aload_n 0, 1) := by decide +kernel
theorem dal_1 : decode jdk_38_method_2_code 1 = .ok (.invokespecial 1, 3) := by decide +kernel
theorem dal_4 : decode jdk_38_method_2_code 4 = .ok (.aload_n 0, 1) := by decide +kernel
theorem dal_5 : decode jdk_38_method_2_code 5 = .ok (.getstatic 39, 3) := by decide +kernel
theorem dal_8 : decode jdk_38_method_2_code 8 = .ok (.putfield 9, 3) := by decide +kernel
theorem dal_11 : decode jdk_38_method_2_code 11 = .ok (.return_, 1) := by decide +kernel
theorem own_pn2 : plainName "java/util/ArrayList" = true := by first | (simp [plainName, overriddenIn]; done) | decide +kernel
theorem own_efal (m : MethodId) (a : Addr) : entryFrame m #[(.ref a)] 1 = mkF m 0 #[.val (.ref a)] [] := by first | (simp [entryFrame, mkF, argsToLocals, Value.category]; done) | rfl
set_option maxRecDepth 65536 in
set_option maxHeartbeats 40000000 in
theorem own_rmal (l : Launch) (Z : State) (a0 : Array Value) (hw : ∀ d ∈ tables_1, d.before a0 Z = true) (a : Addr) (h0 : Heap) (n0 : Nat) (g_a : n0 ≤ a) (u0 u1 : Value) (dd : Addr) (O : Old Z n0 h0) (S_dd : Sta Z Z.heap "java/util/ArrayList" "DEFAULTCAPACITY_EMPTY_ELEMENTDATA" "[Ljava/lang/Object;" (.ref dd)) (E_a : Exa Z h0 a "java/util/ArrayList") (F_modCount_a : Fld Z h0 a "java/util/AbstractList" "modCount" "I" u0) (F_elementData_a : Fld Z h0 a "java/util/ArrayList" "elementData" "[Ljava/lang/Object;" u1) :
    own_C l Z (⟨"java/util/ArrayList", "<init>", "()V"⟩ : MethodName) jdk_38_method_2_code 1 none [] ({ frames := 3, cells := 0, slots := 0, locals := 36 } : Room) #[(.ref a)] h0 (fun v h L => v = none ∧ Fr n0 L ∧ Keep h0 h [a] ∧ Fld Z h a "java/util/AbstractList" "modCount" "I" (.int 0) ∧ Fld Z h a "java/util/ArrayList" "elementData" "[Ljava/lang/Object;" (.ref dd)) := by
  refine own_body (plainFor_of_name own_pn2) fun p e s m below meth c s₁ hx hby hml hret hlk hown hnm hZ X0 e0 => ?_
  rw [own_efal m a]
  have N0 := Fr.nil n0
  have K := Keep.refl h0 [a]
  refine own_go (U' := s₁.setTop (mkF m 1 #[.val (.ref a)] [(.ref a)])) (fun t k => XS.aloadN X0.here hx rfl (hb hby dal_0) rfl rfl k) ?_
  obtain ⟨v1, T1, h1, L1, e1, X1, hQ1, st1⟩ := own_callC X0 hx hZ (y := (⟨"java/util/AbstractList", "<init>", "()V"⟩ : MethodName)) rfl hown (hw _ (List.mem_of_getElem? (i := 9) rfl)) (hw _ (List.mem_of_getElem? (i := 10) rfl)) (hw _ (List.mem_of_getElem? (i := 13) rfl)) (hw _ (List.mem_of_getElem? (i := 14) rfl)) (by decide) (a := a) (own_rmab l Z a0 hw a h0 n0 g_a u0 u1 E_a F_modCount_a F_elementData_a) (W := 0) (by decide) (by decide) (g := (mkF m 1 #[.val (.ref a)] [(.ref a)])) rfl (by rw [hml]; rfl) (argsL := []) (rest := []) (lenOf own_pd0 rfl) rfl rfl (by show 2 * 0 + _ ≤ _; exact Nat.le_of_eq rfl) (hb hby dal_1) e0 (by decide) (by decide)
  obtain ⟨rfl, Nq, Kq, F_modCount_a, F_elementData_a⟩ := hQ1
  have K := K.trans Kq (allS (Or.inl (List.mem_of_getElem? (i := 0) rfl)) all0)
  have O := O.keep Kq (allS g_a all0)
  have E_a := E_a.keep Kq
  have N1 := Fr.app N0 Nq
  refine own_go (U' := T1.setTop (mkF m 4 #[.val (.ref a)] [])) st1 ?_
  refine own_go (U' := T1.setTop (mkF m 5 #[.val (.ref a)] [(.ref a)])) (fun t k => XS.aloadN X1.here hx rfl (hb hby dal_4) rfl rfl k) ?_
  obtain ⟨T2, X2, e2, st2⟩ := getS2 X1 hx hZ hown (host := "") (Or.inl (hw _ (List.mem_of_getElem? (i := 26) rfl))) Via.refl e1 (S_dd.ext O.2) (g := (mkF m 5 #[.val (.ref a)] [(.ref a)])) rfl (hb hby dal_5)
  refine own_go (U' := T2.setTop (mkF m 8 #[.val (.ref a)] [(.ref dd), (.ref a)])) st2 ?_
  obtain ⟨T3, h3, X3, e3, W3, st3⟩ := putF X2 hx hZ hown (host := "") (Or.inl (hw _ (List.mem_of_getElem? (i := 27) rfl))) Via.refl e2 F_elementData_a E_a (Or.inl (hw _ (List.mem_of_getElem? (i := 28) rfl))) (hw _ (List.mem_of_getElem? (i := 4) rfl)) (ty := (.array (.object "java/lang/Object"))) (by decide) rfl rfl (g := (mkF m 8 #[.val (.ref a)] [(.ref dd), (.ref a)])) rfl rfl (hb hby dal_8)
  have K := K.wr W3 (Or.inl (List.mem_of_getElem? (i := 0) rfl))
  have O := O.wr W3 g_a
  have E_a := E_a.wr W3
  have F_modCount_a := F_modCount_a.other W3 (Or.inr (slot_ne (Or.inl (hw _ (List.mem_of_getElem? (i := 25) rfl))) (Or.inl (hw _ (List.mem_of_getElem? (i := 28) rfl))) (by decide) (t := .int) (t' := (.array (.object "java/lang/Object"))) (by decide) (by decide)))
  have F_elementData_a := F_elementData_a.same W3
  have N3 := Fr.snoc X3 N1 g_a
  refine own_go (U' := T3.setTop (mkF m 11 #[.val (.ref a)] [])) st3 ?_
  refine own_retV X3 hx hret hlk (hb hby dal_11) ?_ (by decide) (by decide)
  rw [e3]
  exact ⟨rfl, N3, K, F_modCount_a, F_elementData_a⟩
theorem dre_0 : decode jdk_30_method_1_code 0 = .ok (.aload_n 0, 1) := by decide +kernel
theorem dre_1 : decode jdk_30_method_1_code 1 = .ok (.invokespecial 1, 3) := by decide +kernel
theorem dre_4 : decode jdk_30_method_1_code 4 = .ok (.return_, 1) := by decide +kernel
theorem own_pn3 : plainName "java/lang/Record" = true := by first | (simp [plainName, overriddenIn]; done) | decide +kernel
theorem own_efre (m : MethodId) (a : Addr) : entryFrame m #[(.ref a)] 1 = mkF m 0 #[.val (.ref a)] [] := by first | (simp [entryFrame, mkF, argsToLocals, Value.category]; done) | rfl
set_option maxRecDepth 65536 in
set_option maxHeartbeats 40000000 in
theorem own_rmre (l : Launch) (Z : State) (a0 : Array Value) (hw : ∀ d ∈ tables_1, d.before a0 Z = true) (a : Addr) (h0 : Heap)  :
    own_C l Z (⟨"java/lang/Record", "<init>", "()V"⟩ : MethodName) jdk_30_method_1_code 1 none [] ({ frames := 1, cells := 0, slots := 0, locals := 12 } : Room) #[(.ref a)] h0 (fun v h L => v = none ∧ L = [] ∧ h = h0) := by
  refine own_body (plainFor_of_name own_pn3) fun p e s m below meth c s₁ hx hby hml hret hlk hown hnm hZ X0 e0 => ?_
  rw [own_efre m a]
  refine own_go (U' := s₁.setTop (mkF m 1 #[.val (.ref a)] [(.ref a)])) (fun t k => XS.aloadN X0.here hx rfl (hb hby dre_0) rfl rfl k) ?_
  obtain ⟨T1, X1, e1, st1⟩ := initO X0 hx hZ hown (hw _ (List.mem_of_getElem? (i := 37) rfl)) (hw _ (List.mem_of_getElem? (i := 22) rfl)) (hw _ (List.mem_of_getElem? (i := 23) rfl)) e0 (g := (mkF m 1 #[.val (.ref a)] [(.ref a)])) rfl (by rw [hml]; rfl) rfl (hb hby dre_1) (by decide) (W := 0) (by show 2 * 0 + _ ≤ _; exact Nat.le_of_eq rfl) (by decide)
  refine own_go (U' := T1.setTop (mkF m 4 #[.val (.ref a)] [])) st1 ?_
  refine own_retV X1 hx hret hlk (hb hby dre_4) ?_ (by decide) (by decide)
  exact ⟨rfl, rfl, e1⟩
theorem own_pd1 : parseMethodDescriptor "(ZILjava/util/List;)V" = some ⟨[.boolean, .int, (.object "java/util/List")], none⟩ := by decide +kernel
theorem dsi_0 : decode prog_29_method_1_code 0 = .ok (.aload_n 0, 1) := by decide +kernel
theorem dsi_1 : decode prog_29_method_1_code 1 = .ok (.invokespecial 1, 3) := by decide +kernel
theorem dsi_4 : decode prog_29_method_1_code 4 = .ok (.aload_n 0, 1) := by decide +kernel
theorem dsi_5 : decode prog_29_method_1_code 5 = .ok (.iload_n 1, 1) := by decide +kernel
theorem dsi_6 : decode prog_29_method_1_code 6 = .ok (.putfield 7, 3) := by decide +kernel
theorem dsi_9 : decode prog_29_method_1_code 9 = .ok (.aload_n 0, 1) := by decide +kernel
theorem dsi_10 : decode prog_29_method_1_code 10 = .ok (.iload_n 2, 1) := by decide +kernel
theorem dsi_11 : decode prog_29_method_1_code 11 = .ok (.putfield 13, 3) := by decide +kernel
theorem dsi_14 : decode prog_29_method_1_code 14 = .ok (.aload_n 0, 1) := by decide +kernel
theorem dsi_15 : decode prog_29_method_1_code 15 = .ok (.aload_n 3, 1) := by decide +kernel
theorem dsi_16 : decode prog_29_method_1_code 16 = .ok (.putfield 17, 3) := by decide +kernel
theorem dsi_19 : decode prog_29_method_1_code 19 = .ok (.return_, 1) := by decide +kernel
theorem own_pn4 : plainName "com/example/keywright/keywright/Snapshot$Setting" = true := by first | (simp [plainName, overriddenIn]; done) | decide +kernel
theorem own_efsi (m : MethodId) (a : Addr) (p1 p2 : Int32) (b : Addr) : entryFrame m #[(.ref a), (.int p1), (.int p2), (.ref b)] 4 = mkF m 0 #[.val (.ref a), .val (.int p1), .val (.int p2), .val (.ref b)] [] := by first | (simp [entryFrame, mkF, argsToLocals, Value.category]; done) | rfl
set_option maxRecDepth 65536 in
set_option maxHeartbeats 40000000 in
theorem own_rmsi (l : Launch) (Z : State) (a0 : Array Value) (hw : ∀ d ∈ tables_1, d.before a0 Z = true) (a : Addr) (p1 p2 : Int32) (b : Addr) (h0 : Heap) (n0 : Nat) (g_a : n0 ≤ a) (u0 u1 u2 : Value) (hp : nar .boolean p1 = p1) (E_a : Exa Z h0 a "com/example/keywright/keywright/Snapshot$Setting") (F_deny_a : Fld Z h0 a "com/example/keywright/keywright/Snapshot$Setting" "deny" "Z" u0) (F_width_a : Fld Z h0 a "com/example/keywright/keywright/Snapshot$Setting" "width" "I" u1) (F_lines_a : Fld Z h0 a "com/example/keywright/keywright/Snapshot$Setting" "lines" "Ljava/util/List;" u2) :
    own_C l Z (⟨"com/example/keywright/keywright/Snapshot$Setting", "<init>", "(ZILjava/util/List;)V"⟩ : MethodName) prog_29_method_1_code 4 none [] ({ frames := 2, cells := 0, slots := 0, locals := 24 } : Room) #[(.ref a), (.int p1), (.int p2), (.ref b)] h0 (fun v h L => v = none ∧ Fr n0 L ∧ Keep h0 h [a] ∧ Fld Z h a "com/example/keywright/keywright/Snapshot$Setting" "deny" "Z" (.int p1) ∧ Fld Z h a "com/example/keywright/keywright/Snapshot$Setting" "width" "I" (.int p2)) := by
  refine own_body (plainFor_of_name own_pn4) fun p e s m below meth c s₁ hx hby hml hret hlk hown hnm hZ X0 e0 => ?_
  rw [own_efsi m a p1 p2 b]
  have N0 := Fr.nil n0
  have K := Keep.refl h0 [a]
  refine own_go (U' := s₁.setTop (mkF m 1 #[.val (.ref a), .val (.int p1), .val (.int p2), .val (.ref b)] [(.ref a)])) (fun t k => XS.aloadN X0.here hx rfl (hb hby dsi_0) rfl rfl k) ?_
  obtain ⟨v1, T1, h1, L1, e1, X1, hQ1, st1⟩ := own_callC X0 hx hZ (y := (⟨"java/lang/Record", "<init>", "()V"⟩ : MethodName)) rfl hown (hw _ (List.mem_of_getElem? (i := 32) rfl)) (hw _ (List.mem_of_getElem? (i := 33) rfl)) (hw _ (List.mem_of_getElem? (i := 35) rfl)) (hw _ (List.mem_of_getElem? (i := 36) rfl)) (by decide) (a := a) (own_rmre l Z a0 hw a h0) (W := 0) (by decide) (by decide) (g := (mkF m 1 #[.val (.ref a), .val (.int p1), .val (.int p2), .val (.ref b)] [(.ref a)])) rfl (by rw [hml]; rfl) (argsL := []) (rest := []) (lenOf own_pd0 rfl) rfl rfl (by show 2 * 0 + _ ≤ _; exact Nat.le_of_eq rfl) (hb hby dsi_1) e0 (by decide) (by decide)
  obtain ⟨rfl, rfl, eh1⟩ := hQ1
  have e1 := e1.trans eh1
  rw [List.append_nil] at X1
  refine own_go (U' := T1.setTop (mkF m 4 #[.val (.ref a), .val (.int p1), .val (.int p2), .val (.ref b)] [])) st1 ?_
  refine own_go (U' := T1.setTop (mkF m 5 #[.val (.ref a), .val (.int p1), .val (.int p2), .val (.ref b)] [(.ref a)])) (fun t k => XS.aloadN X1.here hx rfl (hb hby dsi_4) rfl rfl k) ?_
  refine own_go (U' := T1.setTop (mkF m 6 #[.val (.ref a), .val (.int p1), .val (.int p2), .val (.ref b)] [(.int p1), (.ref a)])) (fun t k => XS.iloadN X1.here hx rfl (hb hby dsi_5) rfl k) ?_
  obtain ⟨T2, h2, X2, e2, W2, st2⟩ := putFN X1 hx hZ hown (hw _ (List.mem_of_getElem? (i := 38) rfl)) Via.refl e1 F_deny_a E_a (Or.inr ⟨(hw _ (List.mem_of_getElem? (i := 39) rfl)), rfl, hnm⟩) (hw _ (List.mem_of_getElem? (i := 1) rfl)) (ty := .boolean) (v' := (.int (nar .boolean p1))) (by decide) rfl (fits_nar_bool _) (g := (mkF m 6 #[.val (.ref a), .val (.int p1), .val (.int p2), .val (.ref b)] [(.int p1), (.ref a)])) rfl rfl (hb hby dsi_6)
  have K := K.wr W2 (Or.inl (List.mem_of_getElem? (i := 0) rfl))
  have E_a := E_a.wr W2
  have F_width_a := F_width_a.other W2 (Or.inr (slot_ne (Or.inr (hw _ (List.mem_of_getElem? (i := 41) rfl))) (Or.inr (hw _ (List.mem_of_getElem? (i := 39) rfl))) (by decide) (t := .int) (t' := .boolean) (by decide) (by decide)))
  have F_lines_a := F_lines_a.other W2 (Or.inr (slot_ne (Or.inr (hw _ (List.mem_of_getElem? (i := 43) rfl))) (Or.inr (hw _ (List.mem_of_getElem? (i := 39) rfl))) (by decide) (t := (.object "java/util/List")) (t' := .boolean) (by decide) (by decide)))
  have F_deny_a := F_deny_a.same W2
  have N2 := Fr.snoc X2 N0 g_a
  refine own_go (U' := T2.setTop (mkF m 9 #[.val (.ref a), .val (.int p1), .val (.int p2), .val (.ref b)] [])) st2 ?_
  refine own_go (U' := T2.setTop (mkF m 10 #[.val (.ref a), .val (.int p1), .val (.int p2), .val (.ref b)] [(.ref a)])) (fun t k => XS.aloadN X2.here hx rfl (hb hby dsi_9) rfl rfl k) ?_
  refine own_go (U' := T2.setTop (mkF m 11 #[.val (.ref a), .val (.int p1), .val (.int p2), .val (.ref b)] [(.int p2), (.ref a)])) (fun t k => XS.iloadN X2.here hx rfl (hb hby dsi_10) rfl k) ?_
  obtain ⟨T3, h3, X3, e3, W3, st3⟩ := putF X2 hx hZ hown (host := "") (Or.inl (hw _ (List.mem_of_getElem? (i := 40) rfl))) Via.refl e2 F_width_a E_a (Or.inr ⟨(hw _ (List.mem_of_getElem? (i := 41) rfl)), rfl, hnm⟩) (hw _ (List.mem_of_getElem? (i := 1) rfl)) (ty := .int) (by decide) rfl rfl (g := (mkF m 11 #[.val (.ref a), .val (.int p1), .val (.int p2), .val (.ref b)] [(.int p2), (.ref a)])) rfl rfl (hb hby dsi_11)
  have K := K.wr W3 (Or.inl (List.mem_of_getElem? (i := 0) rfl))
  have E_a := E_a.wr W3
  have F_deny_a := F_deny_a.other W3 (Or.inr (slot_ne (Or.inr (hw _ (List.mem_of_getElem? (i := 39) rfl))) (Or.inr (hw _ (List.mem_of_getElem? (i := 41) rfl))) (by decide) (t := .boolean) (t' := .int) (by decide) (by decide)))
  have F_lines_a := F_lines_a.other W3 (Or.inr (slot_ne (Or.inr (hw _ (List.mem_of_getElem? (i := 43) rfl))) (Or.inr (hw _ (List.mem_of_getElem? (i := 41) rfl))) (by decide) (t := (.object "java/util/List")) (t' := .int) (by decide) (by decide)))
  have F_width_a := F_width_a.same W3
  have N3 := Fr.snoc X3 N2 g_a
  refine own_go (U' := T3.setTop (mkF m 14 #[.val (.ref a), .val (.int p1), .val (.int p2), .val (.ref b)] [])) st3 ?_
  refine own_go (U' := T3.setTop (mkF m 15 #[.val (.ref a), .val (.int p1), .val (.int p2), .val (.ref b)] [(.ref a)])) (fun t k => XS.aloadN X3.here hx rfl (hb hby dsi_14) rfl rfl k) ?_
  refine own_go (U' := T3.setTop (mkF m 16 #[.val (.ref a), .val (.int p1), .val (.int p2), .val (.ref b)] [(.ref b), (.ref a)])) (fun t k => XS.aloadN X3.here hx rfl (hb hby dsi_15) rfl rfl k) ?_
  obtain ⟨T4, h4, X4, e4, W4, st4⟩ := putF X3 hx hZ hown (host := "") (Or.inl (hw _ (List.mem_of_getElem? (i := 42) rfl))) Via.refl e3 F_lines_a E_a (Or.inr ⟨(hw _ (List.mem_of_getElem? (i := 43) rfl)), rfl, hnm⟩) (hw _ (List.mem_of_getElem? (i := 1) rfl)) (ty := (.object "java/util/List")) (by decide) rfl rfl (g := (mkF m 16 #[.val (.ref a), .val (.int p1), .val (.int p2), .val (.ref b)] [(.ref b), (.ref a)])) rfl rfl (hb hby dsi_16)
  have K := K.wr W4 (Or.inl (List.mem_of_getElem? (i := 0) rfl))
  have E_a := E_a.wr W4
  have F_deny_a := F_deny_a.other W4 (Or.inr (slot_ne (Or.inr (hw _ (List.mem_of_getElem? (i := 39) rfl))) (Or.inr (hw _ (List.mem_of_getElem? (i := 43) rfl))) (by decide) (t := .boolean) (t' := (.object "java/util/List")) (by decide) (by decide)))
  have F_width_a := F_width_a.other W4 (Or.inr (slot_ne (Or.inr (hw _ (List.mem_of_getElem? (i := 41) rfl))) (Or.inr (hw _ (List.mem_of_getElem? (i := 43) rfl))) (by decide) (t := .int) (t' := (.object "java/util/List")) (by decide) (by decide)))
  have F_lines_a := F_lines_a.same W4
  have N4 := Fr.snoc X4 N3 g_a
  refine own_go (U' := T4.setTop (mkF m 19 #[.val (.ref a), .val (.int p1), .val (.int p2), .val (.ref b)] [])) st4 ?_
  refine own_retV X4 hx hret hlk (hb hby dsi_19) ?_ (by decide) (by decide)
  rw [e4]
  rw [hp] at F_deny_a
  exact ⟨rfl, N4, K, F_deny_a, F_width_a⟩
theorem own_pd2 : parseMethodDescriptor "(Lcom/example/keywright/keywright/Snapshot$Setting;Lcom/example/keywright/keywright/Snapshot$Setting;)Lcom/example/keywright/keywright/Snapshot$Setting;" = some ⟨[(.object "com/example/keywright/keywright/Snapshot$Setting"), (.object "com/example/keywright/keywright/Snapshot$Setting")], some (.object "com/example/keywright/keywright/Snapshot$Setting")⟩ := by decide +kernel
theorem dst_0 : decode prog_29_method_2_code 0 = .ok (.aload_n 0, 1) := by decide +kernel
theorem dst_1 : decode prog_29_method_2_code 1 = .ok (.getfield 13, 3) := by decide +kernel
theorem dst_4 : decode prog_29_method_2_code 4 = .ok (.aload_n 1, 1) := by decide +kernel
theorem dst_5 : decode prog_29_method_2_code 5 = .ok (.getfield 13, 3) := by decide +kernel
theorem dst_8 : decode prog_29_method_2_code 8 = .ok (.if_icmp .eq 20, 3) := by decide +kernel
theorem dst_11 : decode prog_29_method_2_code 11 = .ok (.aload_n 0, 1) := by decide +kernel
theorem dst_12 : decode prog_29_method_2_code 12 = .ok (.getfield 13, 3) := by decide +kernel
theorem dst_15 : decode prog_29_method_2_code 15 = .ok (.aload_n 1, 1) := by decide +kernel
theorem dst_16 : decode prog_29_method_2_code 16 = .ok (.getfield 13, 3) := by decide +kernel
theorem dst_19 : decode prog_29_method_2_code 19 = .ok (.if_icmp .ge 7, 3) := by decide +kernel
theorem dst_22 : decode prog_29_method_2_code 22 = .ok (.aload_n 0, 1) := by decide +kernel
theorem dst_23 : decode prog_29_method_2_code 23 = .ok (.goto 4, 3) := by decide +kernel
theorem dst_26 : decode prog_29_method_2_code 26 = .ok (.aload_n 1, 1) := by decide +kernel
theorem dst_27 : decode prog_29_method_2_code 27 = .ok (.areturn, 1) := by decide +kernel
theorem dst_28 : decode prog_29_method_2_code 28 = .ok (.aload_n 0, 1) := by decide +kernel
theorem dst_29 : decode prog_29_method_2_code 29 = .ok (.getfield 7, 3) := by decide +kernel
theorem dst_32 : decode prog_29_method_2_code 32 = .ok (.ifCond .eq 7, 3) := by decide +kernel
theorem dst_35 : decode prog_29_method_2_code 35 = .ok (.aload_n 0, 1) := by decide +kernel
theorem dst_36 : decode prog_29_method_2_code 36 = .ok (.goto 4, 3) := by decide +kernel
theorem dst_39 : decode prog_29_method_2_code 39 = .ok (.aload_n 1, 1) := by decide +kernel
theorem dst_40 : decode prog_29_method_2_code 40 = .ok (.areturn, 1) := by decide +kernel
theorem own_efst (m : MethodId) (a b : Addr) : entryFrame m #[(.ref a), (.ref b)] 2 = mkF m 0 #[.val (.ref a), .val (.ref b)] [] := by first | (simp [entryFrame, mkF, argsToLocals, Value.category]; done) | rfl
set_option maxRecDepth 65536 in
set_option maxHeartbeats 40000000 in
theorem own_rmst (l : Launch) (Z : State) (a0 : Array Value) (hw : ∀ d ∈ tables_1, d.before a0 Z = true) (a b : Addr) (h0 : Heap) (wa wb da : Int32) (F_width_a : Fld Z h0 a "com/example/keywright/keywright/Snapshot$Setting" "width" "I" (.int wa)) (F_width_b : Fld Z h0 b "com/example/keywright/keywright/Snapshot$Setting" "width" "I" (.int wb)) (F_deny_a : Fld Z h0 a "com/example/keywright/keywright/Snapshot$Setting" "deny" "Z" (.int da)) :
    own_C l Z (⟨"com/example/keywright/keywright/Snapshot$Setting", "stronger", "(Lcom/example/keywright/keywright/Snapshot$Setting;Lcom/example/keywright/keywright/Snapshot$Setting;)Lcom/example/keywright/keywright/Snapshot$Setting;"⟩ : MethodName) prog_29_method_2_code 2 (some (.object "com/example/keywright/keywright/Snapshot$Setting")) [] ({ frames := 0, cells := 0, slots := 0, locals := 0 } : Room) #[(.ref a), (.ref b)] h0 (fun v h L => ∃ r, (v = some (.ref r) ∧ L = [] ∧ h = h0) ∧ ((r = a ∧ (wa < wb ∨ (wa = wb ∧ ¬ da = 0))) ∨ (r = b ∧ (¬ wa < wb ∧ (wa = wb → da = 0))))) := by
  refine own_body (plainFor_of_name own_pn4) fun p e s m below meth c s₁ hx hby hml hret hlk hown hnm hZ X0 e0 => ?_
  rw [own_efst m a b]
  refine own_go (U' := s₁.setTop (mkF m 1 #[.val (.ref a), .val (.ref b)] [(.ref a)])) (fun t k => XS.aloadN X0.here hx rfl (hb hby dst_0) rfl rfl k) ?_
  obtain ⟨T1, X1, e1, st1⟩ := getF X0 hx hZ hown (host := "") (Or.inl (hw _ (List.mem_of_getElem? (i := 40) rfl))) Via.refl e0 F_width_a (g := (mkF m 1 #[.val (.ref a), .val (.ref b)] [(.ref a)])) rfl rfl (hb hby dst_1)
  refine own_go (U' := T1.setTop (mkF m 4 #[.val (.ref a), .val (.ref b)] [(.int wa)])) st1 ?_
  refine own_go (U' := T1.setTop (mkF m 5 #[.val (.ref a), .val (.ref b)] [(.ref b), (.int wa)])) (fun t k => XS.aloadN X1.here hx rfl (hb hby dst_4) rfl rfl k) ?_
  obtain ⟨T2, X2, e2, st2⟩ := getF X1 hx hZ hown (host := "") (Or.inl (hw _ (List.mem_of_getElem? (i := 40) rfl))) Via.refl e1 F_width_b (g := (mkF m 5 #[.val (.ref a), .val (.ref b)] [(.ref b), (.int wa)])) rfl rfl (hb hby dst_5)
  refine own_go (U' := T2.setTop (mkF m 8 #[.val (.ref a), .val (.ref b)] [(.int wb), (.int wa)])) st2 ?_
  by_cases hq : wa = wb
  · refine own_go (U' := T2.setTop (mkF m 28 #[.val (.ref a), .val (.ref b)] [])) (fun t k => XS.icmpYes X2.here hx rfl (pc0 := 8) (pc' := 28) rfl (hb hby dst_8) rfl (teq hq).1 (by decide) (by decide) k) ?_
    refine own_go (U' := T2.setTop (mkF m 29 #[.val (.ref a), .val (.ref b)] [(.ref a)])) (fun t k => XS.aloadN X2.here hx rfl (hb hby dst_28) rfl rfl k) ?_
    obtain ⟨T3, X3, e3, st3⟩ := getF X2 hx hZ hown (host := "") (Or.inl (hw _ (List.mem_of_getElem? (i := 38) rfl))) Via.refl e2 F_deny_a (g := (mkF m 29 #[.val (.ref a), .val (.ref b)] [(.ref a)])) rfl rfl (hb hby dst_29)
    refine own_go (U' := T3.setTop (mkF m 32 #[.val (.ref a), .val (.ref b)] [(.int da)])) st3 ?_
    by_cases hd : da = (0 : Int32)
    · refine own_go (U' := T3.setTop (mkF m 39 #[.val (.ref a), .val (.ref b)] [])) (fun t k => XS.ifYes X3.here hx rfl (pc0 := 32) (pc' := 39) rfl (hb hby dst_32) rfl ((if0 _ _).trans (teq hd).1) (by decide) (by decide) k) ?_
      refine own_go (U' := T3.setTop (mkF m 40 #[.val (.ref a), .val (.ref b)] [(.ref b)])) (fun t k => XS.aloadN X3.here hx rfl (hb hby dst_39) rfl rfl k) ?_
      refine own_retA X3 hx (t := (.object "com/example/keywright/keywright/Snapshot$Setting")) hret rfl hlk rfl (hb hby dst_40) ?_ (by decide) (by decide)
      exact ⟨_, ⟨rfl, rfl, e3⟩, Or.inr ⟨rfl, fun q => Int32.lt_irrefl (hq ▸ q), fun _ => hd⟩⟩
    · refine own_go (U' := T3.setTop (mkF m 35 #[.val (.ref a), .val (.ref b)] [])) (fun t k => XS.ifNo X3.here hx rfl (hb hby dst_32) rfl ((if0 _ _).trans (feq hd).1) k) ?_
      refine own_go (U' := T3.setTop (mkF m 36 #[.val (.ref a), .val (.ref b)] [(.ref a)])) (fun t k => XS.aloadN X3.here hx rfl (hb hby dst_35) rfl rfl k) ?_
      refine own_go (U' := T3.setTop (mkF m 40 #[.val (.ref a), .val (.ref b)] [(.ref a)])) (fun t k => XS.goto X3.here hx rfl (pc0 := 36) (pc' := 40) rfl (hb hby dst_36) (by decide) (by decide) k) ?_
      refine own_retA X3 hx (t := (.object "com/example/keywright/keywright/Snapshot$Setting")) hret rfl hlk rfl (hb hby dst_40) ?_ (by decide) (by decide)
      exact ⟨_, ⟨rfl, rfl, e3⟩, Or.inl ⟨rfl, Or.inr ⟨hq, hd⟩⟩⟩
  · refine own_go (U' := T2.setTop (mkF m 11 #[.val (.ref a), .val (.ref b)] [])) (fun t k => XS.icmpNo X2.here hx rfl (hb hby dst_8) rfl (feq hq).1 k) ?_
    refine own_go (U' := T2.setTop (mkF m 12 #[.val (.ref a), .val (.ref b)] [(.ref a)])) (fun t k => XS.aloadN X2.here hx rfl (hb hby dst_11) rfl rfl k) ?_
    obtain ⟨T4, X4, e4, st4⟩ := getF X2 hx hZ hown (host := "") (Or.inl (hw _ (List.mem_of_getElem? (i := 40) rfl))) Via.refl e2 F_width_a (g := (mkF m 12 #[.val (.ref a), .val (.ref b)] [(.ref a)])) rfl rfl (hb hby dst_12)
    refine own_go (U' := T4.setTop (mkF m 15 #[.val (.ref a), .val (.ref b)] [(.int wa)])) st4 ?_
    refine own_go (U' := T4.setTop (mkF m 16 #[.val (.ref a), .val (.ref b)] [(.ref b), (.int wa)])) (fun t k => XS.aloadN X4.here hx rfl (hb hby dst_15) rfl rfl k) ?_
    obtain ⟨T5, X5, e5, st5⟩ := getF X4 hx hZ hown (host := "") (Or.inl (hw _ (List.mem_of_getElem? (i := 40) rfl))) Via.refl e4 F_width_b (g := (mkF m 16 #[.val (.ref a), .val (.ref b)] [(.ref b), (.int wa)])) rfl rfl (hb hby dst_16)
    refine own_go (U' := T5.setTop (mkF m 19 #[.val (.ref a), .val (.ref b)] [(.int wb), (.int wa)])) st5 ?_
    by_cases hl : wa < wb
    · refine own_go (U' := T5.setTop (mkF m 22 #[.val (.ref a), .val (.ref b)] [])) (fun t k => XS.icmpNo X5.here hx rfl (hb hby dst_19) rfl (tlt hl).2.1 k) ?_
      refine own_go (U' := T5.setTop (mkF m 23 #[.val (.ref a), .val (.ref b)] [(.ref a)])) (fun t k => XS.aloadN X5.here hx rfl (hb hby dst_22) rfl rfl k) ?_
      refine own_go (U' := T5.setTop (mkF m 27 #[.val (.ref a), .val (.ref b)] [(.ref a)])) (fun t k => XS.goto X5.here hx rfl (pc0 := 23) (pc' := 27) rfl (hb hby dst_23) (by decide) (by decide) k) ?_
      refine own_retA X5 hx (t := (.object "com/example/keywright/keywright/Snapshot$Setting")) hret rfl hlk rfl (hb hby dst_27) ?_ (by decide) (by decide)
      exact ⟨_, ⟨rfl, rfl, e5⟩, Or.inl ⟨rfl, Or.inl hl⟩⟩
    · refine own_go (U' := T5.setTop (mkF m 26 #[.val (.ref a), .val (.ref b)] [])) (fun t k => XS.icmpYes X5.here hx rfl (pc0 := 19) (pc' := 26) rfl (hb hby dst_19) rfl (flt hl).2.1 (by decide) (by decide) k) ?_
      refine own_go (U' := T5.setTop (mkF m 27 #[.val (.ref a), .val (.ref b)] [(.ref b)])) (fun t k => XS.aloadN X5.here hx rfl (hb hby dst_26) rfl rfl k) ?_
      refine own_retA X5 hx (t := (.object "com/example/keywright/keywright/Snapshot$Setting")) hret rfl hlk rfl (hb hby dst_27) ?_ (by decide) (by decide)
      exact ⟨_, ⟨rfl, rfl, e5⟩, Or.inr ⟨rfl, hl, fun q => absurd q hq⟩⟩
theorem own_pd3 : parseMethodDescriptor "(II)I" = some ⟨[.int, .int], some .int⟩ := by decide +kernel
theorem dmi_0 : decode jdk_29_method_69_code 0 = .ok (.iload_n 0, 1) := by decide +kernel
theorem dmi_1 : decode jdk_29_method_69_code 1 = .ok (.iload_n 1, 1) := by decide +kernel
theorem dmi_2 : decode jdk_29_method_69_code 2 = .ok (.if_icmp .gt 7, 3) := by decide +kernel
theorem dmi_5 : decode jdk_29_method_69_code 5 = .ok (.iload_n 0, 1) := by decide +kernel
theorem dmi_6 : decode jdk_29_method_69_code 6 = .ok (.goto 4, 3) := by decide +kernel
theorem dmi_9 : decode jdk_29_method_69_code 9 = .ok (.iload_n 1, 1) := by decide +kernel
theorem dmi_10 : decode jdk_29_method_69_code 10 = .ok (.ireturn, 1) := by decide +kernel
theorem own_efmi (m : MethodId) (p1 p2 : Int32) : entryFrame m #[(.int p1), (.int p2)] 2 = mkF m 0 #[.val (.int p1), .val (.int p2)] [] := by first | (simp [entryFrame, mkF, argsToLocals, Value.category]; done) | rfl
set_option maxRecDepth 65536 in
set_option maxHeartbeats 40000000 in
theorem own_rmmi (l : Launch) (Z : State) (a0 : Array Value) (hw : ∀ d ∈ tables_1, d.before a0 Z = true) (p1 p2 : Int32) (h0 : Heap)  :
    own_C l Z (⟨"java/lang/Math", "min", "(II)I"⟩ : MethodName) jdk_29_method_69_code 2 (some .int) [] ({ frames := 0, cells := 0, slots := 0, locals := 0 } : Room) #[(.int p1), (.int p2)] h0 (fun v h L => v = some (.int (own_min p1 p2)) ∧ L = [] ∧ h = h0) := by
  refine own_body (Jvm.Free.JP.mathPlain rfl (by decide +kernel)) fun p e s m below meth c s₁ hx hby hml hret hlk hown hnm hZ X0 e0 => ?_
  rw [own_efmi m p1 p2]
  refine own_go (U' := s₁.setTop (mkF m 1 #[.val (.int p1), .val (.int p2)] [(.int p1)])) (fun t k => XS.iloadN X0.here hx rfl (hb hby dmi_0) rfl k) ?_
  refine own_go (U' := s₁.setTop (mkF m 2 #[.val (.int p1), .val (.int p2)] [(.int p2), (.int p1)])) (fun t k => XS.iloadN X0.here hx rfl (hb hby dmi_1) rfl k) ?_
  by_cases hc2 : p2 < p1
  · refine own_go (U' := s₁.setTop (mkF m 9 #[.val (.int p1), .val (.int p2)] [])) (fun t k => XS.icmpYes X0.here hx rfl (pc0 := 2) (pc' := 9) rfl (hb hby dmi_2) rfl (tlt hc2).2.2.1 (by decide) (by decide) k) ?_
    refine own_go (U' := s₁.setTop (mkF m 10 #[.val (.int p1), .val (.int p2)] [(.int p2)])) (fun t k => XS.iloadN X0.here hx rfl (hb hby dmi_9) rfl k) ?_
    refine own_retI X0 hx hret hlk (hb hby dmi_10) ?_ (by decide) (by decide)
    refine ⟨?_, rfl, e0⟩
    rw [own_min, if_pos hc2]
  · refine own_go (U' := s₁.setTop (mkF m 5 #[.val (.int p1), .val (.int p2)] [])) (fun t k => XS.icmpNo X0.here hx rfl (hb hby dmi_2) rfl (flt hc2).2.2.1 k) ?_
    refine own_go (U' := s₁.setTop (mkF m 6 #[.val (.int p1), .val (.int p2)] [(.int p1)])) (fun t k => XS.iloadN X0.here hx rfl (hb hby dmi_5) rfl k) ?_
    refine own_go (U' := s₁.setTop (mkF m 10 #[.val (.int p1), .val (.int p2)] [(.int p1)])) (fun t k => XS.goto X0.here hx rfl (pc0 := 6) (pc' := 10) rfl (hb hby dmi_6) (by decide) (by decide) k) ?_
    refine own_retI X0 hx hret hlk (hb hby dmi_10) ?_ (by decide) (by decide)
    refine ⟨?_, rfl, e0⟩
    rw [own_min, if_neg hc2]
theorem own_pd4 : parseMethodDescriptor "()I" = some ⟨[], some .int⟩ := by decide +kernel
theorem dgw_0 : decode prog_29_method_9_code 0 = .ok (.aload_n 0, 1) := by decide +kernel
theorem dgw_1 : decode prog_29_method_9_code 1 = .ok (.getfield 13, 3) := by decide +kernel
theorem dgw_4 : decode prog_29_method_9_code 4 = .ok (.ireturn, 1) := by decide +kernel
theorem own_efgw (m : MethodId) (a : Addr) : entryFrame m #[(.ref a)] 1 = mkF m 0 #[.val (.ref a)] [] := by first | (simp [entryFrame, mkF, argsToLocals, Value.category]; done) | rfl
set_option maxRecDepth 65536 in
set_option maxHeartbeats 40000000 in
theorem own_rmgw (l : Launch) (Z : State) (a0 : Array Value) (hw : ∀ d ∈ tables_1, d.before a0 Z = true) (a : Addr) (h0 : Heap) (x : Int32)  (F_width_a : Fld Z h0 a "com/example/keywright/keywright/Snapshot$Setting" "width" "I" (.int x)) :
    own_C l Z (⟨"com/example/keywright/keywright/Snapshot$Setting", "width", "()I"⟩ : MethodName) prog_29_method_9_code 1 (some .int) [] ({ frames := 0, cells := 0, slots := 0, locals := 0 } : Room) #[(.ref a)] h0 (fun v h L => v = some (.int x) ∧ L = [] ∧ h = h0) := by
  refine own_body (plainFor_of_name own_pn4) fun p e s m below meth c s₁ hx hby hml hret hlk hown hnm hZ X0 e0 => ?_
  rw [own_efgw m a]
  refine own_go (U' := s₁.setTop (mkF m 1 #[.val (.ref a)] [(.ref a)])) (fun t k => XS.aloadN X0.here hx rfl (hb hby dgw_0) rfl rfl k) ?_
  obtain ⟨T1, X1, e1, st1⟩ := getF X0 hx hZ hown (host := "") (Or.inl (hw _ (List.mem_of_getElem? (i := 40) rfl))) Via.refl e0 F_width_a (g := (mkF m 1 #[.val (.ref a)] [(.ref a)])) rfl rfl (hb hby dgw_1)
  refine own_go (U' := T1.setTop (mkF m 4 #[.val (.ref a)] [(.int x)])) st1 ?_
  refine own_retI X1 hx hret hlk (hb hby dgw_4) ?_ (by decide) (by decide)
  exact ⟨rfl, rfl, e1⟩
theorem own_pd5 : parseMethodDescriptor "()Z" = some ⟨[], some .boolean⟩ := by decide +kernel
theorem dgd_0 : decode prog_29_method_8_code 0 = .ok (.aload_n 0, 1) := by decide +kernel
theorem dgd_1 : decode prog_29_method_8_code 1 = .ok (.getfield 7, 3) := by decide +kernel
theorem dgd_4 : decode prog_29_method_8_code 4 = .ok (.ireturn, 1) := by decide +kernel
theorem own_efgd (m : MethodId) (a : Addr) : entryFrame m #[(.ref a)] 1 = mkF m 0 #[.val (.ref a)] [] := by first | (simp [entryFrame, mkF, argsToLocals, Value.category]; done) | rfl
set_option maxRecDepth 65536 in
set_option maxHeartbeats 40000000 in
theorem own_rmgd (l : Launch) (Z : State) (a0 : Array Value) (hw : ∀ d ∈ tables_1, d.before a0 Z = true) (a : Addr) (h0 : Heap) (x : Int32) (hp : nar .boolean x = x) (F_deny_a : Fld Z h0 a "com/example/keywright/keywright/Snapshot$Setting" "deny" "Z" (.int x)) :
    own_C l Z (⟨"com/example/keywright/keywright/Snapshot$Setting", "deny", "()Z"⟩ : MethodName) prog_29_method_8_code 1 (some .boolean) [] ({ frames := 0, cells := 0, slots := 0, locals := 0 } : Room) #[(.ref a)] h0 (fun v h L => v = some (.int x) ∧ L = [] ∧ h = h0) := by
  refine own_body (plainFor_of_name own_pn4) fun p e s m below meth c s₁ hx hby hml hret hlk hown hnm hZ X0 e0 => ?_
  rw [own_efgd m a]
  refine own_go (U' := s₁.setTop (mkF m 1 #[.val (.ref a)] [(.ref a)])) (fun t k => XS.aloadN X0.here hx rfl (hb hby dgd_0) rfl rfl k) ?_
  obtain ⟨T1, X1, e1, st1⟩ := getF X0 hx hZ hown (host := "") (Or.inl (hw _ (List.mem_of_getElem? (i := 38) rfl))) Via.refl e0 F_deny_a (g := (mkF m 1 #[.val (.ref a)] [(.ref a)])) rfl rfl (hb hby dgd_1)
  refine own_go (U' := T1.setTop (mkF m 4 #[.val (.ref a)] [(.int x)])) st1 ?_
  refine own_retN X1 hx (t := .boolean) hret (by simp) hlk (hb hby dgd_4) ?_ (by decide) (by decide)
  rw [hp]
  exact ⟨rfl, rfl, e1⟩
theorem own_pn5 : plainName "com/example/keywright/keywright/SettingStrongerPinLaw" = true := by first | (simp [plainName, overriddenIn]; done) | decide +kernel
theorem own_ef0 (m : MethodId) (p1 p2 p3 : Int32) : entryFrame m #[(.int p1), (.int p2), (.int p3)] maxLocals = mkF m 0 #[.val (.int p1), .val (.int p2), .val (.int p3), .unset, .unset, .unset, .unset, .unset, .unset, .unset, .unset] [] := by first | (simp [entryFrame, mkF, argsToLocals, Value.category, maxLocals]; done) | rfl
set_option maxRecDepth 65536 in
set_option maxHeartbeats 40000000 in
theorem own_rm0 (l : Launch) (Z : State) (a0 : Array Value) (hw : ∀ d ∈ tables_1, d.before a0 Z = true) (ws : List Jvm.Cond) (p1 p2 p3 : Int32) (h0 : Heap) (n0 : Nat) (dd : Addr) (O : Old Z n0 h0) (S_dd : Sta Z Z.heap "java/util/ArrayList" "DEFAULTCAPACITY_EMPTY_ELEMENTDATA" "[Ljava/lang/Object;" (.ref dd)) :
    own_C l Z x code maxLocals ret ws room_1 #[(.int p1), (.int p2), (.int p3)] h0 (fun v h L => v = some (.int 1) ∧ Fr n0 L) := by
  refine own_body (plainFor_of_name own_pn5) fun p e s m below meth c s₁ hx hby hml hret hlk hown hnm hZ X0 e0 => ?_
  rw [own_ef0 m p1 p2 p3]
  have hml : c.maxLocals = 11 := hml
  have hret : meth.sig.returnType = some .boolean := hret
  have N0 := Fr.nil n0
  refine own_go (U' := s₁.setTop (mkF m 1 #[.val (.int p1), .val (.int p2), .val (.int p3), .unset, .unset, .unset, .unset, .unset, .unset, .unset, .unset] [(.int p3)])) (fun t k => XS.iloadN X0.here hx rfl (hb hby at_0) rfl k) ?_
  refine own_go (U' := s₁.setTop (mkF m 2 #[.val (.int p1), .val (.int p2), .val (.int p3), .unset, .unset, .unset, .unset, .unset, .unset, .unset, .unset] [(.int (1 : Int32)), (.int p3)])) (fun t k => XS.iconst X0.here hx rfl (hb hby at_1) k) ?_
  refine own_go (U' := s₁.setTop (mkF m 3 #[.val (.int p1), .val (.int p2), .val (.int p3), .unset, .unset, .unset, .unset, .unset, .unset, .unset, .unset] [(.int (p3 &&& (1 : Int32)))])) (fun t k => XS.iand X0.here hx rfl (hb hby at_2) rfl k) ?_
  refine own_go (U' := s₁.setTop (mkF m 11 #[.val (.int p1), .val (.int p2), .val (.int p3), .unset, .unset, .unset, .unset, .unset, .unset, .unset, .unset] [(.int (if (p3 &&& (1 : Int32)) = (0 : Int32) then (0 : Int32) else (1 : Int32)))])) (fun t k => ?_) ?_
  · show Steps p.tables e below (s₁.setTop (mkF m 3 #[.val (.int p1), .val (.int p2), .val (.int p3), .unset, .unset, .unset, .unset, .unset, .unset, .unset, .unset] [(.int (p3 &&& (1 : Int32)))])) _
    by_cases hd3 : (p3 &&& (1 : Int32)) = (0 : Int32)
    · simp only [if_pos hd3] at k
      refine XS.ifYes X0.here hx rfl (pc0 := 3) (pc' := 10) rfl (hb hby at_3) rfl ((if0 _ _).trans (teq hd3).1) (by decide) (by decide) ?_
      show Steps p.tables e below (s₁.setTop (mkF m 10 #[.val (.int p1), .val (.int p2), .val (.int p3), .unset, .unset, .unset, .unset, .unset, .unset, .unset, .unset] [])) _
      refine XS.iconst X0.here hx rfl (hb hby at_10) ?_
      show Steps p.tables e below (s₁.setTop (mkF m 11 #[.val (.int p1), .val (.int p2), .val (.int p3), .unset, .unset, .unset, .unset, .unset, .unset, .unset, .unset] [(.int (0 : Int32))])) _
      exact k
    · simp only [if_neg hd3] at k
      refine XS.ifNo X0.here hx rfl (hb hby at_3) rfl ((if0 _ _).trans (feq hd3).1) ?_
      show Steps p.tables e below (s₁.setTop (mkF m 6 #[.val (.int p1), .val (.int p2), .val (.int p3), .unset, .unset, .unset, .unset, .unset, .unset, .unset, .unset] [])) _
      refine XS.iconst X0.here hx rfl (hb hby at_6) ?_
      show Steps p.tables e below (s₁.setTop (mkF m 7 #[.val (.int p1), .val (.int p2), .val (.int p3), .unset, .unset, .unset, .unset, .unset, .unset, .unset, .unset] [(.int (1 : Int32))])) _
      refine XS.goto X0.here hx rfl (pc0 := 7) (pc' := 11) rfl (hb hby at_7) (by decide) (by decide) ?_
      show Steps p.tables e below (s₁.setTop (mkF m 11 #[.val (.int p1), .val (.int p2), .val (.int p3), .unset, .unset, .unset, .unset, .unset, .unset, .unset, .unset] [(.int (1 : Int32))])) _
      exact k
  generalize hv_d1 : (if (p3 &&& (1 : Int32)) = (0 : Int32) then (0 : Int32) else (1 : Int32)) = d1
  have hb1 := own_bit _ hv_d1
  refine own_go (U' := s₁.setTop (mkF m 12 #[.val (.int p1), .val (.int p2), .val (.int p3), .val (.int d1), .unset, .unset, .unset, .unset, .unset, .unset, .unset] [])) (fun t k => XS.istoreN X0.here hx rfl (hb hby at_11) rfl (l' := #[.val (.int p1), .val (.int p2), .val (.int p3), .val (.int d1), .unset, .unset, .unset, .unset, .unset, .unset, .unset]) rfl k) ?_
  refine own_go (U' := s₁.setTop (mkF m 13 #[.val (.int p1), .val (.int p2), .val (.int p3), .val (.int d1), .unset, .unset, .unset, .unset, .unset, .unset, .unset] [(.int p3)])) (fun t k => XS.iloadN X0.here hx rfl (hb hby at_12) rfl k) ?_
  refine own_go (U' := s₁.setTop (mkF m 14 #[.val (.int p1), .val (.int p2), .val (.int p3), .val (.int d1), .unset, .unset, .unset, .unset, .unset, .unset, .unset] [(.int (2 : Int32)), (.int p3)])) (fun t k => XS.iconst X0.here hx rfl (hb hby at_13) k) ?_
  refine own_go (U' := s₁.setTop (mkF m 15 #[.val (.int p1), .val (.int p2), .val (.int p3), .val (.int d1), .unset, .unset, .unset, .unset, .unset, .unset, .unset] [(.int (p3 &&& (2 : Int32)))])) (fun t k => XS.iand X0.here hx rfl (hb hby at_14) rfl k) ?_
  refine own_go (U' := s₁.setTop (mkF m 23 #[.val (.int p1), .val (.int p2), .val (.int p3), .val (.int d1), .unset, .unset, .unset, .unset, .unset, .unset, .unset] [(.int (if (p3 &&& (2 : Int32)) = (0 : Int32) then (0 : Int32) else (1 : Int32)))])) (fun t k => ?_) ?_
  · show Steps p.tables e below (s₁.setTop (mkF m 15 #[.val (.int p1), .val (.int p2), .val (.int p3), .val (.int d1), .unset, .unset, .unset, .unset, .unset, .unset, .unset] [(.int (p3 &&& (2 : Int32)))])) _
    by_cases hd15 : (p3 &&& (2 : Int32)) = (0 : Int32)
    · simp only [if_pos hd15] at k
      refine XS.ifYes X0.here hx rfl (pc0 := 15) (pc' := 22) rfl (hb hby at_15) rfl ((if0 _ _).trans (teq hd15).1) (by decide) (by decide) ?_
      show Steps p.tables e below (s₁.setTop (mkF m 22 #[.val (.int p1), .val (.int p2), .val (.int p3), .val (.int d1), .unset, .unset, .unset, .unset, .unset, .unset, .unset] [])) _
      refine XS.iconst X0.here hx rfl (hb hby at_22) ?_
      show Steps p.tables e below (s₁.setTop (mkF m 23 #[.val (.int p1), .val (.int p2), .val (.int p3), .val (.int d1), .unset, .unset, .unset, .unset, .unset, .unset, .unset] [(.int (0 : Int32))])) _
      exact k
    · simp only [if_neg hd15] at k
      refine XS.ifNo X0.here hx rfl (hb hby at_15) rfl ((if0 _ _).trans (feq hd15).1) ?_
      show Steps p.tables e below (s₁.setTop (mkF m 18 #[.val (.int p1), .val (.int p2), .val (.int p3), .val (.int d1), .unset, .unset, .unset, .unset, .unset, .unset, .unset] [])) _
      refine XS.iconst X0.here hx rfl (hb hby at_18) ?_
      show Steps p.tables e below (s₁.setTop (mkF m 19 #[.val (.int p1), .val (.int p2), .val (.int p3), .val (.int d1), .unset, .unset, .unset, .unset, .unset, .unset, .unset] [(.int (1 : Int32))])) _
      refine XS.goto X0.here hx rfl (pc0 := 19) (pc' := 23) rfl (hb hby at_19) (by decide) (by decide) ?_
      show Steps p.tables e below (s₁.setTop (mkF m 23 #[.val (.int p1), .val (.int p2), .val (.int p3), .val (.int d1), .unset, .unset, .unset, .unset, .unset, .unset, .unset] [(.int (1 : Int32))])) _
      exact k
  generalize hv_d2 : (if (p3 &&& (2 : Int32)) = (0 : Int32) then (0 : Int32) else (1 : Int32)) = d2
  have hb2 := own_bit _ hv_d2
  refine own_go (U' := s₁.setTop (mkF m 25 #[.val (.int p1), .val (.int p2), .val (.int p3), .val (.int d1), .val (.int d2), .unset, .unset, .unset, .unset, .unset, .unset] [])) (fun t k => XS.istore X0.here hx rfl (hb hby at_23) rfl (l' := #[.val (.int p1), .val (.int p2), .val (.int p3), .val (.int d1), .val (.int d2), .unset, .unset, .unset, .unset, .unset, .unset]) rfl k) ?_
  refine own_go (U' := s₁.setTop (mkF m 26 #[.val (.int p1), .val (.int p2), .val (.int p3), .val (.int d1), .val (.int d2), .unset, .unset, .unset, .unset, .unset, .unset] [(.int p3)])) (fun t k => XS.iloadN X0.here hx rfl (hb hby at_25) rfl k) ?_
  refine own_go (U' := s₁.setTop (mkF m 27 #[.val (.int p1), .val (.int p2), .val (.int p3), .val (.int d1), .val (.int d2), .unset, .unset, .unset, .unset, .unset, .unset] [(.int (4 : Int32)), (.int p3)])) (fun t k => XS.iconst X0.here hx rfl (hb hby at_26) k) ?_
  refine own_go (U' := s₁.setTop (mkF m 28 #[.val (.int p1), .val (.int p2), .val (.int p3), .val (.int d1), .val (.int d2), .unset, .unset, .unset, .unset, .unset, .unset] [(.int (p3 &&& (4 : Int32)))])) (fun t k => XS.iand X0.here hx rfl (hb hby at_27) rfl k) ?_
  refine own_go (U' := s₁.setTop (mkF m 36 #[.val (.int p1), .val (.int p2), .val (.int p3), .val (.int d1), .val (.int d2), .unset, .unset, .unset, .unset, .unset, .unset] [(.int (if (p3 &&& (4 : Int32)) = (0 : Int32) then p2 else p1))])) (fun t k => ?_) ?_
  · show Steps p.tables e below (s₁.setTop (mkF m 28 #[.val (.int p1), .val (.int p2), .val (.int p3), .val (.int d1), .val (.int d2), .unset, .unset, .unset, .unset, .unset, .unset] [(.int (p3 &&& (4 : Int32)))])) _
    by_cases hd28 : (p3 &&& (4 : Int32)) = (0 : Int32)
    · simp only [if_pos hd28] at k
      refine XS.ifYes X0.here hx rfl (pc0 := 28) (pc' := 35) rfl (hb hby at_28) rfl ((if0 _ _).trans (teq hd28).1) (by decide) (by decide) ?_
      show Steps p.tables e below (s₁.setTop (mkF m 35 #[.val (.int p1), .val (.int p2), .val (.int p3), .val (.int d1), .val (.int d2), .unset, .unset, .unset, .unset, .unset, .unset] [])) _
      refine XS.iloadN X0.here hx rfl (hb hby at_35) rfl ?_
      show Steps p.tables e below (s₁.setTop (mkF m 36 #[.val (.int p1), .val (.int p2), .val (.int p3), .val (.int d1), .val (.int d2), .unset, .unset, .unset, .unset, .unset, .unset] [(.int p2)])) _
      exact k
    · simp only [if_neg hd28] at k
      refine XS.ifNo X0.here hx rfl (hb hby at_28) rfl ((if0 _ _).trans (feq hd28).1) ?_
      show Steps p.tables e below (s₁.setTop (mkF m 31 #[.val (.int p1), .val (.int p2), .val (.int p3), .val (.int d1), .val (.int d2), .unset, .unset, .unset, .unset, .unset, .unset] [])) _
      refine XS.iloadN X0.here hx rfl (hb hby at_31) rfl ?_
      show Steps p.tables e below (s₁.setTop (mkF m 32 #[.val (.int p1), .val (.int p2), .val (.int p3), .val (.int d1), .val (.int d2), .unset, .unset, .unset, .unset, .unset, .unset] [(.int p1)])) _
      refine XS.goto X0.here hx rfl (pc0 := 32) (pc' := 36) rfl (hb hby at_32) (by decide) (by decide) ?_
      show Steps p.tables e below (s₁.setTop (mkF m 36 #[.val (.int p1), .val (.int p2), .val (.int p3), .val (.int d1), .val (.int d2), .unset, .unset, .unset, .unset, .unset, .unset] [(.int p1)])) _
      exact k
  generalize hv_v2 : (if (p3 &&& (4 : Int32)) = (0 : Int32) then p2 else p1) = v2
  refine own_go (U' := s₁.setTop (mkF m 38 #[.val (.int p1), .val (.int p2), .val (.int p3), .val (.int d1), .val (.int d2), .val (.int v2), .unset, .unset, .unset, .unset, .unset] [])) (fun t k => XS.istore X0.here hx rfl (hb hby at_36) rfl (l' := #[.val (.int p1), .val (.int p2), .val (.int p3), .val (.int d1), .val (.int d2), .val (.int v2), .unset, .unset, .unset, .unset, .unset]) rfl k) ?_
  obtain ⟨T1, h1, X1, e1, E1, A1, D1, -, st1⟩ := newO X0 hx hZ hown (hw _ (List.mem_of_getElem? (i := 0) rfl)) (hw _ (List.mem_of_getElem? (i := 1) rfl)) (hw _ (List.mem_of_getElem? (i := 2) rfl)) e0 (g := (mkF m 38 #[.val (.int p1), .val (.int p2), .val (.int p3), .val (.int d1), .val (.int d2), .val (.int v2), .unset, .unset, .unset, .unset, .unset] [])) rfl (hb hby at_38) (by decide) (by decide)
  obtain ⟨b1, g1⟩ : ∃ z, z = h0.size := ⟨_, rfl⟩
  rw [← g1] at A1 D1 st1
  have g_b1 : n0 ≤ b1 := Nat.le_trans (Nat.le_trans (Nat.le_of_eq O.1.symm) O.2.1) (Nat.le_of_eq g1.symm)
  have O := O.ext E1
  have E_b1 := A1
  have F_deny_b1 : Fld Z h1 b1 "com/example/keywright/keywright/Snapshot$Setting" "deny" "Z" (.int (0 : Int32)) := D1 (Or.inr (hw _ (List.mem_of_getElem? (i := 39) rfl))) (ty := .boolean) (by decide)
  have F_width_b1 : Fld Z h1 b1 "com/example/keywright/keywright/Snapshot$Setting" "width" "I" (.int (0 : Int32)) := D1 (Or.inr (hw _ (List.mem_of_getElem? (i := 41) rfl))) (ty := .int) (by decide)
  have F_lines_b1 : Fld Z h1 b1 "com/example/keywright/keywright/Snapshot$Setting" "lines" "Ljava/util/List;" .null := D1 (Or.inr (hw _ (List.mem_of_getElem? (i := 43) rfl))) (ty := (.object "java/util/List")) (by decide)
  refine own_go (U' := T1.setTop (mkF m 41 #[.val (.int p1), .val (.int p2), .val (.int p3), .val (.int d1), .val (.int d2), .val (.int v2), .unset, .unset, .unset, .unset, .unset] [(.ref b1)])) st1 ?_
  refine own_go (U' := T1.setTop (mkF m 42 #[.val (.int p1), .val (.int p2), .val (.int p3), .val (.int d1), .val (.int d2), .val (.int v2), .unset, .unset, .unset, .unset, .unset] [(.ref b1), (.ref b1)])) (fun t k => XS.dup X1.here hx rfl (hb hby at_41) rfl rfl k) ?_
  refine own_go (U' := T1.setTop (mkF m 43 #[.val (.int p1), .val (.int p2), .val (.int p3), .val (.int d1), .val (.int d2), .val (.int v2), .unset, .unset, .unset, .unset, .unset] [(.int d1), (.ref b1), (.ref b1)])) (fun t k => XS.iloadN X1.here hx rfl (hb hby at_42) rfl k) ?_
  refine own_go (U' := T1.setTop (mkF m 44 #[.val (.int p1), .val (.int p2), .val (.int p3), .val (.int d1), .val (.int d2), .val (.int v2), .unset, .unset, .unset, .unset, .unset] [(.int p1), (.int d1), (.ref b1), (.ref b1)])) (fun t k => XS.iloadN X1.here hx rfl (hb hby at_43) rfl k) ?_
  obtain ⟨T2, h2, X2, e2, E2, A2, D2, -, st2⟩ := newO X1 hx hZ hown (hw _ (List.mem_of_getElem? (i := 3) rfl)) (hw _ (List.mem_of_getElem? (i := 4) rfl)) (hw _ (List.mem_of_getElem? (i := 5) rfl)) e1 (g := (mkF m 44 #[.val (.int p1), .val (.int p2), .val (.int p3), .val (.int d1), .val (.int d2), .val (.int v2), .unset, .unset, .unset, .unset, .unset] [(.int p1), (.int d1), (.ref b1), (.ref b1)])) rfl (hb hby at_44) (by decide) (by decide)
  obtain ⟨b2, g2⟩ : ∃ z, z = h1.size := ⟨_, rfl⟩
  rw [← g2] at A2 D2 st2
  have ne_b1_b2 : b1 ≠ b2 := Nat.ne_of_lt (Nat.lt_of_lt_of_eq E_b1.lt g2.symm)
  have g_b2 : n0 ≤ b2 := Nat.le_trans (Nat.le_trans (Nat.le_of_eq O.1.symm) O.2.1) (Nat.le_of_eq g2.symm)
  have O := O.ext E2
  have E_b1 := E_b1.ext E2
  have F_deny_b1 := F_deny_b1.ext E2
  have F_width_b1 := F_width_b1.ext E2
  have F_lines_b1 := F_lines_b1.ext E2
  have E_b2 := A2
  have F_modCount_b2 : Fld Z h2 b2 "java/util/AbstractList" "modCount" "I" (.int (0 : Int32)) := D2 (Or.inl (hw _ (List.mem_of_getElem? (i := 25) rfl))) (ty := .int) (by decide)
  have F_elementData_b2 : Fld Z h2 b2 "java/util/ArrayList" "elementData" "[Ljava/lang/Object;" .null := D2 (Or.inl (hw _ (List.mem_of_getElem? (i := 28) rfl))) (ty := (.array (.object "java/lang/Object"))) (by decide)
  refine own_go (U' := T2.setTop (mkF m 47 #[.val (.int p1), .val (.int p2), .val (.int p3), .val (.int d1), .val (.int d2), .val (.int v2), .unset, .unset, .unset, .unset, .unset] [(.ref b2), (.int p1), (.int d1), (.ref b1), (.ref b1)])) st2 ?_
  refine own_go (U' := T2.setTop (mkF m 48 #[.val (.int p1), .val (.int p2), .val (.int p3), .val (.int d1), .val (.int d2), .val (.int v2), .unset, .unset, .unset, .unset, .unset] [(.ref b2), (.ref b2), (.int p1), (.int d1), (.ref b1), (.ref b1)])) (fun t k => XS.dup X2.here hx rfl (hb hby at_47) rfl rfl k) ?_
  obtain ⟨v3, T3, h3, L3, e3, X3, hQ3, st3⟩ := own_callC X2 hx hZ (y := (⟨"java/util/ArrayList", "<init>", "()V"⟩ : MethodName)) rfl hown (hw _ (List.mem_of_getElem? (i := 6) rfl)) (hw _ (List.mem_of_getElem? (i := 7) rfl)) (hw _ (List.mem_of_getElem? (i := 5) rfl)) (hw _ (List.mem_of_getElem? (i := 8) rfl)) (by decide) (a := b2) (own_rmal l Z a0 hw b2 h2 n0 g_b2 _ _ dd O S_dd E_b2 F_modCount_b2 F_elementData_b2) (W := 5) (by decide) (by decide) (g := (mkF m 48 #[.val (.int p1), .val (.int p2), .val (.int p3), .val (.int d1), .val (.int d2), .val (.int v2), .unset, .unset, .unset, .unset, .unset] [(.ref b2), (.ref b2), (.int p1), (.int d1), (.ref b1), (.ref b1)])) rfl (by rw [hml]; rfl) (argsL := []) (rest := [(.ref b2), (.int p1), (.int d1), (.ref b1), (.ref b1)]) (lenOf own_pd0 rfl) rfl rfl (by show 2 * 0 + _ ≤ _; exact Nat.le_of_eq rfl) (hb hby at_48) e2 (by decide) (by decide)
  obtain ⟨rfl, Nq, Kq, Fm, Fe⟩ := hQ3
  have O := O.keep Kq (allS g_b2 all0)
  have E_b1 := E_b1.keep Kq
  have F_deny_b1 := F_deny_b1.keep Kq (ninS ne_b1_b2 nin0)
  have F_width_b1 := F_width_b1.keep Kq (ninS ne_b1_b2 nin0)
  have F_lines_b1 := F_lines_b1.keep Kq (ninS ne_b1_b2 nin0)
  have E_b2 := E_b2.keep Kq
  have F_modCount_b2 := Fm
  have F_elementData_b2 := Fe
  have N3 := Fr.app N0 Nq
  refine own_go (U' := T3.setTop (mkF m 51 #[.val (.int p1), .val (.int p2), .val (.int p3), .val (.int d1), .val (.int d2), .val (.int v2), .unset, .unset, .unset, .unset, .unset] [(.ref b2), (.int p1), (.int d1), (.ref b1), (.ref b1)])) st3 ?_
  obtain ⟨v4, T4, h4, L4, e4, X4, hQ4, st4⟩ := own_callC X3 hx hZ (y := (⟨"com/example/keywright/keywright/Snapshot$Setting", "<init>", "(ZILjava/util/List;)V"⟩ : MethodName)) rfl hown (hw _ (List.mem_of_getElem? (i := 29) rfl)) (hw _ (List.mem_of_getElem? (i := 30) rfl)) (hw _ (List.mem_of_getElem? (i := 2) rfl)) (hw _ (List.mem_of_getElem? (i := 31) rfl)) (by decide) (a := b1) (own_rmsi l Z a0 hw b1 d1 p1 b2 h3 n0 g_b1 _ _ _ (own_nar01 hb1) E_b1 F_deny_b1 F_width_b1 F_lines_b1) (W := 1) (by decide) (by decide) (g := (mkF m 51 #[.val (.int p1), .val (.int p2), .val (.int p3), .val (.int d1), .val (.int d2), .val (.int v2), .unset, .unset, .unset, .unset, .unset] [(.ref b2), (.int p1), (.int d1), (.ref b1), (.ref b1)])) rfl (by rw [hml]; rfl) (argsL := [(.int d1), (.int p1), (.ref b2)]) (rest := [(.ref b1)]) (lenOf own_pd1 rfl) rfl rfl (by show 2 * 0 + _ ≤ _; exact Nat.le_of_eq rfl) (hb hby at_51) e3 (by decide) (by decide)
  obtain ⟨rfl, Nq, Kq, Fd, Fw⟩ := hQ4
  have O := O.keep Kq (allS g_b1 all0)
  have E_b1 := E_b1.keep Kq
  have E_b2 := E_b2.keep Kq
  have F_modCount_b2 := F_modCount_b2.keep Kq (ninS (Ne.symm ne_b1_b2) nin0)
  have F_elementData_b2 := F_elementData_b2.keep Kq (ninS (Ne.symm ne_b1_b2) nin0)
  have F_deny_b1 := Fd
  have F_width_b1 := Fw
  have N4 := Fr.app N3 Nq
  refine own_go (U' := T4.setTop (mkF m 54 #[.val (.int p1), .val (.int p2), .val (.int p3), .val (.int d1), .val (.int d2), .val (.int v2), .unset, .unset, .unset, .unset, .unset] [(.ref b1)])) st4 ?_
  refine own_go (U' := T4.setTop (mkF m 56 #[.val (.int p1), .val (.int p2), .val (.int p3), .val (.int d1), .val (.int d2), .val (.int v2), .val (.ref b1), .unset, .unset, .unset, .unset] [])) (fun t k => XS.astore X4.here hx rfl (hb hby at_54) rfl rfl (l' := #[.val (.int p1), .val (.int p2), .val (.int p3), .val (.int d1), .val (.int d2), .val (.int v2), .val (.ref b1), .unset, .unset, .unset, .unset]) rfl k) ?_
  obtain ⟨T5, h5, X5, e5, E5, A5, D5, -, st5⟩ := newO X4 hx hZ hown (hw _ (List.mem_of_getElem? (i := 0) rfl)) (hw _ (List.mem_of_getElem? (i := 1) rfl)) (hw _ (List.mem_of_getElem? (i := 2) rfl)) e4 (g := (mkF m 56 #[.val (.int p1), .val (.int p2), .val (.int p3), .val (.int d1), .val (.int d2), .val (.int v2), .val (.ref b1), .unset, .unset, .unset, .unset] [])) rfl (hb hby at_56) (by decide) (by decide)
  obtain ⟨b5, g5⟩ : ∃ z, z = h4.size := ⟨_, rfl⟩
  rw [← g5] at A5 D5 st5
  have ne_b1_b5 : b1 ≠ b5 := Nat.ne_of_lt (Nat.lt_of_lt_of_eq E_b1.lt g5.symm)
  have g_b5 : n0 ≤ b5 := Nat.le_trans (Nat.le_trans (Nat.le_of_eq O.1.symm) O.2.1) (Nat.le_of_eq g5.symm)
  have O := O.ext E5
  have E_b1 := E_b1.ext E5
  have F_deny_b1 := F_deny_b1.ext E5
  have F_width_b1 := F_width_b1.ext E5
  have E_b5 := A5
  have F_deny_b5 : Fld Z h5 b5 "com/example/keywright/keywright/Snapshot$Setting" "deny" "Z" (.int (0 : Int32)) := D5 (Or.inr (hw _ (List.mem_of_getElem? (i := 39) rfl))) (ty := .boolean) (by decide)
  have F_width_b5 : Fld Z h5 b5 "com/example/keywright/keywright/Snapshot$Setting" "width" "I" (.int (0 : Int32)) := D5 (Or.inr (hw _ (List.mem_of_getElem? (i := 41) rfl))) (ty := .int) (by decide)
  have F_lines_b5 : Fld Z h5 b5 "com/example/keywright/keywright/Snapshot$Setting" "lines" "Ljava/util/List;" .null := D5 (Or.inr (hw _ (List.mem_of_getElem? (i := 43) rfl))) (ty := (.object "java/util/List")) (by decide)
  refine own_go (U' := T5.setTop (mkF m 59 #[.val (.int p1), .val (.int p2), .val (.int p3), .val (.int d1), .val (.int d2), .val (.int v2), .val (.ref b1), .unset, .unset, .unset, .unset] [(.ref b5)])) st5 ?_
  refine own_go (U' := T5.setTop (mkF m 60 #[.val (.int p1), .val (.int p2), .val (.int p3), .val (.int d1), .val (.int d2), .val (.int v2), .val (.ref b1), .unset, .unset, .unset, .unset] [(.ref b5), (.ref b5)])) (fun t k => XS.dup X5.here hx rfl (hb hby at_59) rfl rfl k) ?_
  refine own_go (U' := T5.setTop (mkF m 62 #[.val (.int p1), .val (.int p2), .val (.int p3), .val (.int d1), .val (.int d2), .val (.int v2), .val (.ref b1), .unset, .unset, .unset, .unset] [(.int d2), (.ref b5), (.ref b5)])) (fun t k => XS.iload X5.here hx rfl (hb hby at_60) rfl k) ?_
  refine own_go (U' := T5.setTop (mkF m 64 #[.val (.int p1), .val (.int p2), .val (.int p3), .val (.int d1), .val (.int d2), .val (.int v2), .val (.ref b1), .unset, .unset, .unset, .unset] [(.int v2), (.int d2), (.ref b5), (.ref b5)])) (fun t k => XS.iload X5.here hx rfl (hb hby at_62) rfl k) ?_
  obtain ⟨T6, h6, X6, e6, E6, A6, D6, -, st6⟩ := newO X5 hx hZ hown (hw _ (List.mem_of_getElem? (i := 3) rfl)) (hw _ (List.mem_of_getElem? (i := 4) rfl)) (hw _ (List.mem_of_getElem? (i := 5) rfl)) e5 (g := (mkF m 64 #[.val (.int p1), .val (.int p2), .val (.int p3), .val (.int d1), .val (.int d2), .val (.int v2), .val (.ref b1), .unset, .unset, .unset, .unset] [(.int v2), (.int d2), (.ref b5), (.ref b5)])) rfl (hb hby at_64) (by decide) (by decide)
  obtain ⟨b6, g6⟩ : ∃ z, z = h5.size := ⟨_, rfl⟩
  rw [← g6] at A6 D6 st6
  have ne_b1_b6 : b1 ≠ b6 := Nat.ne_of_lt (Nat.lt_of_lt_of_eq E_b1.lt g6.symm)
  have ne_b5_b6 : b5 ≠ b6 := Nat.ne_of_lt (Nat.lt_of_lt_of_eq E_b5.lt g6.symm)
  have g_b6 : n0 ≤ b6 := Nat.le_trans (Nat.le_trans (Nat.le_of_eq O.1.symm) O.2.1) (Nat.le_of_eq g6.symm)
  have O := O.ext E6
  have E_b1 := E_b1.ext E6
  have F_deny_b1 := F_deny_b1.ext E6
  have F_width_b1 := F_width_b1.ext E6
  have E_b5 := E_b5.ext E6
  have F_deny_b5 := F_deny_b5.ext E6
  have F_width_b5 := F_width_b5.ext E6
  have F_lines_b5 := F_lines_b5.ext E6
  have E_b6 := A6
  have F_modCount_b6 : Fld Z h6 b6 "java/util/AbstractList" "modCount" "I" (.int (0 : Int32)) := D6 (Or.inl (hw _ (List.mem_of_getElem? (i := 25) rfl))) (ty := .int) (by decide)
  have F_elementData_b6 : Fld Z h6 b6 "java/util/ArrayList" "elementData" "[Ljava/lang/Object;" .null := D6 (Or.inl (hw _ (List.mem_of_getElem? (i := 28) rfl))) (ty := (.array (.object "java/lang/Object"))) (by decide)
  refine own_go (U' := T6.setTop (mkF m 67 #[.val (.int p1), .val (.int p2), .val (.int p3), .val (.int d1), .val (.int d2), .val (.int v2), .val (.ref b1), .unset, .unset, .unset, .unset] [(.ref b6), (.int v2), (.int d2), (.ref b5), (.ref b5)])) st6 ?_
  refine own_go (U' := T6.setTop (mkF m 68 #[.val (.int p1), .val (.int p2), .val (.int p3), .val (.int d1), .val (.int d2), .val (.int v2), .val (.ref b1), .unset, .unset, .unset, .unset] [(.ref b6), (.ref b6), (.int v2), (.int d2), (.ref b5), (.ref b5)])) (fun t k => XS.dup X6.here hx rfl (hb hby at_67) rfl rfl k) ?_
  obtain ⟨v7, T7, h7, L7, e7, X7, hQ7, st7⟩ := own_callC X6 hx hZ (y := (⟨"java/util/ArrayList", "<init>", "()V"⟩ : MethodName)) rfl hown (hw _ (List.mem_of_getElem? (i := 6) rfl)) (hw _ (List.mem_of_getElem? (i := 7) rfl)) (hw _ (List.mem_of_getElem? (i := 5) rfl)) (hw _ (List.mem_of_getElem? (i := 8) rfl)) (by decide) (a := b6) (own_rmal l Z a0 hw b6 h6 n0 g_b6 _ _ dd O S_dd E_b6 F_modCount_b6 F_elementData_b6) (W := 5) (by decide) (by decide) (g := (mkF m 68 #[.val (.int p1), .val (.int p2), .val (.int p3), .val (.int d1), .val (.int d2), .val (.int v2), .val (.ref b1), .unset, .unset, .unset, .unset] [(.ref b6), (.ref b6), (.int v2), (.int d2), (.ref b5), (.ref b5)])) rfl (by rw [hml]; rfl) (argsL := []) (rest := [(.ref b6), (.int v2), (.int d2), (.ref b5), (.ref b5)]) (lenOf own_pd0 rfl) rfl rfl (by show 2 * 0 + _ ≤ _; exact Nat.le_of_eq rfl) (hb hby at_68) e6 (by decide) (by decide)
  obtain ⟨rfl, Nq, Kq, Fm, Fe⟩ := hQ7
  have O := O.keep Kq (allS g_b6 all0)
  have E_b1 := E_b1.keep Kq
  have F_deny_b1 := F_deny_b1.keep Kq (ninS ne_b1_b6 nin0)
  have F_width_b1 := F_width_b1.keep Kq (ninS ne_b1_b6 nin0)
  have E_b5 := E_b5.keep Kq
  have F_deny_b5 := F_deny_b5.keep Kq (ninS ne_b5_b6 nin0)
  have F_width_b5 := F_width_b5.keep Kq (ninS ne_b5_b6 nin0)
  have F_lines_b5 := F_lines_b5.keep Kq (ninS ne_b5_b6 nin0)
  have E_b6 := E_b6.keep Kq
  have F_modCount_b6 := Fm
  have F_elementData_b6 := Fe
  have N7 := Fr.app N4 Nq
  refine own_go (U' := T7.setTop (mkF m 71 #[.val (.int p1), .val (.int p2), .val (.int p3), .val (.int d1), .val (.int d2), .val (.int v2), .val (.ref b1), .unset, .unset, .unset, .unset] [(.ref b6), (.int v2), (.int d2), (.ref b5), (.ref b5)])) st7 ?_
  obtain ⟨v8, T8, h8, L8, e8, X8, hQ8, st8⟩ := own_callC X7 hx hZ (y := (⟨"com/example/keywright/keywright/Snapshot$Setting", "<init>", "(ZILjava/util/List;)V"⟩ : MethodName)) rfl hown (hw _ (List.mem_of_getElem? (i := 29) rfl)) (hw _ (List.mem_of_getElem? (i := 30) rfl)) (hw _ (List.mem_of_getElem? (i := 2) rfl)) (hw _ (List.mem_of_getElem? (i := 31) rfl)) (by decide) (a := b5) (own_rmsi l Z a0 hw b5 d2 v2 b6 h7 n0 g_b5 _ _ _ (own_nar01 hb2) E_b5 F_deny_b5 F_width_b5 F_lines_b5) (W := 1) (by decide) (by decide) (g := (mkF m 71 #[.val (.int p1), .val (.int p2), .val (.int p3), .val (.int d1), .val (.int d2), .val (.int v2), .val (.ref b1), .unset, .unset, .unset, .unset] [(.ref b6), (.int v2), (.int d2), (.ref b5), (.ref b5)])) rfl (by rw [hml]; rfl) (argsL := [(.int d2), (.int v2), (.ref b6)]) (rest := [(.ref b5)]) (lenOf own_pd1 rfl) rfl rfl (by show 2 * 0 + _ ≤ _; exact Nat.le_of_eq rfl) (hb hby at_71) e7 (by decide) (by decide)
  obtain ⟨rfl, Nq, Kq, Fd, Fw⟩ := hQ8
  have O := O.keep Kq (allS g_b5 all0)
  have E_b1 := E_b1.keep Kq
  have F_deny_b1 := F_deny_b1.keep Kq (ninS ne_b1_b5 nin0)
  have F_width_b1 := F_width_b1.keep Kq (ninS ne_b1_b5 nin0)
  have E_b5 := E_b5.keep Kq
  have E_b6 := E_b6.keep Kq
  have F_modCount_b6 := F_modCount_b6.keep Kq (ninS (Ne.symm ne_b5_b6) nin0)
  have F_elementData_b6 := F_elementData_b6.keep Kq (ninS (Ne.symm ne_b5_b6) nin0)
  have F_deny_b5 := Fd
  have F_width_b5 := Fw
  have N8 := Fr.app N7 Nq
  refine own_go (U' := T8.setTop (mkF m 74 #[.val (.int p1), .val (.int p2), .val (.int p3), .val (.int d1), .val (.int d2), .val (.int v2), .val (.ref b1), .unset, .unset, .unset, .unset] [(.ref b5)])) st8 ?_
  refine own_go (U' := T8.setTop (mkF m 76 #[.val (.int p1), .val (.int p2), .val (.int p3), .val (.int d1), .val (.int d2), .val (.int v2), .val (.ref b1), .val (.ref b5), .unset, .unset, .unset] [])) (fun t k => XS.astore X8.here hx rfl (hb hby at_74) rfl rfl (l' := #[.val (.int p1), .val (.int p2), .val (.int p3), .val (.int d1), .val (.int d2), .val (.int v2), .val (.ref b1), .val (.ref b5), .unset, .unset, .unset]) rfl k) ?_
  refine own_go (U' := T8.setTop (mkF m 78 #[.val (.int p1), .val (.int p2), .val (.int p3), .val (.int d1), .val (.int d2), .val (.int v2), .val (.ref b1), .val (.ref b5), .unset, .unset, .unset] [(.ref b1)])) (fun t k => XS.aload X8.here hx rfl (hb hby at_76) rfl rfl k) ?_
  refine own_go (U' := T8.setTop (mkF m 80 #[.val (.int p1), .val (.int p2), .val (.int p3), .val (.int d1), .val (.int d2), .val (.int v2), .val (.ref b1), .val (.ref b5), .unset, .unset, .unset] [(.ref b5), (.ref b1)])) (fun t k => XS.aload X8.here hx rfl (hb hby at_78) rfl rfl k) ?_
  obtain ⟨v9, T9, h9, L9, e9, X9, hQ9, st9⟩ := own_callS X8 hx hZ (y := (⟨"com/example/keywright/keywright/Snapshot$Setting", "stronger", "(Lcom/example/keywright/keywright/Snapshot$Setting;Lcom/example/keywright/keywright/Snapshot$Setting;)Lcom/example/keywright/keywright/Snapshot$Setting;"⟩ : MethodName)) hown (hw _ (List.mem_of_getElem? (i := 44) rfl)) (hw _ (List.mem_of_getElem? (i := 45) rfl)) (hw _ (List.mem_of_getElem? (i := 2) rfl)) (hw _ (List.mem_of_getElem? (i := 46) rfl)) (by decide) (own_rmst l Z a0 hw b1 b5 h8 p1 v2 d1 F_width_b1 F_width_b5 F_deny_b1) (W := 0) (by decide) (by decide) (g := (mkF m 80 #[.val (.int p1), .val (.int p2), .val (.int p3), .val (.int d1), .val (.int d2), .val (.int v2), .val (.ref b1), .val (.ref b5), .unset, .unset, .unset] [(.ref b5), (.ref b1)])) rfl (by rw [hml]; rfl) (argsL := [(.ref b1), (.ref b5)]) (rest := []) (lenOf own_pd2 rfl) rfl rfl (by show 2 * 0 + _ ≤ _; exact Nat.le_of_eq rfl) (hb hby at_80) e8 (by decide) (by decide)
  obtain ⟨r, ⟨rfl, rfl, eh9⟩, hr⟩ := hQ9
  have e9 := e9.trans eh9
  rw [List.append_nil] at X9
  rcases hr with ⟨rfl, hr⟩ | ⟨rfl, hr⟩
  · have hP := own_pA (d2 := d2) hb1 hr
    refine own_go (U' := T9.setTop (mkF m 83 #[.val (.int p1), .val (.int p2), .val (.int p3), .val (.int d1), .val (.int d2), .val (.int v2), .val (.ref r), .val (.ref b5), .unset, .unset, .unset] [(.ref r)])) st9 ?_
    refine own_go (U' := T9.setTop (mkF m 85 #[.val (.int p1), .val (.int p2), .val (.int p3), .val (.int d1), .val (.int d2), .val (.int v2), .val (.ref r), .val (.ref b5), .val (.ref r), .unset, .unset] [])) (fun t k => XS.astore X9.here hx rfl (hb hby at_83) rfl rfl (l' := #[.val (.int p1), .val (.int p2), .val (.int p3), .val (.int d1), .val (.int d2), .val (.int v2), .val (.ref r), .val (.ref b5), .val (.ref r), .unset, .unset]) rfl k) ?_
    refine own_go (U' := T9.setTop (mkF m 87 #[.val (.int p1), .val (.int p2), .val (.int p3), .val (.int d1), .val (.int d2), .val (.int v2), .val (.ref r), .val (.ref b5), .val (.ref r), .unset, .unset] [(.ref r)])) (fun t k => XS.aload X9.here hx rfl (hb hby at_85) rfl rfl k) ?_
    refine own_go (U' := T9.setTop (mkF m 89 #[.val (.int p1), .val (.int p2), .val (.int p3), .val (.int d1), .val (.int d2), .val (.int v2), .val (.ref r), .val (.ref b5), .val (.ref r), .unset, .unset] [(.ref r), (.ref r)])) (fun t k => XS.aload X9.here hx rfl (hb hby at_87) rfl rfl k) ?_
    refine own_go (U' := T9.setTop (mkF m 101 #[.val (.int p1), .val (.int p2), .val (.int p3), .val (.int d1), .val (.int d2), .val (.int v2), .val (.ref r), .val (.ref b5), .val (.ref r), .unset, .unset] [])) (fun t k => Jvm.RoadKit.acmp (g := (mkF m 89 #[.val (.int p1), .val (.int p2), .val (.int p3), .val (.int d1), .val (.int d2), .val (.int v2), .val (.ref r), .val (.ref b5), .val (.ref r), .unset, .unset] [(.ref r), (.ref r)])) X9 hx rfl rfl rfl (pc0 := 89) (pc' := 101) (same := true) rfl (hb hby at_89) rfl (decide_eq_true (congrArg Value.ref rfl)) (by decide) (by decide) k) ?_
    refine own_go (U' := T9.setTop (mkF m 102 #[.val (.int p1), .val (.int p2), .val (.int p3), .val (.int d1), .val (.int d2), .val (.int v2), .val (.ref r), .val (.ref b5), .val (.ref r), .unset, .unset] [(.int p1)])) (fun t k => XS.iloadN X9.here hx rfl (hb hby at_101) rfl k) ?_
    refine own_go (U' := T9.setTop (mkF m 104 #[.val (.int p1), .val (.int p2), .val (.int p3), .val (.int d1), .val (.int d2), .val (.int v2), .val (.ref r), .val (.ref b5), .val (.ref r), .unset, .unset] [(.int v2), (.int p1)])) (fun t k => XS.iload X9.here hx rfl (hb hby at_102) rfl k) ?_
    obtain ⟨v10, T10, h10, L10, e10, X10, hQ10, st10⟩ := own_callS X9 hx hZ (y := (⟨"java/lang/Math", "min", "(II)I"⟩ : MethodName)) hown (hw _ (List.mem_of_getElem? (i := 47) rfl)) (hw _ (List.mem_of_getElem? (i := 48) rfl)) (hw _ (List.mem_of_getElem? (i := 49) rfl)) (hw _ (List.mem_of_getElem? (i := 50) rfl)) (by decide) (own_rmmi l Z a0 hw p1 v2 h8) (W := 0) (by decide) (by decide) (g := (mkF m 104 #[.val (.int p1), .val (.int p2), .val (.int p3), .val (.int d1), .val (.int d2), .val (.int v2), .val (.ref r), .val (.ref b5), .val (.ref r), .unset, .unset] [(.int v2), (.int p1)])) rfl (by rw [hml]; rfl) (argsL := [(.int p1), (.int v2)]) (rest := []) (lenOf own_pd3 rfl) rfl rfl (by show 2 * 0 + _ ≤ _; exact Nat.le_of_eq rfl) (hb hby at_104) e9 (by decide) (by decide)
    obtain ⟨rfl, rfl, eh10⟩ := hQ10
    have e10 := e10.trans eh10
    rw [List.append_nil] at X10
    refine own_go (U' := T10.setTop (mkF m 107 #[.val (.int p1), .val (.int p2), .val (.int p3), .val (.int d1), .val (.int d2), .val (.int v2), .val (.ref r), .val (.ref b5), .val (.ref r), .unset, .unset] [(.int (own_min p1 v2))])) st10 ?_
    refine own_go (U' := T10.setTop (mkF m 109 #[.val (.int p1), .val (.int p2), .val (.int p3), .val (.int d1), .val (.int d2), .val (.int v2), .val (.ref r), .val (.ref b5), .val (.ref r), .val (.int (own_min p1 v2)), .unset] [])) (fun t k => XS.istore X10.here hx rfl (hb hby at_107) rfl (l' := #[.val (.int p1), .val (.int p2), .val (.int p3), .val (.int d1), .val (.int d2), .val (.int v2), .val (.ref r), .val (.ref b5), .val (.ref r), .val (.int (own_min p1 v2)), .unset]) rfl k) ?_
    refine own_go (U' := T10.setTop (mkF m 110 #[.val (.int p1), .val (.int p2), .val (.int p3), .val (.int d1), .val (.int d2), .val (.int v2), .val (.ref r), .val (.ref b5), .val (.ref r), .val (.int (own_min p1 v2)), .unset] [(.int d1)])) (fun t k => XS.iloadN X10.here hx rfl (hb hby at_109) rfl k) ?_
    refine own_go (U' := T10.setTop (mkF m 136 #[.val (.int p1), .val (.int p2), .val (.int p3), .val (.int d1), .val (.int d2), .val (.int v2), .val (.ref r), .val (.ref b5), .val (.ref r), .val (.int (own_min p1 v2)), .unset] [(.int (if d1 = (0 : Int32) then (if d2 = (0 : Int32) then (0 : Int32) else (if v2 = (own_min p1 v2) then (1 : Int32) else (0 : Int32))) else (if p1 = (own_min p1 v2) then (1 : Int32) else (if d2 = (0 : Int32) then (0 : Int32) else (if v2 = (own_min p1 v2) then (1 : Int32) else (0 : Int32))))))])) (fun t k => ?_) ?_
    · show Steps p.tables e below (T10.setTop (mkF m 110 #[.val (.int p1), .val (.int p2), .val (.int p3), .val (.int d1), .val (.int d2), .val (.int v2), .val (.ref r), .val (.ref b5), .val (.ref r), .val (.int (own_min p1 v2)), .unset] [(.int d1)])) _
      by_cases hd110 : d1 = (0 : Int32)
      · simp only [if_pos hd110] at k
        refine XS.ifYes X10.here hx rfl (pc0 := 110) (pc' := 119) rfl (hb hby at_110) rfl ((if0 _ _).trans (teq hd110).1) (by decide) (by decide) ?_
        show Steps p.tables e below (T10.setTop (mkF m 119 #[.val (.int p1), .val (.int p2), .val (.int p3), .val (.int d1), .val (.int d2), .val (.int v2), .val (.ref r), .val (.ref b5), .val (.ref r), .val (.int (own_min p1 v2)), .unset] [])) _
        refine XS.iload X10.here hx rfl (hb hby at_119) rfl ?_
        show Steps p.tables e below (T10.setTop (mkF m 121 #[.val (.int p1), .val (.int p2), .val (.int p3), .val (.int d1), .val (.int d2), .val (.int v2), .val (.ref r), .val (.ref b5), .val (.ref r), .val (.int (own_min p1 v2)), .unset] [(.int d2)])) _
        by_cases hd121 : d2 = (0 : Int32)
        · simp only [if_pos hd121] at k
          refine XS.ifYes X10.here hx rfl (pc0 := 121) (pc' := 135) rfl (hb hby at_121) rfl ((if0 _ _).trans (teq hd121).1) (by decide) (by decide) ?_
          show Steps p.tables e below (T10.setTop (mkF m 135 #[.val (.int p1), .val (.int p2), .val (.int p3), .val (.int d1), .val (.int d2), .val (.int v2), .val (.ref r), .val (.ref b5), .val (.ref r), .val (.int (own_min p1 v2)), .unset] [])) _
          refine XS.iconst X10.here hx rfl (hb hby at_135) ?_
          show Steps p.tables e below (T10.setTop (mkF m 136 #[.val (.int p1), .val (.int p2), .val (.int p3), .val (.int d1), .val (.int d2), .val (.int v2), .val (.ref r), .val (.ref b5), .val (.ref r), .val (.int (own_min p1 v2)), .unset] [(.int (0 : Int32))])) _
          exact k
        · simp only [if_neg hd121] at k
          refine XS.ifNo X10.here hx rfl (hb hby at_121) rfl ((if0 _ _).trans (feq hd121).1) ?_
          show Steps p.tables e below (T10.setTop (mkF m 124 #[.val (.int p1), .val (.int p2), .val (.int p3), .val (.int d1), .val (.int d2), .val (.int v2), .val (.ref r), .val (.ref b5), .val (.ref r), .val (.int (own_min p1 v2)), .unset] [])) _
          refine XS.iload X10.here hx rfl (hb hby at_124) rfl ?_
          show Steps p.tables e below (T10.setTop (mkF m 126 #[.val (.int p1), .val (.int p2), .val (.int p3), .val (.int d1), .val (.int d2), .val (.int v2), .val (.ref r), .val (.ref b5), .val (.ref r), .val (.int (own_min p1 v2)), .unset] [(.int v2)])) _
          refine XS.iload X10.here hx rfl (hb hby at_126) rfl ?_
          show Steps p.tables e below (T10.setTop (mkF m 128 #[.val (.int p1), .val (.int p2), .val (.int p3), .val (.int d1), .val (.int d2), .val (.int v2), .val (.ref r), .val (.ref b5), .val (.ref r), .val (.int (own_min p1 v2)), .unset] [(.int (own_min p1 v2)), (.int v2)])) _
          by_cases hd128 : v2 = (own_min p1 v2)
          · simp only [if_pos hd128] at k
            refine XS.icmpNo X10.here hx rfl (hb hby at_128) rfl (teq hd128).2 ?_
            show Steps p.tables e below (T10.setTop (mkF m 131 #[.val (.int p1), .val (.int p2), .val (.int p3), .val (.int d1), .val (.int d2), .val (.int v2), .val (.ref r), .val (.ref b5), .val (.ref r), .val (.int (own_min p1 v2)), .unset] [])) _
            refine XS.iconst X10.here hx rfl (hb hby at_131) ?_
            show Steps p.tables e below (T10.setTop (mkF m 132 #[.val (.int p1), .val (.int p2), .val (.int p3), .val (.int d1), .val (.int d2), .val (.int v2), .val (.ref r), .val (.ref b5), .val (.ref r), .val (.int (own_min p1 v2)), .unset] [(.int (1 : Int32))])) _
            refine XS.goto X10.here hx rfl (pc0 := 132) (pc' := 136) rfl (hb hby at_132) (by decide) (by decide) ?_
            show Steps p.tables e below (T10.setTop (mkF m 136 #[.val (.int p1), .val (.int p2), .val (.int p3), .val (.int d1), .val (.int d2), .val (.int v2), .val (.ref r), .val (.ref b5), .val (.ref r), .val (.int (own_min p1 v2)), .unset] [(.int (1 : Int32))])) _
            exact k
          · simp only [if_neg hd128] at k
            refine XS.icmpYes X10.here hx rfl (pc0 := 128) (pc' := 135) rfl (hb hby at_128) rfl (feq hd128).2 (by decide) (by decide) ?_
            show Steps p.tables e below (T10.setTop (mkF m 135 #[.val (.int p1), .val (.int p2), .val (.int p3), .val (.int d1), .val (.int d2), .val (.int v2), .val (.ref r), .val (.ref b5), .val (.ref r), .val (.int (own_min p1 v2)), .unset] [])) _
            refine XS.iconst X10.here hx rfl (hb hby at_135) ?_
            show Steps p.tables e below (T10.setTop (mkF m 136 #[.val (.int p1), .val (.int p2), .val (.int p3), .val (.int d1), .val (.int d2), .val (.int v2), .val (.ref r), .val (.ref b5), .val (.ref r), .val (.int (own_min p1 v2)), .unset] [(.int (0 : Int32))])) _
            exact k
      · simp only [if_neg hd110] at k
        refine XS.ifNo X10.here hx rfl (hb hby at_110) rfl ((if0 _ _).trans (feq hd110).1) ?_
        show Steps p.tables e below (T10.setTop (mkF m 113 #[.val (.int p1), .val (.int p2), .val (.int p3), .val (.int d1), .val (.int d2), .val (.int v2), .val (.ref r), .val (.ref b5), .val (.ref r), .val (.int (own_min p1 v2)), .unset] [])) _
        refine XS.iloadN X10.here hx rfl (hb hby at_113) rfl ?_
        show Steps p.tables e below (T10.setTop (mkF m 114 #[.val (.int p1), .val (.int p2), .val (.int p3), .val (.int d1), .val (.int d2), .val (.int v2), .val (.ref r), .val (.ref b5), .val (.ref r), .val (.int (own_min p1 v2)), .unset] [(.int p1)])) _
        refine XS.iload X10.here hx rfl (hb hby at_114) rfl ?_
        show Steps p.tables e below (T10.setTop (mkF m 116 #[.val (.int p1), .val (.int p2), .val (.int p3), .val (.int d1), .val (.int d2), .val (.int v2), .val (.ref r), .val (.ref b5), .val (.ref r), .val (.int (own_min p1 v2)), .unset] [(.int (own_min p1 v2)), (.int p1)])) _
        by_cases hd116 : p1 = (own_min p1 v2)
        · simp only [if_pos hd116] at k
          refine XS.icmpYes X10.here hx rfl (pc0 := 116) (pc' := 131) rfl (hb hby at_116) rfl (teq hd116).1 (by decide) (by decide) ?_
          show Steps p.tables e below (T10.setTop (mkF m 131 #[.val (.int p1), .val (.int p2), .val (.int p3), .val (.int d1), .val (.int d2), .val (.int v2), .val (.ref r), .val (.ref b5), .val (.ref r), .val (.int (own_min p1 v2)), .unset] [])) _
          refine XS.iconst X10.here hx rfl (hb hby at_131) ?_
          show Steps p.tables e below (T10.setTop (mkF m 132 #[.val (.int p1), .val (.int p2), .val (.int p3), .val (.int d1), .val (.int d2), .val (.int v2), .val (.ref r), .val (.ref b5), .val (.ref r), .val (.int (own_min p1 v2)), .unset] [(.int (1 : Int32))])) _
          refine XS.goto X10.here hx rfl (pc0 := 132) (pc' := 136) rfl (hb hby at_132) (by decide) (by decide) ?_
          show Steps p.tables e below (T10.setTop (mkF m 136 #[.val (.int p1), .val (.int p2), .val (.int p3), .val (.int d1), .val (.int d2), .val (.int v2), .val (.ref r), .val (.ref b5), .val (.ref r), .val (.int (own_min p1 v2)), .unset] [(.int (1 : Int32))])) _
          exact k
        · simp only [if_neg hd116] at k
          refine XS.icmpNo X10.here hx rfl (hb hby at_116) rfl (feq hd116).1 ?_
          show Steps p.tables e below (T10.setTop (mkF m 119 #[.val (.int p1), .val (.int p2), .val (.int p3), .val (.int d1), .val (.int d2), .val (.int v2), .val (.ref r), .val (.ref b5), .val (.ref r), .val (.int (own_min p1 v2)), .unset] [])) _
          refine XS.iload X10.here hx rfl (hb hby at_119) rfl ?_
          show Steps p.tables e below (T10.setTop (mkF m 121 #[.val (.int p1), .val (.int p2), .val (.int p3), .val (.int d1), .val (.int d2), .val (.int v2), .val (.ref r), .val (.ref b5), .val (.ref r), .val (.int (own_min p1 v2)), .unset] [(.int d2)])) _
          by_cases hd121 : d2 = (0 : Int32)
          · simp only [if_pos hd121] at k
            refine XS.ifYes X10.here hx rfl (pc0 := 121) (pc' := 135) rfl (hb hby at_121) rfl ((if0 _ _).trans (teq hd121).1) (by decide) (by decide) ?_
            show Steps p.tables e below (T10.setTop (mkF m 135 #[.val (.int p1), .val (.int p2), .val (.int p3), .val (.int d1), .val (.int d2), .val (.int v2), .val (.ref r), .val (.ref b5), .val (.ref r), .val (.int (own_min p1 v2)), .unset] [])) _
            refine XS.iconst X10.here hx rfl (hb hby at_135) ?_
            show Steps p.tables e below (T10.setTop (mkF m 136 #[.val (.int p1), .val (.int p2), .val (.int p3), .val (.int d1), .val (.int d2), .val (.int v2), .val (.ref r), .val (.ref b5), .val (.ref r), .val (.int (own_min p1 v2)), .unset] [(.int (0 : Int32))])) _
            exact k
          · simp only [if_neg hd121] at k
            refine XS.ifNo X10.here hx rfl (hb hby at_121) rfl ((if0 _ _).trans (feq hd121).1) ?_
            show Steps p.tables e below (T10.setTop (mkF m 124 #[.val (.int p1), .val (.int p2), .val (.int p3), .val (.int d1), .val (.int d2), .val (.int v2), .val (.ref r), .val (.ref b5), .val (.ref r), .val (.int (own_min p1 v2)), .unset] [])) _
            refine XS.iload X10.here hx rfl (hb hby at_124) rfl ?_
            show Steps p.tables e below (T10.setTop (mkF m 126 #[.val (.int p1), .val (.int p2), .val (.int p3), .val (.int d1), .val (.int d2), .val (.int v2), .val (.ref r), .val (.ref b5), .val (.ref r), .val (.int (own_min p1 v2)), .unset] [(.int v2)])) _
            refine XS.iload X10.here hx rfl (hb hby at_126) rfl ?_
            show Steps p.tables e below (T10.setTop (mkF m 128 #[.val (.int p1), .val (.int p2), .val (.int p3), .val (.int d1), .val (.int d2), .val (.int v2), .val (.ref r), .val (.ref b5), .val (.ref r), .val (.int (own_min p1 v2)), .unset] [(.int (own_min p1 v2)), (.int v2)])) _
            by_cases hd128 : v2 = (own_min p1 v2)
            · simp only [if_pos hd128] at k
              refine XS.icmpNo X10.here hx rfl (hb hby at_128) rfl (teq hd128).2 ?_
              show Steps p.tables e below (T10.setTop (mkF m 131 #[.val (.int p1), .val (.int p2), .val (.int p3), .val (.int d1), .val (.int d2), .val (.int v2), .val (.ref r), .val (.ref b5), .val (.ref r), .val (.int (own_min p1 v2)), .unset] [])) _
              refine XS.iconst X10.here hx rfl (hb hby at_131) ?_
              show Steps p.tables e below (T10.setTop (mkF m 132 #[.val (.int p1), .val (.int p2), .val (.int p3), .val (.int d1), .val (.int d2), .val (.int v2), .val (.ref r), .val (.ref b5), .val (.ref r), .val (.int (own_min p1 v2)), .unset] [(.int (1 : Int32))])) _
              refine XS.goto X10.here hx rfl (pc0 := 132) (pc' := 136) rfl (hb hby at_132) (by decide) (by decide) ?_
              show Steps p.tables e below (T10.setTop (mkF m 136 #[.val (.int p1), .val (.int p2), .val (.int p3), .val (.int d1), .val (.int d2), .val (.int v2), .val (.ref r), .val (.ref b5), .val (.ref r), .val (.int (own_min p1 v2)), .unset] [(.int (1 : Int32))])) _
              exact k
            · simp only [if_neg hd128] at k
              refine XS.icmpYes X10.here hx rfl (pc0 := 128) (pc' := 135) rfl (hb hby at_128) rfl (feq hd128).2 (by decide) (by decide) ?_
              show Steps p.tables e below (T10.setTop (mkF m 135 #[.val (.int p1), .val (.int p2), .val (.int p3), .val (.int d1), .val (.int d2), .val (.int v2), .val (.ref r), .val (.ref b5), .val (.ref r), .val (.int (own_min p1 v2)), .unset] [])) _
              refine XS.iconst X10.here hx rfl (hb hby at_135) ?_
              show Steps p.tables e below (T10.setTop (mkF m 136 #[.val (.int p1), .val (.int p2), .val (.int p3), .val (.int d1), .val (.int d2), .val (.int v2), .val (.ref r), .val (.ref b5), .val (.ref r), .val (.int (own_min p1 v2)), .unset] [(.int (0 : Int32))])) _
              exact k
    refine own_go (U' := T10.setTop (mkF m 138 #[.val (.int p1), .val (.int p2), .val (.int p3), .val (.int d1), .val (.int d2), .val (.int v2), .val (.ref r), .val (.ref b5), .val (.ref r), .val (.int (own_min p1 v2)), .val (.int (if d1 = (0 : Int32) then (if d2 = (0 : Int32) then (0 : Int32) else (if v2 = (own_min p1 v2) then (1 : Int32) else (0 : Int32))) else (if p1 = (own_min p1 v2) then (1 : Int32) else (if d2 = (0 : Int32) then (0 : Int32) else (if v2 = (own_min p1 v2) then (1 : Int32) else (0 : Int32))))))] [])) (fun t k => XS.istore X10.here hx rfl (hb hby at_136) rfl (l' := #[.val (.int p1), .val (.int p2), .val (.int p3), .val (.int d1), .val (.int d2), .val (.int v2), .val (.ref r), .val (.ref b5), .val (.ref r), .val (.int (own_min p1 v2)), .val (.int (if d1 = (0 : Int32) then (if d2 = (0 : Int32) then (0 : Int32) else (if v2 = (own_min p1 v2) then (1 : Int32) else (0 : Int32))) else (if p1 = (own_min p1 v2) then (1 : Int32) else (if d2 = (0 : Int32) then (0 : Int32) else (if v2 = (own_min p1 v2) then (1 : Int32) else (0 : Int32))))))]) rfl k) ?_
    refine own_go (U' := T10.setTop (mkF m 140 #[.val (.int p1), .val (.int p2), .val (.int p3), .val (.int d1), .val (.int d2), .val (.int v2), .val (.ref r), .val (.ref b5), .val (.ref r), .val (.int (own_min p1 v2)), .val (.int (if d1 = (0 : Int32) then (if d2 = (0 : Int32) then (0 : Int32) else (if v2 = (own_min p1 v2) then (1 : Int32) else (0 : Int32))) else (if p1 = (own_min p1 v2) then (1 : Int32) else (if d2 = (0 : Int32) then (0 : Int32) else (if v2 = (own_min p1 v2) then (1 : Int32) else (0 : Int32))))))] [(.ref r)])) (fun t k => XS.aload X10.here hx rfl (hb hby at_138) rfl rfl k) ?_
    obtain ⟨v11, T11, h11, L11, e11, X11, hQ11, st11⟩ := own_callV X10 hx hZ (y := (⟨"com/example/keywright/keywright/Snapshot$Setting", "width", "()I"⟩ : MethodName)) (z := (⟨"com/example/keywright/keywright/Snapshot$Setting", "width", "()I"⟩ : MethodName)) hown (hw _ (List.mem_of_getElem? (i := 51) rfl)) (hw _ (List.mem_of_getElem? (i := 52) rfl)) (notFace_of_selects (args := #[]) (mvT hZ (hw _ (List.mem_of_getElem? (i := 54) rfl)))) (hw _ (List.mem_of_getElem? (i := 54) rfl)) (hw _ (List.mem_of_getElem? (i := 53) rfl)) (hw _ (List.mem_of_getElem? (i := 2) rfl)) (hw _ (List.mem_of_getElem? (i := 55) rfl)) (by decide) E_b1 (own_rmgw l Z a0 hw r h8 p1 F_width_b1) (W := 0) (by decide) (by decide) (g := (mkF m 140 #[.val (.int p1), .val (.int p2), .val (.int p3), .val (.int d1), .val (.int d2), .val (.int v2), .val (.ref r), .val (.ref b5), .val (.ref r), .val (.int (own_min p1 v2)), .val (.int (if d1 = (0 : Int32) then (if d2 = (0 : Int32) then (0 : Int32) else (if v2 = (own_min p1 v2) then (1 : Int32) else (0 : Int32))) else (if p1 = (own_min p1 v2) then (1 : Int32) else (if d2 = (0 : Int32) then (0 : Int32) else (if v2 = (own_min p1 v2) then (1 : Int32) else (0 : Int32))))))] [(.ref r)])) rfl (by rw [hml]; rfl) (argsL := []) (rest := []) (lenOf own_pd4 rfl) rfl rfl (by show 2 * 0 + _ ≤ _; exact Nat.le_of_eq rfl) (hb hby at_140) e10 (by decide) (by decide)
    obtain ⟨rfl, rfl, eh11⟩ := hQ11
    have e11 := e11.trans eh11
    rw [List.append_nil] at X11
    refine own_go (U' := T11.setTop (mkF m 143 #[.val (.int p1), .val (.int p2), .val (.int p3), .val (.int d1), .val (.int d2), .val (.int v2), .val (.ref r), .val (.ref b5), .val (.ref r), .val (.int (own_min p1 v2)), .val (.int (if d1 = (0 : Int32) then (if d2 = (0 : Int32) then (0 : Int32) else (if v2 = (own_min p1 v2) then (1 : Int32) else (0 : Int32))) else (if p1 = (own_min p1 v2) then (1 : Int32) else (if d2 = (0 : Int32) then (0 : Int32) else (if v2 = (own_min p1 v2) then (1 : Int32) else (0 : Int32))))))] [(.int p1)])) st11 ?_
    refine own_go (U' := T11.setTop (mkF m 145 #[.val (.int p1), .val (.int p2), .val (.int p3), .val (.int d1), .val (.int d2), .val (.int v2), .val (.ref r), .val (.ref b5), .val (.ref r), .val (.int (own_min p1 v2)), .val (.int (if d1 = (0 : Int32) then (if d2 = (0 : Int32) then (0 : Int32) else (if v2 = (own_min p1 v2) then (1 : Int32) else (0 : Int32))) else (if p1 = (own_min p1 v2) then (1 : Int32) else (if d2 = (0 : Int32) then (0 : Int32) else (if v2 = (own_min p1 v2) then (1 : Int32) else (0 : Int32))))))] [(.int (own_min p1 v2)), (.int p1)])) (fun t k => XS.iload X11.here hx rfl (hb hby at_143) rfl k) ?_
    refine own_go (U' := T11.setTop (mkF m 148 #[.val (.int p1), .val (.int p2), .val (.int p3), .val (.int d1), .val (.int d2), .val (.int v2), .val (.ref r), .val (.ref b5), .val (.ref r), .val (.int (own_min p1 v2)), .val (.int (if d1 = (0 : Int32) then (if d2 = (0 : Int32) then (0 : Int32) else (if v2 = (own_min p1 v2) then (1 : Int32) else (0 : Int32))) else (if p1 = (own_min p1 v2) then (1 : Int32) else (if d2 = (0 : Int32) then (0 : Int32) else (if v2 = (own_min p1 v2) then (1 : Int32) else (0 : Int32))))))] [])) (fun t k => XS.icmpNo X11.here hx rfl (hb hby at_145) rfl (teq hP.1).2 k) ?_
    refine own_go (U' := T11.setTop (mkF m 150 #[.val (.int p1), .val (.int p2), .val (.int p3), .val (.int d1), .val (.int d2), .val (.int v2), .val (.ref r), .val (.ref b5), .val (.ref r), .val (.int (own_min p1 v2)), .val (.int (if d1 = (0 : Int32) then (if d2 = (0 : Int32) then (0 : Int32) else (if v2 = (own_min p1 v2) then (1 : Int32) else (0 : Int32))) else (if p1 = (own_min p1 v2) then (1 : Int32) else (if d2 = (0 : Int32) then (0 : Int32) else (if v2 = (own_min p1 v2) then (1 : Int32) else (0 : Int32))))))] [(.ref r)])) (fun t k => XS.aload X11.here hx rfl (hb hby at_148) rfl rfl k) ?_
    obtain ⟨v12, T12, h12, L12, e12, X12, hQ12, st12⟩ := own_callV X11 hx hZ (y := (⟨"com/example/keywright/keywright/Snapshot$Setting", "deny", "()Z"⟩ : MethodName)) (z := (⟨"com/example/keywright/keywright/Snapshot$Setting", "deny", "()Z"⟩ : MethodName)) hown (hw _ (List.mem_of_getElem? (i := 56) rfl)) (hw _ (List.mem_of_getElem? (i := 57) rfl)) (notFace_of_selects (args := #[]) (mvT hZ (hw _ (List.mem_of_getElem? (i := 59) rfl)))) (hw _ (List.mem_of_getElem? (i := 59) rfl)) (hw _ (List.mem_of_getElem? (i := 58) rfl)) (hw _ (List.mem_of_getElem? (i := 2) rfl)) (hw _ (List.mem_of_getElem? (i := 60) rfl)) (by decide) E_b1 (own_rmgd l Z a0 hw r h8 d1 (own_nar01 hb1) F_deny_b1) (W := 0) (by decide) (by decide) (g := (mkF m 150 #[.val (.int p1), .val (.int p2), .val (.int p3), .val (.int d1), .val (.int d2), .val (.int v2), .val (.ref r), .val (.ref b5), .val (.ref r), .val (.int (own_min p1 v2)), .val (.int (if d1 = (0 : Int32) then (if d2 = (0 : Int32) then (0 : Int32) else (if v2 = (own_min p1 v2) then (1 : Int32) else (0 : Int32))) else (if p1 = (own_min p1 v2) then (1 : Int32) else (if d2 = (0 : Int32) then (0 : Int32) else (if v2 = (own_min p1 v2) then (1 : Int32) else (0 : Int32))))))] [(.ref r)])) rfl (by rw [hml]; rfl) (argsL := []) (rest := []) (lenOf own_pd5 rfl) rfl rfl (by show 2 * 0 + _ ≤ _; exact Nat.le_of_eq rfl) (hb hby at_150) e11 (by decide) (by decide)
    obtain ⟨rfl, rfl, eh12⟩ := hQ12
    have e12 := e12.trans eh12
    rw [List.append_nil] at X12
    refine own_go (U' := T12.setTop (mkF m 153 #[.val (.int p1), .val (.int p2), .val (.int p3), .val (.int d1), .val (.int d2), .val (.int v2), .val (.ref r), .val (.ref b5), .val (.ref r), .val (.int (own_min p1 v2)), .val (.int (if d1 = (0 : Int32) then (if d2 = (0 : Int32) then (0 : Int32) else (if v2 = (own_min p1 v2) then (1 : Int32) else (0 : Int32))) else (if p1 = (own_min p1 v2) then (1 : Int32) else (if d2 = (0 : Int32) then (0 : Int32) else (if v2 = (own_min p1 v2) then (1 : Int32) else (0 : Int32))))))] [(.int d1)])) st12 ?_
    refine own_go (U' := T12.setTop (mkF m 155 #[.val (.int p1), .val (.int p2), .val (.int p3), .val (.int d1), .val (.int d2), .val (.int v2), .val (.ref r), .val (.ref b5), .val (.ref r), .val (.int (own_min p1 v2)), .val (.int (if d1 = (0 : Int32) then (if d2 = (0 : Int32) then (0 : Int32) else (if v2 = (own_min p1 v2) then (1 : Int32) else (0 : Int32))) else (if p1 = (own_min p1 v2) then (1 : Int32) else (if d2 = (0 : Int32) then (0 : Int32) else (if v2 = (own_min p1 v2) then (1 : Int32) else (0 : Int32))))))] [(.int (if d1 = (0 : Int32) then (if d2 = (0 : Int32) then (0 : Int32) else (if v2 = (own_min p1 v2) then (1 : Int32) else (0 : Int32))) else (if p1 = (own_min p1 v2) then (1 : Int32) else (if d2 = (0 : Int32) then (0 : Int32) else (if v2 = (own_min p1 v2) then (1 : Int32) else (0 : Int32)))))), (.int d1)])) (fun t k => XS.iload X12.here hx rfl (hb hby at_153) rfl k) ?_
    refine own_go (U' := T12.setTop (mkF m 158 #[.val (.int p1), .val (.int p2), .val (.int p3), .val (.int d1), .val (.int d2), .val (.int v2), .val (.ref r), .val (.ref b5), .val (.ref r), .val (.int (own_min p1 v2)), .val (.int (if d1 = (0 : Int32) then (if d2 = (0 : Int32) then (0 : Int32) else (if v2 = (own_min p1 v2) then (1 : Int32) else (0 : Int32))) else (if p1 = (own_min p1 v2) then (1 : Int32) else (if d2 = (0 : Int32) then (0 : Int32) else (if v2 = (own_min p1 v2) then (1 : Int32) else (0 : Int32))))))] [])) (fun t k => XS.icmpNo X12.here hx rfl (hb hby at_155) rfl (teq hP.2).2 k) ?_
    refine own_go (U' := T12.setTop (mkF m 159 #[.val (.int p1), .val (.int p2), .val (.int p3), .val (.int d1), .val (.int d2), .val (.int v2), .val (.ref r), .val (.ref b5), .val (.ref r), .val (.int (own_min p1 v2)), .val (.int (if d1 = (0 : Int32) then (if d2 = (0 : Int32) then (0 : Int32) else (if v2 = (own_min p1 v2) then (1 : Int32) else (0 : Int32))) else (if p1 = (own_min p1 v2) then (1 : Int32) else (if d2 = (0 : Int32) then (0 : Int32) else (if v2 = (own_min p1 v2) then (1 : Int32) else (0 : Int32))))))] [(.int (1 : Int32))])) (fun t k => XS.iconst X12.here hx rfl (hb hby at_158) k) ?_
    refine own_go (U' := T12.setTop (mkF m 163 #[.val (.int p1), .val (.int p2), .val (.int p3), .val (.int d1), .val (.int d2), .val (.int v2), .val (.ref r), .val (.ref b5), .val (.ref r), .val (.int (own_min p1 v2)), .val (.int (if d1 = (0 : Int32) then (if d2 = (0 : Int32) then (0 : Int32) else (if v2 = (own_min p1 v2) then (1 : Int32) else (0 : Int32))) else (if p1 = (own_min p1 v2) then (1 : Int32) else (if d2 = (0 : Int32) then (0 : Int32) else (if v2 = (own_min p1 v2) then (1 : Int32) else (0 : Int32))))))] [(.int (1 : Int32))])) (fun t k => XS.goto X12.here hx rfl (pc0 := 159) (pc' := 163) rfl (hb hby at_159) (by decide) (by decide) k) ?_
    refine own_retN X12 hx (t := .boolean) hret (by simp) hlk (hb hby at_163) ?_ (by decide) (by decide)
    exact ⟨rfl, N8⟩
  · have hP := own_pB hb1 hb2 hr
    refine own_go (U' := T9.setTop (mkF m 83 #[.val (.int p1), .val (.int p2), .val (.int p3), .val (.int d1), .val (.int d2), .val (.int v2), .val (.ref b1), .val (.ref r), .unset, .unset, .unset] [(.ref r)])) st9 ?_
    refine own_go (U' := T9.setTop (mkF m 85 #[.val (.int p1), .val (.int p2), .val (.int p3), .val (.int d1), .val (.int d2), .val (.int v2), .val (.ref b1), .val (.ref r), .val (.ref r), .unset, .unset] [])) (fun t k => XS.astore X9.here hx rfl (hb hby at_83) rfl rfl (l' := #[.val (.int p1), .val (.int p2), .val (.int p3), .val (.int d1), .val (.int d2), .val (.int v2), .val (.ref b1), .val (.ref r), .val (.ref r), .unset, .unset]) rfl k) ?_
    refine own_go (U' := T9.setTop (mkF m 87 #[.val (.int p1), .val (.int p2), .val (.int p3), .val (.int d1), .val (.int d2), .val (.int v2), .val (.ref b1), .val (.ref r), .val (.ref r), .unset, .unset] [(.ref r)])) (fun t k => XS.aload X9.here hx rfl (hb hby at_85) rfl rfl k) ?_
    refine own_go (U' := T9.setTop (mkF m 89 #[.val (.int p1), .val (.int p2), .val (.int p3), .val (.int d1), .val (.int d2), .val (.int v2), .val (.ref b1), .val (.ref r), .val (.ref r), .unset, .unset] [(.ref b1), (.ref r)])) (fun t k => XS.aload X9.here hx rfl (hb hby at_87) rfl rfl k) ?_
    refine own_go (U' := T9.setTop (mkF m 92 #[.val (.int p1), .val (.int p2), .val (.int p3), .val (.int d1), .val (.int d2), .val (.int v2), .val (.ref b1), .val (.ref r), .val (.ref r), .unset, .unset] [])) (fun t k => Jvm.RoadKit.acmp (g := (mkF m 89 #[.val (.int p1), .val (.int p2), .val (.int p3), .val (.int d1), .val (.int d2), .val (.int v2), .val (.ref b1), .val (.ref r), .val (.ref r), .unset, .unset] [(.ref b1), (.ref r)])) X9 hx rfl rfl rfl (pc0 := 89) (pc' := 92) (same := false) rfl (hb hby at_89) rfl (decide_eq_false fun q => ((Ne.symm ne_b1_b5)) (Value.ref.inj q)) (by decide) (by decide) k) ?_
    refine own_go (U' := T9.setTop (mkF m 94 #[.val (.int p1), .val (.int p2), .val (.int p3), .val (.int d1), .val (.int d2), .val (.int v2), .val (.ref b1), .val (.ref r), .val (.ref r), .unset, .unset] [(.ref r)])) (fun t k => XS.aload X9.here hx rfl (hb hby at_92) rfl rfl k) ?_
    refine own_go (U' := T9.setTop (mkF m 96 #[.val (.int p1), .val (.int p2), .val (.int p3), .val (.int d1), .val (.int d2), .val (.int v2), .val (.ref b1), .val (.ref r), .val (.ref r), .unset, .unset] [(.ref r), (.ref r)])) (fun t k => XS.aload X9.here hx rfl (hb hby at_94) rfl rfl k) ?_
    refine own_go (U' := T9.setTop (mkF m 101 #[.val (.int p1), .val (.int p2), .val (.int p3), .val (.int d1), .val (.int d2), .val (.int v2), .val (.ref b1), .val (.ref r), .val (.ref r), .unset, .unset] [])) (fun t k => Jvm.RoadKit.acmp (g := (mkF m 96 #[.val (.int p1), .val (.int p2), .val (.int p3), .val (.int d1), .val (.int d2), .val (.int v2), .val (.ref b1), .val (.ref r), .val (.ref r), .unset, .unset] [(.ref r), (.ref r)])) X9 hx rfl rfl rfl (pc0 := 96) (pc' := 101) (same := true) rfl (hb hby at_96) rfl (decide_eq_true (congrArg Value.ref rfl)) (by decide) (by decide) k) ?_
    refine own_go (U' := T9.setTop (mkF m 102 #[.val (.int p1), .val (.int p2), .val (.int p3), .val (.int d1), .val (.int d2), .val (.int v2), .val (.ref b1), .val (.ref r), .val (.ref r), .unset, .unset] [(.int p1)])) (fun t k => XS.iloadN X9.here hx rfl (hb hby at_101) rfl k) ?_
    refine own_go (U' := T9.setTop (mkF m 104 #[.val (.int p1), .val (.int p2), .val (.int p3), .val (.int d1), .val (.int d2), .val (.int v2), .val (.ref b1), .val (.ref r), .val (.ref r), .unset, .unset] [(.int v2), (.int p1)])) (fun t k => XS.iload X9.here hx rfl (hb hby at_102) rfl k) ?_
    obtain ⟨v13, T13, h13, L13, e13, X13, hQ13, st13⟩ := own_callS X9 hx hZ (y := (⟨"java/lang/Math", "min", "(II)I"⟩ : MethodName)) hown (hw _ (List.mem_of_getElem? (i := 47) rfl)) (hw _ (List.mem_of_getElem? (i := 48) rfl)) (hw _ (List.mem_of_getElem? (i := 49) rfl)) (hw _ (List.mem_of_getElem? (i := 50) rfl)) (by decide) (own_rmmi l Z a0 hw p1 v2 h8) (W := 0) (by decide) (by decide) (g := (mkF m 104 #[.val (.int p1), .val (.int p2), .val (.int p3), .val (.int d1), .val (.int d2), .val (.int v2), .val (.ref b1), .val (.ref r), .val (.ref r), .unset, .unset] [(.int v2), (.int p1)])) rfl (by rw [hml]; rfl) (argsL := [(.int p1), (.int v2)]) (rest := []) (lenOf own_pd3 rfl) rfl rfl (by show 2 * 0 + _ ≤ _; exact Nat.le_of_eq rfl) (hb hby at_104) e9 (by decide) (by decide)
    obtain ⟨rfl, rfl, eh13⟩ := hQ13
    have e13 := e13.trans eh13
    rw [List.append_nil] at X13
    refine own_go (U' := T13.setTop (mkF m 107 #[.val (.int p1), .val (.int p2), .val (.int p3), .val (.int d1), .val (.int d2), .val (.int v2), .val (.ref b1), .val (.ref r), .val (.ref r), .unset, .unset] [(.int (own_min p1 v2))])) st13 ?_
    refine own_go (U' := T13.setTop (mkF m 109 #[.val (.int p1), .val (.int p2), .val (.int p3), .val (.int d1), .val (.int d2), .val (.int v2), .val (.ref b1), .val (.ref r), .val (.ref r), .val (.int (own_min p1 v2)), .unset] [])) (fun t k => XS.istore X13.here hx rfl (hb hby at_107) rfl (l' := #[.val (.int p1), .val (.int p2), .val (.int p3), .val (.int d1), .val (.int d2), .val (.int v2), .val (.ref b1), .val (.ref r), .val (.ref r), .val (.int (own_min p1 v2)), .unset]) rfl k) ?_
    refine own_go (U' := T13.setTop (mkF m 110 #[.val (.int p1), .val (.int p2), .val (.int p3), .val (.int d1), .val (.int d2), .val (.int v2), .val (.ref b1), .val (.ref r), .val (.ref r), .val (.int (own_min p1 v2)), .unset] [(.int d1)])) (fun t k => XS.iloadN X13.here hx rfl (hb hby at_109) rfl k) ?_
    refine own_go (U' := T13.setTop (mkF m 136 #[.val (.int p1), .val (.int p2), .val (.int p3), .val (.int d1), .val (.int d2), .val (.int v2), .val (.ref b1), .val (.ref r), .val (.ref r), .val (.int (own_min p1 v2)), .unset] [(.int (if d1 = (0 : Int32) then (if d2 = (0 : Int32) then (0 : Int32) else (if v2 = (own_min p1 v2) then (1 : Int32) else (0 : Int32))) else (if p1 = (own_min p1 v2) then (1 : Int32) else (if d2 = (0 : Int32) then (0 : Int32) else (if v2 = (own_min p1 v2) then (1 : Int32) else (0 : Int32))))))])) (fun t k => ?_) ?_
    · show Steps p.tables e below (T13.setTop (mkF m 110 #[.val (.int p1), .val (.int p2), .val (.int p3), .val (.int d1), .val (.int d2), .val (.int v2), .val (.ref b1), .val (.ref r), .val (.ref r), .val (.int (own_min p1 v2)), .unset] [(.int d1)])) _
      by_cases hd110 : d1 = (0 : Int32)
      · simp only [if_pos hd110] at k
        refine XS.ifYes X13.here hx rfl (pc0 := 110) (pc' := 119) rfl (hb hby at_110) rfl ((if0 _ _).trans (teq hd110).1) (by decide) (by decide) ?_
        show Steps p.tables e below (T13.setTop (mkF m 119 #[.val (.int p1), .val (.int p2), .val (.int p3), .val (.int d1), .val (.int d2), .val (.int v2), .val (.ref b1), .val (.ref r), .val (.ref r), .val (.int (own_min p1 v2)), .unset] [])) _
        refine XS.iload X13.here hx rfl (hb hby at_119) rfl ?_
        show Steps p.tables e below (T13.setTop (mkF m 121 #[.val (.int p1), .val (.int p2), .val (.int p3), .val (.int d1), .val (.int d2), .val (.int v2), .val (.ref b1), .val (.ref r), .val (.ref r), .val (.int (own_min p1 v2)), .unset] [(.int d2)])) _
        by_cases hd121 : d2 = (0 : Int32)
        · simp only [if_pos hd121] at k
          refine XS.ifYes X13.here hx rfl (pc0 := 121) (pc' := 135) rfl (hb hby at_121) rfl ((if0 _ _).trans (teq hd121).1) (by decide) (by decide) ?_
          show Steps p.tables e below (T13.setTop (mkF m 135 #[.val (.int p1), .val (.int p2), .val (.int p3), .val (.int d1), .val (.int d2), .val (.int v2), .val (.ref b1), .val (.ref r), .val (.ref r), .val (.int (own_min p1 v2)), .unset] [])) _
          refine XS.iconst X13.here hx rfl (hb hby at_135) ?_
          show Steps p.tables e below (T13.setTop (mkF m 136 #[.val (.int p1), .val (.int p2), .val (.int p3), .val (.int d1), .val (.int d2), .val (.int v2), .val (.ref b1), .val (.ref r), .val (.ref r), .val (.int (own_min p1 v2)), .unset] [(.int (0 : Int32))])) _
          exact k
        · simp only [if_neg hd121] at k
          refine XS.ifNo X13.here hx rfl (hb hby at_121) rfl ((if0 _ _).trans (feq hd121).1) ?_
          show Steps p.tables e below (T13.setTop (mkF m 124 #[.val (.int p1), .val (.int p2), .val (.int p3), .val (.int d1), .val (.int d2), .val (.int v2), .val (.ref b1), .val (.ref r), .val (.ref r), .val (.int (own_min p1 v2)), .unset] [])) _
          refine XS.iload X13.here hx rfl (hb hby at_124) rfl ?_
          show Steps p.tables e below (T13.setTop (mkF m 126 #[.val (.int p1), .val (.int p2), .val (.int p3), .val (.int d1), .val (.int d2), .val (.int v2), .val (.ref b1), .val (.ref r), .val (.ref r), .val (.int (own_min p1 v2)), .unset] [(.int v2)])) _
          refine XS.iload X13.here hx rfl (hb hby at_126) rfl ?_
          show Steps p.tables e below (T13.setTop (mkF m 128 #[.val (.int p1), .val (.int p2), .val (.int p3), .val (.int d1), .val (.int d2), .val (.int v2), .val (.ref b1), .val (.ref r), .val (.ref r), .val (.int (own_min p1 v2)), .unset] [(.int (own_min p1 v2)), (.int v2)])) _
          by_cases hd128 : v2 = (own_min p1 v2)
          · simp only [if_pos hd128] at k
            refine XS.icmpNo X13.here hx rfl (hb hby at_128) rfl (teq hd128).2 ?_
            show Steps p.tables e below (T13.setTop (mkF m 131 #[.val (.int p1), .val (.int p2), .val (.int p3), .val (.int d1), .val (.int d2), .val (.int v2), .val (.ref b1), .val (.ref r), .val (.ref r), .val (.int (own_min p1 v2)), .unset] [])) _
            refine XS.iconst X13.here hx rfl (hb hby at_131) ?_
            show Steps p.tables e below (T13.setTop (mkF m 132 #[.val (.int p1), .val (.int p2), .val (.int p3), .val (.int d1), .val (.int d2), .val (.int v2), .val (.ref b1), .val (.ref r), .val (.ref r), .val (.int (own_min p1 v2)), .unset] [(.int (1 : Int32))])) _
            refine XS.goto X13.here hx rfl (pc0 := 132) (pc' := 136) rfl (hb hby at_132) (by decide) (by decide) ?_
            show Steps p.tables e below (T13.setTop (mkF m 136 #[.val (.int p1), .val (.int p2), .val (.int p3), .val (.int d1), .val (.int d2), .val (.int v2), .val (.ref b1), .val (.ref r), .val (.ref r), .val (.int (own_min p1 v2)), .unset] [(.int (1 : Int32))])) _
            exact k
          · simp only [if_neg hd128] at k
            refine XS.icmpYes X13.here hx rfl (pc0 := 128) (pc' := 135) rfl (hb hby at_128) rfl (feq hd128).2 (by decide) (by decide) ?_
            show Steps p.tables e below (T13.setTop (mkF m 135 #[.val (.int p1), .val (.int p2), .val (.int p3), .val (.int d1), .val (.int d2), .val (.int v2), .val (.ref b1), .val (.ref r), .val (.ref r), .val (.int (own_min p1 v2)), .unset] [])) _
            refine XS.iconst X13.here hx rfl (hb hby at_135) ?_
            show Steps p.tables e below (T13.setTop (mkF m 136 #[.val (.int p1), .val (.int p2), .val (.int p3), .val (.int d1), .val (.int d2), .val (.int v2), .val (.ref b1), .val (.ref r), .val (.ref r), .val (.int (own_min p1 v2)), .unset] [(.int (0 : Int32))])) _
            exact k
      · simp only [if_neg hd110] at k
        refine XS.ifNo X13.here hx rfl (hb hby at_110) rfl ((if0 _ _).trans (feq hd110).1) ?_
        show Steps p.tables e below (T13.setTop (mkF m 113 #[.val (.int p1), .val (.int p2), .val (.int p3), .val (.int d1), .val (.int d2), .val (.int v2), .val (.ref b1), .val (.ref r), .val (.ref r), .val (.int (own_min p1 v2)), .unset] [])) _
        refine XS.iloadN X13.here hx rfl (hb hby at_113) rfl ?_
        show Steps p.tables e below (T13.setTop (mkF m 114 #[.val (.int p1), .val (.int p2), .val (.int p3), .val (.int d1), .val (.int d2), .val (.int v2), .val (.ref b1), .val (.ref r), .val (.ref r), .val (.int (own_min p1 v2)), .unset] [(.int p1)])) _
        refine XS.iload X13.here hx rfl (hb hby at_114) rfl ?_
        show Steps p.tables e below (T13.setTop (mkF m 116 #[.val (.int p1), .val (.int p2), .val (.int p3), .val (.int d1), .val (.int d2), .val (.int v2), .val (.ref b1), .val (.ref r), .val (.ref r), .val (.int (own_min p1 v2)), .unset] [(.int (own_min p1 v2)), (.int p1)])) _
        by_cases hd116 : p1 = (own_min p1 v2)
        · simp only [if_pos hd116] at k
          refine XS.icmpYes X13.here hx rfl (pc0 := 116) (pc' := 131) rfl (hb hby at_116) rfl (teq hd116).1 (by decide) (by decide) ?_
          show Steps p.tables e below (T13.setTop (mkF m 131 #[.val (.int p1), .val (.int p2), .val (.int p3), .val (.int d1), .val (.int d2), .val (.int v2), .val (.ref b1), .val (.ref r), .val (.ref r), .val (.int (own_min p1 v2)), .unset] [])) _
          refine XS.iconst X13.here hx rfl (hb hby at_131) ?_
          show Steps p.tables e below (T13.setTop (mkF m 132 #[.val (.int p1), .val (.int p2), .val (.int p3), .val (.int d1), .val (.int d2), .val (.int v2), .val (.ref b1), .val (.ref r), .val (.ref r), .val (.int (own_min p1 v2)), .unset] [(.int (1 : Int32))])) _
          refine XS.goto X13.here hx rfl (pc0 := 132) (pc' := 136) rfl (hb hby at_132) (by decide) (by decide) ?_
          show Steps p.tables e below (T13.setTop (mkF m 136 #[.val (.int p1), .val (.int p2), .val (.int p3), .val (.int d1), .val (.int d2), .val (.int v2), .val (.ref b1), .val (.ref r), .val (.ref r), .val (.int (own_min p1 v2)), .unset] [(.int (1 : Int32))])) _
          exact k
        · simp only [if_neg hd116] at k
          refine XS.icmpNo X13.here hx rfl (hb hby at_116) rfl (feq hd116).1 ?_
          show Steps p.tables e below (T13.setTop (mkF m 119 #[.val (.int p1), .val (.int p2), .val (.int p3), .val (.int d1), .val (.int d2), .val (.int v2), .val (.ref b1), .val (.ref r), .val (.ref r), .val (.int (own_min p1 v2)), .unset] [])) _
          refine XS.iload X13.here hx rfl (hb hby at_119) rfl ?_
          show Steps p.tables e below (T13.setTop (mkF m 121 #[.val (.int p1), .val (.int p2), .val (.int p3), .val (.int d1), .val (.int d2), .val (.int v2), .val (.ref b1), .val (.ref r), .val (.ref r), .val (.int (own_min p1 v2)), .unset] [(.int d2)])) _
          by_cases hd121 : d2 = (0 : Int32)
          · simp only [if_pos hd121] at k
            refine XS.ifYes X13.here hx rfl (pc0 := 121) (pc' := 135) rfl (hb hby at_121) rfl ((if0 _ _).trans (teq hd121).1) (by decide) (by decide) ?_
            show Steps p.tables e below (T13.setTop (mkF m 135 #[.val (.int p1), .val (.int p2), .val (.int p3), .val (.int d1), .val (.int d2), .val (.int v2), .val (.ref b1), .val (.ref r), .val (.ref r), .val (.int (own_min p1 v2)), .unset] [])) _
            refine XS.iconst X13.here hx rfl (hb hby at_135) ?_
            show Steps p.tables e below (T13.setTop (mkF m 136 #[.val (.int p1), .val (.int p2), .val (.int p3), .val (.int d1), .val (.int d2), .val (.int v2), .val (.ref b1), .val (.ref r), .val (.ref r), .val (.int (own_min p1 v2)), .unset] [(.int (0 : Int32))])) _
            exact k
          · simp only [if_neg hd121] at k
            refine XS.ifNo X13.here hx rfl (hb hby at_121) rfl ((if0 _ _).trans (feq hd121).1) ?_
            show Steps p.tables e below (T13.setTop (mkF m 124 #[.val (.int p1), .val (.int p2), .val (.int p3), .val (.int d1), .val (.int d2), .val (.int v2), .val (.ref b1), .val (.ref r), .val (.ref r), .val (.int (own_min p1 v2)), .unset] [])) _
            refine XS.iload X13.here hx rfl (hb hby at_124) rfl ?_
            show Steps p.tables e below (T13.setTop (mkF m 126 #[.val (.int p1), .val (.int p2), .val (.int p3), .val (.int d1), .val (.int d2), .val (.int v2), .val (.ref b1), .val (.ref r), .val (.ref r), .val (.int (own_min p1 v2)), .unset] [(.int v2)])) _
            refine XS.iload X13.here hx rfl (hb hby at_126) rfl ?_
            show Steps p.tables e below (T13.setTop (mkF m 128 #[.val (.int p1), .val (.int p2), .val (.int p3), .val (.int d1), .val (.int d2), .val (.int v2), .val (.ref b1), .val (.ref r), .val (.ref r), .val (.int (own_min p1 v2)), .unset] [(.int (own_min p1 v2)), (.int v2)])) _
            by_cases hd128 : v2 = (own_min p1 v2)
            · simp only [if_pos hd128] at k
              refine XS.icmpNo X13.here hx rfl (hb hby at_128) rfl (teq hd128).2 ?_
              show Steps p.tables e below (T13.setTop (mkF m 131 #[.val (.int p1), .val (.int p2), .val (.int p3), .val (.int d1), .val (.int d2), .val (.int v2), .val (.ref b1), .val (.ref r), .val (.ref r), .val (.int (own_min p1 v2)), .unset] [])) _
              refine XS.iconst X13.here hx rfl (hb hby at_131) ?_
              show Steps p.tables e below (T13.setTop (mkF m 132 #[.val (.int p1), .val (.int p2), .val (.int p3), .val (.int d1), .val (.int d2), .val (.int v2), .val (.ref b1), .val (.ref r), .val (.ref r), .val (.int (own_min p1 v2)), .unset] [(.int (1 : Int32))])) _
              refine XS.goto X13.here hx rfl (pc0 := 132) (pc' := 136) rfl (hb hby at_132) (by decide) (by decide) ?_
              show Steps p.tables e below (T13.setTop (mkF m 136 #[.val (.int p1), .val (.int p2), .val (.int p3), .val (.int d1), .val (.int d2), .val (.int v2), .val (.ref b1), .val (.ref r), .val (.ref r), .val (.int (own_min p1 v2)), .unset] [(.int (1 : Int32))])) _
              exact k
            · simp only [if_neg hd128] at k
              refine XS.icmpYes X13.here hx rfl (pc0 := 128) (pc' := 135) rfl (hb hby at_128) rfl (feq hd128).2 (by decide) (by decide) ?_
              show Steps p.tables e below (T13.setTop (mkF m 135 #[.val (.int p1), .val (.int p2), .val (.int p3), .val (.int d1), .val (.int d2), .val (.int v2), .val (.ref b1), .val (.ref r), .val (.ref r), .val (.int (own_min p1 v2)), .unset] [])) _
              refine XS.iconst X13.here hx rfl (hb hby at_135) ?_
              show Steps p.tables e below (T13.setTop (mkF m 136 #[.val (.int p1), .val (.int p2), .val (.int p3), .val (.int d1), .val (.int d2), .val (.int v2), .val (.ref b1), .val (.ref r), .val (.ref r), .val (.int (own_min p1 v2)), .unset] [(.int (0 : Int32))])) _
              exact k
    refine own_go (U' := T13.setTop (mkF m 138 #[.val (.int p1), .val (.int p2), .val (.int p3), .val (.int d1), .val (.int d2), .val (.int v2), .val (.ref b1), .val (.ref r), .val (.ref r), .val (.int (own_min p1 v2)), .val (.int (if d1 = (0 : Int32) then (if d2 = (0 : Int32) then (0 : Int32) else (if v2 = (own_min p1 v2) then (1 : Int32) else (0 : Int32))) else (if p1 = (own_min p1 v2) then (1 : Int32) else (if d2 = (0 : Int32) then (0 : Int32) else (if v2 = (own_min p1 v2) then (1 : Int32) else (0 : Int32))))))] [])) (fun t k => XS.istore X13.here hx rfl (hb hby at_136) rfl (l' := #[.val (.int p1), .val (.int p2), .val (.int p3), .val (.int d1), .val (.int d2), .val (.int v2), .val (.ref b1), .val (.ref r), .val (.ref r), .val (.int (own_min p1 v2)), .val (.int (if d1 = (0 : Int32) then (if d2 = (0 : Int32) then (0 : Int32) else (if v2 = (own_min p1 v2) then (1 : Int32) else (0 : Int32))) else (if p1 = (own_min p1 v2) then (1 : Int32) else (if d2 = (0 : Int32) then (0 : Int32) else (if v2 = (own_min p1 v2) then (1 : Int32) else (0 : Int32))))))]) rfl k) ?_
    refine own_go (U' := T13.setTop (mkF m 140 #[.val (.int p1), .val (.int p2), .val (.int p3), .val (.int d1), .val (.int d2), .val (.int v2), .val (.ref b1), .val (.ref r), .val (.ref r), .val (.int (own_min p1 v2)), .val (.int (if d1 = (0 : Int32) then (if d2 = (0 : Int32) then (0 : Int32) else (if v2 = (own_min p1 v2) then (1 : Int32) else (0 : Int32))) else (if p1 = (own_min p1 v2) then (1 : Int32) else (if d2 = (0 : Int32) then (0 : Int32) else (if v2 = (own_min p1 v2) then (1 : Int32) else (0 : Int32))))))] [(.ref r)])) (fun t k => XS.aload X13.here hx rfl (hb hby at_138) rfl rfl k) ?_
    obtain ⟨v14, T14, h14, L14, e14, X14, hQ14, st14⟩ := own_callV X13 hx hZ (y := (⟨"com/example/keywright/keywright/Snapshot$Setting", "width", "()I"⟩ : MethodName)) (z := (⟨"com/example/keywright/keywright/Snapshot$Setting", "width", "()I"⟩ : MethodName)) hown (hw _ (List.mem_of_getElem? (i := 51) rfl)) (hw _ (List.mem_of_getElem? (i := 52) rfl)) (notFace_of_selects (args := #[]) (mvT hZ (hw _ (List.mem_of_getElem? (i := 54) rfl)))) (hw _ (List.mem_of_getElem? (i := 54) rfl)) (hw _ (List.mem_of_getElem? (i := 53) rfl)) (hw _ (List.mem_of_getElem? (i := 2) rfl)) (hw _ (List.mem_of_getElem? (i := 55) rfl)) (by decide) E_b5 (own_rmgw l Z a0 hw r h8 v2 F_width_b5) (W := 0) (by decide) (by decide) (g := (mkF m 140 #[.val (.int p1), .val (.int p2), .val (.int p3), .val (.int d1), .val (.int d2), .val (.int v2), .val (.ref b1), .val (.ref r), .val (.ref r), .val (.int (own_min p1 v2)), .val (.int (if d1 = (0 : Int32) then (if d2 = (0 : Int32) then (0 : Int32) else (if v2 = (own_min p1 v2) then (1 : Int32) else (0 : Int32))) else (if p1 = (own_min p1 v2) then (1 : Int32) else (if d2 = (0 : Int32) then (0 : Int32) else (if v2 = (own_min p1 v2) then (1 : Int32) else (0 : Int32))))))] [(.ref r)])) rfl (by rw [hml]; rfl) (argsL := []) (rest := []) (lenOf own_pd4 rfl) rfl rfl (by show 2 * 0 + _ ≤ _; exact Nat.le_of_eq rfl) (hb hby at_140) e13 (by decide) (by decide)
    obtain ⟨rfl, rfl, eh14⟩ := hQ14
    have e14 := e14.trans eh14
    rw [List.append_nil] at X14
    refine own_go (U' := T14.setTop (mkF m 143 #[.val (.int p1), .val (.int p2), .val (.int p3), .val (.int d1), .val (.int d2), .val (.int v2), .val (.ref b1), .val (.ref r), .val (.ref r), .val (.int (own_min p1 v2)), .val (.int (if d1 = (0 : Int32) then (if d2 = (0 : Int32) then (0 : Int32) else (if v2 = (own_min p1 v2) then (1 : Int32) else (0 : Int32))) else (if p1 = (own_min p1 v2) then (1 : Int32) else (if d2 = (0 : Int32) then (0 : Int32) else (if v2 = (own_min p1 v2) then (1 : Int32) else (0 : Int32))))))] [(.int v2)])) st14 ?_
    refine own_go (U' := T14.setTop (mkF m 145 #[.val (.int p1), .val (.int p2), .val (.int p3), .val (.int d1), .val (.int d2), .val (.int v2), .val (.ref b1), .val (.ref r), .val (.ref r), .val (.int (own_min p1 v2)), .val (.int (if d1 = (0 : Int32) then (if d2 = (0 : Int32) then (0 : Int32) else (if v2 = (own_min p1 v2) then (1 : Int32) else (0 : Int32))) else (if p1 = (own_min p1 v2) then (1 : Int32) else (if d2 = (0 : Int32) then (0 : Int32) else (if v2 = (own_min p1 v2) then (1 : Int32) else (0 : Int32))))))] [(.int (own_min p1 v2)), (.int v2)])) (fun t k => XS.iload X14.here hx rfl (hb hby at_143) rfl k) ?_
    refine own_go (U' := T14.setTop (mkF m 148 #[.val (.int p1), .val (.int p2), .val (.int p3), .val (.int d1), .val (.int d2), .val (.int v2), .val (.ref b1), .val (.ref r), .val (.ref r), .val (.int (own_min p1 v2)), .val (.int (if d1 = (0 : Int32) then (if d2 = (0 : Int32) then (0 : Int32) else (if v2 = (own_min p1 v2) then (1 : Int32) else (0 : Int32))) else (if p1 = (own_min p1 v2) then (1 : Int32) else (if d2 = (0 : Int32) then (0 : Int32) else (if v2 = (own_min p1 v2) then (1 : Int32) else (0 : Int32))))))] [])) (fun t k => XS.icmpNo X14.here hx rfl (hb hby at_145) rfl (teq hP.1).2 k) ?_
    refine own_go (U' := T14.setTop (mkF m 150 #[.val (.int p1), .val (.int p2), .val (.int p3), .val (.int d1), .val (.int d2), .val (.int v2), .val (.ref b1), .val (.ref r), .val (.ref r), .val (.int (own_min p1 v2)), .val (.int (if d1 = (0 : Int32) then (if d2 = (0 : Int32) then (0 : Int32) else (if v2 = (own_min p1 v2) then (1 : Int32) else (0 : Int32))) else (if p1 = (own_min p1 v2) then (1 : Int32) else (if d2 = (0 : Int32) then (0 : Int32) else (if v2 = (own_min p1 v2) then (1 : Int32) else (0 : Int32))))))] [(.ref r)])) (fun t k => XS.aload X14.here hx rfl (hb hby at_148) rfl rfl k) ?_
    obtain ⟨v15, T15, h15, L15, e15, X15, hQ15, st15⟩ := own_callV X14 hx hZ (y := (⟨"com/example/keywright/keywright/Snapshot$Setting", "deny", "()Z"⟩ : MethodName)) (z := (⟨"com/example/keywright/keywright/Snapshot$Setting", "deny", "()Z"⟩ : MethodName)) hown (hw _ (List.mem_of_getElem? (i := 56) rfl)) (hw _ (List.mem_of_getElem? (i := 57) rfl)) (notFace_of_selects (args := #[]) (mvT hZ (hw _ (List.mem_of_getElem? (i := 59) rfl)))) (hw _ (List.mem_of_getElem? (i := 59) rfl)) (hw _ (List.mem_of_getElem? (i := 58) rfl)) (hw _ (List.mem_of_getElem? (i := 2) rfl)) (hw _ (List.mem_of_getElem? (i := 60) rfl)) (by decide) E_b5 (own_rmgd l Z a0 hw r h8 d2 (own_nar01 hb2) F_deny_b5) (W := 0) (by decide) (by decide) (g := (mkF m 150 #[.val (.int p1), .val (.int p2), .val (.int p3), .val (.int d1), .val (.int d2), .val (.int v2), .val (.ref b1), .val (.ref r), .val (.ref r), .val (.int (own_min p1 v2)), .val (.int (if d1 = (0 : Int32) then (if d2 = (0 : Int32) then (0 : Int32) else (if v2 = (own_min p1 v2) then (1 : Int32) else (0 : Int32))) else (if p1 = (own_min p1 v2) then (1 : Int32) else (if d2 = (0 : Int32) then (0 : Int32) else (if v2 = (own_min p1 v2) then (1 : Int32) else (0 : Int32))))))] [(.ref r)])) rfl (by rw [hml]; rfl) (argsL := []) (rest := []) (lenOf own_pd5 rfl) rfl rfl (by show 2 * 0 + _ ≤ _; exact Nat.le_of_eq rfl) (hb hby at_150) e14 (by decide) (by decide)
    obtain ⟨rfl, rfl, eh15⟩ := hQ15
    have e15 := e15.trans eh15
    rw [List.append_nil] at X15
    refine own_go (U' := T15.setTop (mkF m 153 #[.val (.int p1), .val (.int p2), .val (.int p3), .val (.int d1), .val (.int d2), .val (.int v2), .val (.ref b1), .val (.ref r), .val (.ref r), .val (.int (own_min p1 v2)), .val (.int (if d1 = (0 : Int32) then (if d2 = (0 : Int32) then (0 : Int32) else (if v2 = (own_min p1 v2) then (1 : Int32) else (0 : Int32))) else (if p1 = (own_min p1 v2) then (1 : Int32) else (if d2 = (0 : Int32) then (0 : Int32) else (if v2 = (own_min p1 v2) then (1 : Int32) else (0 : Int32))))))] [(.int d2)])) st15 ?_
    refine own_go (U' := T15.setTop (mkF m 155 #[.val (.int p1), .val (.int p2), .val (.int p3), .val (.int d1), .val (.int d2), .val (.int v2), .val (.ref b1), .val (.ref r), .val (.ref r), .val (.int (own_min p1 v2)), .val (.int (if d1 = (0 : Int32) then (if d2 = (0 : Int32) then (0 : Int32) else (if v2 = (own_min p1 v2) then (1 : Int32) else (0 : Int32))) else (if p1 = (own_min p1 v2) then (1 : Int32) else (if d2 = (0 : Int32) then (0 : Int32) else (if v2 = (own_min p1 v2) then (1 : Int32) else (0 : Int32))))))] [(.int (if d1 = (0 : Int32) then (if d2 = (0 : Int32) then (0 : Int32) else (if v2 = (own_min p1 v2) then (1 : Int32) else (0 : Int32))) else (if p1 = (own_min p1 v2) then (1 : Int32) else (if d2 = (0 : Int32) then (0 : Int32) else (if v2 = (own_min p1 v2) then (1 : Int32) else (0 : Int32)))))), (.int d2)])) (fun t k => XS.iload X15.here hx rfl (hb hby at_153) rfl k) ?_
    refine own_go (U' := T15.setTop (mkF m 158 #[.val (.int p1), .val (.int p2), .val (.int p3), .val (.int d1), .val (.int d2), .val (.int v2), .val (.ref b1), .val (.ref r), .val (.ref r), .val (.int (own_min p1 v2)), .val (.int (if d1 = (0 : Int32) then (if d2 = (0 : Int32) then (0 : Int32) else (if v2 = (own_min p1 v2) then (1 : Int32) else (0 : Int32))) else (if p1 = (own_min p1 v2) then (1 : Int32) else (if d2 = (0 : Int32) then (0 : Int32) else (if v2 = (own_min p1 v2) then (1 : Int32) else (0 : Int32))))))] [])) (fun t k => XS.icmpNo X15.here hx rfl (hb hby at_155) rfl (teq hP.2).2 k) ?_
    refine own_go (U' := T15.setTop (mkF m 159 #[.val (.int p1), .val (.int p2), .val (.int p3), .val (.int d1), .val (.int d2), .val (.int v2), .val (.ref b1), .val (.ref r), .val (.ref r), .val (.int (own_min p1 v2)), .val (.int (if d1 = (0 : Int32) then (if d2 = (0 : Int32) then (0 : Int32) else (if v2 = (own_min p1 v2) then (1 : Int32) else (0 : Int32))) else (if p1 = (own_min p1 v2) then (1 : Int32) else (if d2 = (0 : Int32) then (0 : Int32) else (if v2 = (own_min p1 v2) then (1 : Int32) else (0 : Int32))))))] [(.int (1 : Int32))])) (fun t k => XS.iconst X15.here hx rfl (hb hby at_158) k) ?_
    refine own_go (U' := T15.setTop (mkF m 163 #[.val (.int p1), .val (.int p2), .val (.int p3), .val (.int d1), .val (.int d2), .val (.int v2), .val (.ref b1), .val (.ref r), .val (.ref r), .val (.int (own_min p1 v2)), .val (.int (if d1 = (0 : Int32) then (if d2 = (0 : Int32) then (0 : Int32) else (if v2 = (own_min p1 v2) then (1 : Int32) else (0 : Int32))) else (if p1 = (own_min p1 v2) then (1 : Int32) else (if d2 = (0 : Int32) then (0 : Int32) else (if v2 = (own_min p1 v2) then (1 : Int32) else (0 : Int32))))))] [(.int (1 : Int32))])) (fun t k => XS.goto X15.here hx rfl (pc0 := 159) (pc' := 163) rfl (hb hby at_159) (by decide) (by decide) k) ?_
    refine own_retN X15 hx (t := .boolean) hret (by simp) hlk (hb hby at_163) ?_ (by decide) (by decide)
    exact ⟨rfl, N8⟩
set_option maxRecDepth 65536 in
set_option maxHeartbeats 40000000 in
theorem comes_1 {Post : Tables → Env → Array Value → State → Outcome → State → Prop} (hpost : ∀ tb e args s v u, (limb_1_1.after args s (.returned v) u = true ∧ limb_1_2.after args s (.returned v) u = true) → FrameEnd s (.returned v) u (Jvm.fieldLocs frame_1_writes args s ++ Jvm.arrayLocs frame_1_arrays args s ++ Jvm.staticLocs frame_1_statics s) 16 128 → Post tb e args s (.returned v) u) :
    ArmFor flags0 classFile x code maxLocals ret World_1 tables_1 room_1 Calls_1 rest_1 Pre_1 Post := by
  intro l hfl _ _ p e ha hc hk s m args below hf hA hF happ hP
  obtain ⟨hcalls, hrest, hpre⟩ := hP
  obtain ⟨-, -, -, hnamed, -, -, -, hat⟩ := (Spec.applies_iff hf).mp happ
  obtain ⟨hg, hn⟩ := and_e (Cond.before_iff.mp (show (Jvm.Cond.and given_1 narrow_1).before args s = true from hpre))
  obtain ⟨hcount, r0⟩ := and_e hg
  obtain ⟨g0, r1⟩ := and_e r0
  obtain ⟨g1, g2⟩ := and_e r1
  obtain ⟨w0, w1, w2, rfl⟩ : ∃ w0 w1 w2 : Value, args = #[w0, w1, w2] := by
    have hs : args.size = 3 := by simpa [Cond.value, given_1] using hcount
    obtain ⟨L⟩ := args
    match L, hs with
    | [w0, w1, w2], _ => exact ⟨w0, w1, w2, rfl⟩
  have hw := fun d (hd : d ∈ tables_1) => atoms_spec (ws := Jvm.Cond.code x code maxLocals ret :: tables_1) hat d (List.mem_cons_of_mem _ hd)
  have hfit : Fit s := fun {y c} hc i hi => by
    obtain ⟨ha, rfl⟩ := Array.getElem?_eq_some_iff.mp hc
    have q := List.all_eq_true.mp ((Array.all_eq_true_iff_forall_mem.mp hF) _ (Array.getElem_mem ha)) i (List.mem_range.mpr hi)
    simpa [Array.getElem?_eq_getElem hi] using q
  obtain ⟨hsets, hown0⟩ := atoms_of _ (rest_1_c_eq ▸ (show rest_1_c.before _ s = true from hrest))
  have hr0 := Cond.before_iff.mp hown0
  obtain ⟨i0, ei0⟩ := is_v g0
  obtain rfl : w0 = (.int i0) := Option.some.inj ei0
  obtain ⟨i1, ei1⟩ := is_v g1
  obtain rfl : w1 = (.int i1) := Option.some.inj ei1
  obtain ⟨i2, ei2⟩ := is_v g2
  obtain rfl : w2 = (.int i2) := Option.some.inj ei2
  obtain ⟨dd, evdd⟩ := exa_v (Cond.before_iff.mp (hsets _ (List.mem_of_getElem? (i := 7) rfl)))
  have S_dd := Sta.start evdd (Or.inr ⟨hw _ (List.mem_of_getElem? (i := 5) rfl), hsets _ (List.mem_of_getElem? (i := 2) rfl)⟩)
  obtain ⟨n, o, h1, h2, h3, _, L, rfl, ⟨rfl, N⟩, hq⟩ := own_rm0 l s _ hw tables_1 i0 i1 i2 s.heap s.heap.size dd (Old.start s) S_dd p e ha hc hk s m _ below hf ((Spec.applies_iff_loose hf).mp happ).1 ⟨rfl, State.Warmed39.refl s, rfl⟩ trivial
  refine ⟨n, _, h1, h2, h3, hpost _ _ _ _ _ _ ⟨Cond.after_iff.mpr rfl, Cond.after_iff.mpr (eq_i res_at (Term.int_eval (1)) rfl)⟩ ⟨hq.1, hq.2.1, (hq.2.2.sift fun y hy => Or.inr (N y hy)).mono (by decide) (by decide)⟩⟩
theorem main_1_1 : Claimed_1_1 := comes_1 fun _ _ _ _ _ _ h hF => ⟨h.1, hF⟩
theorem main_1_2 : Claimed_1_2 := comes_1 fun _ _ _ _ _ _ h hF => ⟨h.2, hF⟩
end Jvm.Pilot.@@N@@
namespace Jvm.Pilot.@@N@@
open Jvm Jvm.ClassFile Sem Op Lib Jvm.Free Jvm.Stand Jvm.Pilot.@@N@@.Jvm.D
/-! MADE BY PROGRAM (witnessworld.py) out of the Statement's table words and the real class files: 20 classes; the members and pool entries that the words name. The judged class is class 1, her method 1. -/
namespace start1
open Jvm.ClassFile
def u (s : String) : CpInfo := .utf8 (stringToUtf16 s)
/-- a pool by its gaps: so many unusable entries, then the entry; so many at the end -/
def gap : Nat → List CpInfo → List CpInfo
  | 0, r => r
  | n + 1, r => .unusable :: gap n r
def poolList (es : List (Nat × CpInfo)) (last : Nat) : List CpInfo := es.foldr (fun e r => gap e.1 (e.2 :: r)) (gap last [])
def pool (es : List (Nat × CpInfo)) (last : Nat) : Array CpInfo := ⟨poolList es last⟩
def fileOf (pool : Array CpInfo) (this : Nat) (attrs : Array Attribute := #[]) (ms : Array MethodInfo := #[]) (fl : Nat := 33) (sup : Nat := 0) (ifs : Array Nat := #[]) (fds : Array FieldInfo := #[]) : ClassFile where
  minorVersion := 0
  majorVersion := 65
  constantPool := pool
  accessFlags := fl
  thisClass := this
  superClass := sup
  interfaces := ifs
  fields := fds
  methods := ms
  attributes := attrs
def plain (name : String) (sup : Option ClassId) : Class where
  name := name
  kind := .ordinary
  loader := none
  accessFlags := 33
  super := sup
  interfaces := #[]
  cf := none
  fields := #[]
  methods := #[]
  instanceTypes := #[]
  staticTypes := #[]
  resolved := #[]
  callSites := []
  init := .initialized
  statics := none
  mirror := none

def pool0 : Array CpInfo := pool [(5, u "<init>"), (0, u "()V"), (1, .class_ 10), (1, u "java/lang/Object")] 113

def k0c0 : Code := { maxStack := 0, maxLocals := 1, code := object_method_1_code, exceptionTable := #[], attributes := #[] }
def k0m0 : Method := { name := "<init>", desc := "()V", sig := { parameters := [], returnType := none }, accessFlags := 1, code := some k0c0 }
/-- java/lang/Object -/
def k0 : Class := { plain "java/lang/Object" none with
  accessFlags := 33
  interfaces := #[]
  cf := some (fileOf pool0 8 #[] #[{ accessFlags := 1, nameIndex := 5, descriptorIndex := 6, attributes := #[] }] 33 0 #[] #[])
  fields := #[]
  methods := #[k0m0]
  instanceTypes := #[]
  staticTypes := #[]
  resolved := Array.replicate 124 none
  statics := none }

def pool1 : Array CpInfo := pool [(2, .class_ 4), (0, .nameAndType 5 6), (0, u "java/lang/Object"), (0, u "<init>"), (0, u "()V"), (0, .class_ 8), (0, u "com/example/keywright/keywright/Snapshot$Setting"), (0, .class_ 10), (0, u "java/util/ArrayList"), (0, .methodref 9 3), (0, .methodref 7 13), (0, .nameAndType 5 14), (0, u "(ZILjava/util/List;)V"), (0, .methodref 7 16), (0, .nameAndType 17 18), (0, u "stronger"), (0, u "(Lcom/example/keywright/keywright/Snapshot$Setting;Lcom/example/keywright/keywright/Snapshot$Setting;)Lcom/example/keywright/keywright/Snapshot$Setting;"), (0, .methodref 20 21), (0, .class_ 22), (0, .nameAndType 23 24), (0, u "java/lang/Math"), (0, u "min"), (0, u "(II)I"), (0, .methodref 7 26), (0, .nameAndType 27 28), (0, u "width"), (0, u "()I"), (0, .methodref 7 30), (0, .nameAndType 31 32), (0, u "deny"), (0, u "()Z"), (0, .class_ 34), (0, u "com/example/keywright/keywright/SettingStrongerPinLaw"), (2, u "law"), (0, u "(III)Z")] 7

def k1m0 : Method := { name := "<init>", desc := "()V", sig := { parameters := [], returnType := none }, accessFlags := 1, code := none }
def k1c1 : Code := { maxStack := 6, maxLocals := 11, code := code, exceptionTable := #[], attributes := #[] }
def k1m1 : Method := { name := "law", desc := "(III)Z", sig := { parameters := [.int, .int, .int], returnType := some .boolean }, accessFlags := 9, code := some k1c1 }
/-- com/example/keywright/keywright/SettingStrongerPinLaw -/
def k1 : Class := { plain "com/example/keywright/keywright/SettingStrongerPinLaw" (some 0) with
  accessFlags := 49
  interfaces := #[]
  cf := some (fileOf pool1 33 #[] #[{ accessFlags := 1, nameIndex := 5, descriptorIndex := 6, attributes := #[] }, { accessFlags := 9, nameIndex := 37, descriptorIndex := 38, attributes := #[] }] 49 2 #[] #[])
  fields := #[]
  methods := #[k1m0, k1m1]
  instanceTypes := #[]
  staticTypes := #[]
  resolved := Array.replicate 46 none
  statics := none }

def pool2 : Array CpInfo := pool [(1, .methodref 2 3), (0, .class_ 4), (0, .nameAndType 5 6), (0, u "java/lang/Object"), (0, u "<init>"), (0, u "()V"), (0, .class_ 8), (0, u "java/lang/Record")] 13

def k2c0 : Code := { maxStack := 1, maxLocals := 1, code := jdk_30_method_1_code, exceptionTable := #[], attributes := #[] }
def k2m0 : Method := { name := "<init>", desc := "()V", sig := { parameters := [], returnType := none }, accessFlags := 4, code := some k2c0 }
/-- java/lang/Record -/
def k2 : Class := { plain "java/lang/Record" (some 0) with
  accessFlags := 1057
  interfaces := #[]
  cf := some (fileOf pool2 7 #[] #[{ accessFlags := 4, nameIndex := 5, descriptorIndex := 6, attributes := #[] }] 1057 2 #[] #[])
  fields := #[]
  methods := #[k2m0]
  instanceTypes := #[]
  staticTypes := #[]
  resolved := Array.replicate 22 none
  statics := none }

def pool3 : Array CpInfo := pool [(1, .methodref 2 3), (0, .class_ 4), (0, .nameAndType 5 6), (0, u "java/lang/Record"), (0, u "<init>"), (0, u "()V"), (0, .fieldref 8 9), (0, .class_ 10), (0, .nameAndType 11 12), (0, u "com/example/keywright/keywright/Snapshot$Setting"), (0, u "deny"), (0, u "Z"), (0, .fieldref 8 14), (0, .nameAndType 15 16), (0, u "width"), (0, u "I"), (0, .fieldref 8 18), (0, .nameAndType 19 20), (0, u "lines"), (0, u "Ljava/util/List;"), (6, u "stronger"), (0, u "(Lcom/example/keywright/keywright/Snapshot$Setting;Lcom/example/keywright/keywright/Snapshot$Setting;)Lcom/example/keywright/keywright/Snapshot$Setting;"), (13, u "(ZILjava/util/List;)V"), (14, u "NAMED"), (9, u "()I"), (1, u "()Z"), (5, .class_ 76), (0, u "com/example/keywright/keywright/Snapshot")] 26

def k3c0 : Code := { maxStack := 2, maxLocals := 4, code := prog_29_method_1_code, exceptionTable := #[], attributes := #[] }
def k3m0 : Method := { name := "<init>", desc := "(ZILjava/util/List;)V", sig := { parameters := [.boolean, .int, (.object "java/util/List")], returnType := none }, accessFlags := 0, code := some k3c0 }
def k3c1 : Code := { maxStack := 2, maxLocals := 2, code := prog_29_method_2_code, exceptionTable := #[], attributes := #[] }
def k3m1 : Method := { name := "stronger", desc := "(Lcom/example/keywright/keywright/Snapshot$Setting;Lcom/example/keywright/keywright/Snapshot$Setting;)Lcom/example/keywright/keywright/Snapshot$Setting;", sig := { parameters := [(.object "com/example/keywright/keywright/Snapshot$Setting"), (.object "com/example/keywright/keywright/Snapshot$Setting")], returnType := some (.object "com/example/keywright/keywright/Snapshot$Setting") }, accessFlags := 8, code := some k3c1 }
def k3c2 : Code := { maxStack := 1, maxLocals := 1, code := prog_29_method_8_code, exceptionTable := #[], attributes := #[] }
def k3m2 : Method := { name := "deny", desc := "()Z", sig := { parameters := [], returnType := some .boolean }, accessFlags := 1, code := some k3c2 }
def k3c3 : Code := { maxStack := 1, maxLocals := 1, code := prog_29_method_9_code, exceptionTable := #[], attributes := #[] }
def k3m3 : Method := { name := "width", desc := "()I", sig := { parameters := [], returnType := some .int }, accessFlags := 1, code := some k3c3 }
/-- com/example/keywright/keywright/Snapshot$Setting -/
def k3 : Class := { plain "com/example/keywright/keywright/Snapshot$Setting" (some 2) with
  accessFlags := 48
  interfaces := #[]
  cf := some (fileOf pool3 8 #[.nestHost 75] #[{ accessFlags := 0, nameIndex := 5, descriptorIndex := 42, attributes := #[] }, { accessFlags := 8, nameIndex := 27, descriptorIndex := 28, attributes := #[] }, { accessFlags := 1, nameIndex := 11, descriptorIndex := 69, attributes := #[] }, { accessFlags := 1, nameIndex := 15, descriptorIndex := 67, attributes := #[] }] 48 2 #[] #[{ accessFlags := 18, nameIndex := 11, descriptorIndex := 12, attributes := #[] }, { accessFlags := 18, nameIndex := 15, descriptorIndex := 16, attributes := #[] }, { accessFlags := 18, nameIndex := 19, descriptorIndex := 20, attributes := #[] }, { accessFlags := 24, nameIndex := 57, descriptorIndex := 16, attributes := #[] }])
  fields := #[{ name := "deny", type := .boolean, accessFlags := 18, slot := 0, constantValue := 0 }, { name := "width", type := .int, accessFlags := 18, slot := 1, constantValue := 0 }, { name := "lines", type := (.object "java/util/List"), accessFlags := 18, slot := 2, constantValue := 0 }, { name := "NAMED", type := .int, accessFlags := 24, slot := 0, constantValue := 0 }]
  methods := #[k3m0, k3m1, k3m2, k3m3]
  instanceTypes := #[.boolean, .int, (.object "java/util/List")]
  staticTypes := #[.int]
  resolved := Array.replicate 103 none
  statics := none }

def pool4 : Array CpInfo := pool [(8, .class_ 10), (1, u "java/lang/Iterable"), (24, .class_ 36), (0, u "java/lang/Object")] 25

/-- java/lang/Iterable -/
def k4 : Class := { plain "java/lang/Iterable" (some 0) with
  accessFlags := 1537
  interfaces := #[]
  cf := some (fileOf pool4 8 #[] #[] 1537 35 #[] #[])
  fields := #[]
  methods := #[]
  instanceTypes := #[]
  staticTypes := #[]
  resolved := Array.replicate 62 none
  statics := none }

def pool5 : Array CpInfo := pool [(10, .class_ 12), (1, u "java/util/Collection"), (47, .class_ 61), (0, u "java/lang/Object"), (0, .class_ 63), (0, u "java/lang/Iterable")] 51

/-- java/util/Collection -/
def k5 : Class := { plain "java/util/Collection" (some 0) with
  accessFlags := 1537
  interfaces := #[4]
  cf := some (fileOf pool5 10 #[] #[] 1537 60 #[62] #[])
  fields := #[]
  methods := #[]
  instanceTypes := #[]
  staticTypes := #[]
  resolved := Array.replicate 115 none
  statics := none }

def pool6 : Array CpInfo := pool [(1, .methodref 2 3), (0, .class_ 4), (0, .nameAndType 5 6), (0, u "java/lang/Object"), (0, u "<init>"), (0, u "()V"), (1, .class_ 10), (1, u "java/util/AbstractCollection"), (66, .class_ 78), (0, u "java/util/Collection")] 81

def k6c0 : Code := { maxStack := 1, maxLocals := 1, code := jdk_22_method_1_code, exceptionTable := #[], attributes := #[] }
def k6m0 : Method := { name := "<init>", desc := "()V", sig := { parameters := [], returnType := none }, accessFlags := 4, code := some k6c0 }
/-- java/util/AbstractCollection -/
def k6 : Class := { plain "java/util/AbstractCollection" (some 0) with
  accessFlags := 1057
  interfaces := #[5]
  cf := some (fileOf pool6 8 #[] #[{ accessFlags := 4, nameIndex := 5, descriptorIndex := 6, attributes := #[] }] 1057 2 #[77] #[])
  fields := #[]
  methods := #[k6m0]
  instanceTypes := #[]
  staticTypes := #[]
  resolved := Array.replicate 160 none
  statics := none }

def pool7 : Array CpInfo := pool [(8, .class_ 10), (1, u "java/util/SequencedCollection"), (15, .class_ 27), (0, u "java/lang/Object"), (0, .class_ 29), (0, u "java/util/Collection")] 27

/-- java/util/SequencedCollection -/
def k7 : Class := { plain "java/util/SequencedCollection" (some 0) with
  accessFlags := 1537
  interfaces := #[5]
  cf := some (fileOf pool7 8 #[] #[] 1537 26 #[28] #[])
  fields := #[]
  methods := #[]
  instanceTypes := #[]
  staticTypes := #[]
  resolved := Array.replicate 57 none
  statics := none }

def pool8 : Array CpInfo := pool [(8, .class_ 10), (1, u "java/util/List"), (92, .class_ 104), (0, u "java/lang/Object"), (15, .class_ 121), (0, u "java/util/SequencedCollection")] 129

/-- java/util/List -/
def k8 : Class := { plain "java/util/List" (some 0) with
  accessFlags := 1537
  interfaces := #[7]
  cf := some (fileOf pool8 8 #[] #[] 1537 103 #[120] #[])
  fields := #[]
  methods := #[]
  instanceTypes := #[]
  staticTypes := #[]
  resolved := Array.replicate 251 none
  statics := none }

def pool9 : Array CpInfo := pool [(1, .methodref 2 3), (0, .class_ 4), (0, .nameAndType 5 6), (0, u "java/util/AbstractCollection"), (0, u "<init>"), (0, u "()V"), (0, .fieldref 8 9), (0, .class_ 10), (0, .nameAndType 11 12), (0, u "java/util/AbstractList"), (0, u "modCount"), (0, u "I"), (64, .class_ 78), (0, u "java/util/AbstractList$Itr"), (3, .class_ 83), (0, u "java/util/AbstractList$ListItr"), (9, .class_ 94), (0, u "java/util/AbstractList$RandomAccessSubList"), (3, .class_ 99), (0, u "java/util/AbstractList$SubList"), (33, .class_ 134), (0, u "java/util/List"), (73, .class_ 209), (0, u "java/util/AbstractList$SubList$1"), (0, .class_ 211), (0, u "java/util/AbstractList$RandomAccessSpliterator")] 6

def k9c0 : Code := { maxStack := 2, maxLocals := 1, code := jdk_39_method_1_code, exceptionTable := #[], attributes := #[] }
def k9m0 : Method := { name := "<init>", desc := "()V", sig := { parameters := [], returnType := none }, accessFlags := 4, code := some k9c0 }
/-- java/util/AbstractList -/
def k9 : Class := { plain "java/util/AbstractList" (some 6) with
  accessFlags := 1057
  interfaces := #[8]
  cf := some (fileOf pool9 8 #[.nestMembers #[93, 98, 208, 210, 82, 77]] #[{ accessFlags := 4, nameIndex := 5, descriptorIndex := 6, attributes := #[] }] 1057 2 #[133] #[{ accessFlags := 132, nameIndex := 11, descriptorIndex := 12, attributes := #[] }])
  fields := #[{ name := "modCount", type := .int, accessFlags := 132, slot := 0, constantValue := 0 }]
  methods := #[k9m0]
  instanceTypes := #[.int]
  staticTypes := #[]
  resolved := Array.replicate 218 none
  statics := none }

def pool10 : Array CpInfo := pool [(1, .class_ 2), (0, u "java/util/RandomAccess"), (0, .class_ 4), (0, u "java/lang/Object")] 2

/-- java/util/RandomAccess -/
def k10 : Class := { plain "java/util/RandomAccess" (some 0) with
  accessFlags := 1537
  interfaces := #[]
  cf := some (fileOf pool10 1 #[] #[] 1537 3 #[] #[])
  fields := #[]
  methods := #[]
  instanceTypes := #[]
  staticTypes := #[]
  resolved := Array.replicate 7 none
  statics := none }

def pool11 : Array CpInfo := pool [(1, .class_ 2), (0, u "java/lang/Cloneable"), (0, .class_ 4), (0, u "java/lang/Object")] 2

/-- java/lang/Cloneable -/
def k11 : Class := { plain "java/lang/Cloneable" (some 0) with
  accessFlags := 1537
  interfaces := #[]
  cf := some (fileOf pool11 1 #[] #[] 1537 3 #[] #[])
  fields := #[]
  methods := #[]
  instanceTypes := #[]
  staticTypes := #[]
  resolved := Array.replicate 7 none
  statics := none }

def pool12 : Array CpInfo := pool [(1, .class_ 2), (0, u "java/io/Serializable"), (0, .class_ 4), (0, u "java/lang/Object")] 2

/-- java/io/Serializable -/
def k12 : Class := { plain "java/io/Serializable" (some 0) with
  accessFlags := 1537
  interfaces := #[]
  cf := some (fileOf pool12 1 #[] #[] 1537 3 #[] #[])
  fields := #[]
  methods := #[]
  instanceTypes := #[]
  staticTypes := #[]
  resolved := Array.replicate 7 none
  statics := none }

def pool13 : Array CpInfo := pool [(1, .methodref 2 3), (0, .class_ 4), (0, .nameAndType 5 6), (0, u "java/util/AbstractList"), (0, u "<init>"), (0, u "()V"), (2, .fieldref 10 11), (0, .class_ 12), (0, .nameAndType 13 14), (0, u "java/util/ArrayList"), (0, u "elementData"), (0, u "[Ljava/lang/Object;"), (2, u "EMPTY_ELEMENTDATA"), (21, .fieldref 10 40), (0, .nameAndType 41 14), (0, u "DEFAULTCAPACITY_EMPTY_ELEMENTDATA"), (8, u "size"), (0, u "I"), (96, .class_ 149), (0, u "java/util/List"), (112, .class_ 263), (0, u "java/util/ArrayList$ListItr"), (3, .class_ 268), (0, u "java/util/ArrayList$Itr"), (7, .class_ 277), (0, u "java/util/ArrayList$SubList"), (12, .class_ 291), (0, u "java/util/ArrayList$ArrayListSpliterator"), (37, .class_ 330), (0, u "java/util/RandomAccess"), (0, .class_ 332), (0, u "java/lang/Cloneable"), (0, .class_ 334), (0, u "java/io/Serializable"), (0, u "serialVersionUID"), (0, u "J"), (3, u "DEFAULT_CAPACITY"), (159, .class_ 501), (0, u "java/util/ArrayList$SubList$2"), (0, .class_ 503), (0, u "java/util/ArrayList$SubList$1")] 5

def k13c0 : Code := { maxStack := 2, maxLocals := 1, code := jdk_38_method_2_code, exceptionTable := #[], attributes := #[] }
def k13m0 : Method := { name := "<init>", desc := "()V", sig := { parameters := [], returnType := none }, accessFlags := 1, code := some k13c0 }
/-- java/util/ArrayList -/
def k13 : Class := { plain "java/util/ArrayList" (some 9) with
  accessFlags := 33
  interfaces := #[8, 10, 11, 12]
  cf := some (fileOf pool13 10 #[.nestMembers #[290, 276, 500, 502, 262, 267]] #[{ accessFlags := 1, nameIndex := 5, descriptorIndex := 6, attributes := #[] }] 33 2 #[148, 329, 331, 333] #[{ accessFlags := 26, nameIndex := 335, descriptorIndex := 336, attributes := #[] }, { accessFlags := 26, nameIndex := 340, descriptorIndex := 51, attributes := #[] }, { accessFlags := 26, nameIndex := 17, descriptorIndex := 14, attributes := #[] }, { accessFlags := 26, nameIndex := 41, descriptorIndex := 14, attributes := #[] }, { accessFlags := 128, nameIndex := 13, descriptorIndex := 14, attributes := #[] }, { accessFlags := 2, nameIndex := 50, descriptorIndex := 51, attributes := #[] }])
  fields := #[{ name := "serialVersionUID", type := .long, accessFlags := 26, slot := 0, constantValue := 0 }, { name := "DEFAULT_CAPACITY", type := .int, accessFlags := 26, slot := 1, constantValue := 0 }, { name := "EMPTY_ELEMENTDATA", type := (.array (.object "java/lang/Object")), accessFlags := 26, slot := 2, constantValue := 0 }, { name := "DEFAULTCAPACITY_EMPTY_ELEMENTDATA", type := (.array (.object "java/lang/Object")), accessFlags := 26, slot := 3, constantValue := 0 }, { name := "elementData", type := (.array (.object "java/lang/Object")), accessFlags := 128, slot := 1, constantValue := 0 }, { name := "size", type := .int, accessFlags := 2, slot := 2, constantValue := 0 }]
  methods := #[k13m0]
  instanceTypes := #[.int, (.array (.object "java/lang/Object")), .int]
  staticTypes := #[.long, .int, (.array (.object "java/lang/Object")), (.array (.object "java/lang/Object"))]
  resolved := Array.replicate 509 none
  statics := some 0 }

def pool14 : Array CpInfo := pool [(1, .class_ 2), (0, u "java/lang/Math"), (1, .class_ 6), (1, u "java/lang/Object"), (0, u "<init>"), (0, u "()V"), (89, .class_ 100), (1, u "java/lang/Math$RandomNumberGeneratorHolder"), (71, u "negativeZeroFloatBits"), (0, u "J"), (2, u "negativeZeroDoubleBits"), (24, u "min"), (43, u "$assertionsDisabled"), (0, u "Z"), (88, u "(II)I"), (2, u "twoToTheDoubleScaleDown"), (0, u "D"), (4, u "twoToTheDoubleScaleUp"), (9, u "E"), (3, u "PI"), (2, u "TAU"), (2, u "DEGREES_TO_RADIANS"), (0, u "RADIANS_TO_DEGREES")] 94

def k14m0 : Method := { name := "<init>", desc := "()V", sig := { parameters := [], returnType := none }, accessFlags := 2, code := none }
def k14c1 : Code := { maxStack := 2, maxLocals := 2, code := jdk_29_method_69_code, exceptionTable := #[], attributes := #[] }
def k14m1 : Method := { name := "min", desc := "(II)I", sig := { parameters := [.int, .int], returnType := some .int }, accessFlags := 9, code := some k14c1 }
/-- java/lang/Math -/
def k14 : Class := { plain "java/lang/Math" (some 0) with
  accessFlags := 49
  interfaces := #[]
  cf := some (fileOf pool14 1 #[.nestMembers #[98]] #[{ accessFlags := 2, nameIndex := 7, descriptorIndex := 8, attributes := #[] }, { accessFlags := 9, nameIndex := 201, descriptorIndex := 335, attributes := #[] }] 49 4 #[] #[{ accessFlags := 25, nameIndex := 354, descriptorIndex := 339, attributes := #[] }, { accessFlags := 25, nameIndex := 358, descriptorIndex := 339, attributes := #[] }, { accessFlags := 25, nameIndex := 361, descriptorIndex := 339, attributes := #[] }, { accessFlags := 26, nameIndex := 364, descriptorIndex := 339, attributes := #[] }, { accessFlags := 26, nameIndex := 365, descriptorIndex := 339, attributes := #[] }, { accessFlags := 26, nameIndex := 172, descriptorIndex := 173, attributes := #[] }, { accessFlags := 26, nameIndex := 176, descriptorIndex := 173, attributes := #[] }, { accessFlags := 8, nameIndex := 344, descriptorIndex := 339, attributes := #[] }, { accessFlags := 8, nameIndex := 338, descriptorIndex := 339, attributes := #[] }, { accessFlags := 4120, nameIndex := 245, descriptorIndex := 246, attributes := #[] }])
  fields := #[{ name := "E", type := .double, accessFlags := 25, slot := 0, constantValue := 0 }, { name := "PI", type := .double, accessFlags := 25, slot := 1, constantValue := 0 }, { name := "TAU", type := .double, accessFlags := 25, slot := 2, constantValue := 0 }, { name := "DEGREES_TO_RADIANS", type := .double, accessFlags := 26, slot := 3, constantValue := 0 }, { name := "RADIANS_TO_DEGREES", type := .double, accessFlags := 26, slot := 4, constantValue := 0 }, { name := "negativeZeroFloatBits", type := .long, accessFlags := 26, slot := 5, constantValue := 0 }, { name := "negativeZeroDoubleBits", type := .long, accessFlags := 26, slot := 6, constantValue := 0 }, { name := "twoToTheDoubleScaleUp", type := .double, accessFlags := 8, slot := 7, constantValue := 0 }, { name := "twoToTheDoubleScaleDown", type := .double, accessFlags := 8, slot := 8, constantValue := 0 }, { name := "$assertionsDisabled", type := .boolean, accessFlags := 4120, slot := 9, constantValue := 0 }]
  methods := #[k14m0, k14m1]
  instanceTypes := #[]
  staticTypes := #[.double, .double, .double, .double, .double, .long, .long, .double, .double, .boolean]
  resolved := Array.replicate 460 none
  statics := none }

/-- the primitive byte -/
def k15 : Class := { plain "byte" none with kind := .primitive 'B', accessFlags := 0x411 }
/-- [B -/
def k16 : Class := { plain "[B" (some 0) with kind := .array 15 .byte, interfaces := #[11, 12], accessFlags := 1041 }

/-- the primitive int -/
def k17 : Class := { plain "int" none with kind := .primitive 'I', accessFlags := 0x411 }
/-- [I -/
def k18 : Class := { plain "[I" (some 0) with kind := .array 17 .int, interfaces := #[11, 12], accessFlags := 1041 }

/-- [Ljava/lang/Object; -/
def k19 : Class := { plain "[Ljava/lang/Object;" (some 0) with kind := .array 0 (.object "java/lang/Object"), interfaces := #[11, 12], accessFlags := 1041 }

def heap : Heap := #[{ cls := 13, slots := #[.long 0, .int 0, .ref 1, .ref 2], vm := .statics 13 },
  { cls := 19, slots := #[], vm := .none },
  { cls := 19, slots := #[], vm := .none }]
def classes : Array Class := #[k0, k1, k2, k3, k4, k5, k6, k7, k8, k9, k10, k11, k12, k13, k14, k15, k16, k17, k18, k19]
def interned : List (Array UInt16 × Addr) := []
def slotsUsed : Nat := 4
def theMethod : MethodId := ⟨1, 1⟩
def args0 : Array Value := #[.int 5, .int 7, .int 3]
def aboutOver (below : List Frame) : State where
  vm := { classes := classes, interned := interned.toArray }
  heap := heap
  slotsUsed := slotsUsed
  threads := #[{ frames := .invoking theMethod args0 :: below }]
def below0 : List Frame := [.native { method := ⟨0, 0⟩, args := #[] }]
def about1 : State := aboutOver below0
def p0 : Program := .bare "" "" ""
def e0 : Env := launch0.env 0 0 0
theorem w_frames : about1.frames = Frame.invoking theMethod args0 :: below0 := rfl
set_option maxRecDepth 65536 in
theorem w_args : argsFit about1.vm theMethod args0 = true := by decide +kernel
set_option maxRecDepth 65536 in
theorem w_heap : heapFits about1 = true := by decide +kernel
set_option maxRecDepth 65536 in
theorem w_runnable : about1.curStatus? = some .runnable := by decide +kernel
set_option maxRecDepth 65536 in
theorem w_alone : about1.alone = true := by decide +kernel
set_option maxRecDepth 65536 in
theorem w_named : about1.methodNamed? x = some theMethod := by decide +kernel
set_option maxRecDepth 65536 in
theorem w_hears : about1.hears theMethod below0 = true := by decide +kernel
set_option maxRecDepth 65536 in
theorem w_ripe : about1.ripe theMethod args0 below0 = true := by decide +kernel
theorem w_running : about1.status = .running := rfl
set_option maxRecDepth 65536 in
theorem w_room : about1.hasRoom e0.platform room_1 = true :=
  launch0.hasRoom_least _ room_1 (by decide +kernel) (by decide +kernel) (by decide +kernel) (by decide +kernel) (by decide +kernel) (by decide +kernel)
theorem allAtoms_all (ts : List Jvm.Cond) (a : Array Jvm.Value) (st : Jvm.State) : (allAtoms ts).before a st = ts.all (fun c => c.before a st) := by
  induction ts with
  | nil => rfl
  | cons c t ih =>
    show (Jvm.Cond.and c (allAtoms t)).before a st = _
    rw [Jvm.Cond.before_and, ih, List.all_cons]
def words1 : List Jvm.Cond := Jvm.Cond.code x code maxLocals ret :: tables_1
/-- a 'code' word, met by the world's own term for the bytes: nothing is compared byte by byte -/
theorem code_word {y : MethodName} {bytes : ByteArray} {mx : Nat} {rt : Option FieldType} {a : Array Value} {s : State} {m : MethodId} {meth : Method} {c : Code} (h1 : s.methodNamed? y = some m) (h2 : s.vm.method? m = some meth) (h3 : meth.code = some c) (h4 : c.code = bytes)
    (h5 : (c.maxLocals == mx && c.exceptionTable.isEmpty && decide (c.maxStack ≤ mostOperands) && decide (meth.sig.returnType = rt) && !meth.locks && decide (parseMethodDescriptor y.desc = some meth.sig)) = true) : (Jvm.Cond.code y bytes mx rt).before a s = true := by
  simp only [Bool.and_eq_true, beq_iff_eq, Bool.not_eq_true', decide_eq_true_eq] at h5
  obtain ⟨⟨⟨⟨⟨g1, g2⟩, g3⟩, g4⟩, g5⟩, g6⟩ := h5
  simp [Cond.before, Cond.holds, Cond.value, h1, h2, h3, h4, g1, g2, g3, g4, g5, g6]
def isCode : Jvm.Cond → Bool
  | .code _ _ _ _ => true
  | _ => false
theorem all_split {L : List Jvm.Cond} {P : Jvm.Cond → Bool} (h1 : L.all (fun c => isCode c || P c) = true) (h2 : ∀ c ∈ L.filter isCode, P c = true) : L.all P = true := by
  refine List.all_eq_true.mpr fun c hc => ?_
  have h := List.all_eq_true.mp h1 c hc
  rcases Bool.eq_false_or_eq_true (isCode c) with hi | hi
  · exact h2 c (List.mem_filter.mpr ⟨hc, hi⟩)
  · simpa [hi] using h
set_option maxRecDepth 65536 in
theorem w_c0 : (Jvm.Cond.code x code maxLocals ret).before args0 about1 = true := code_word (m := ⟨1, 1⟩) (meth := k1m1) (c := k1c1) (by decide +kernel) rfl rfl rfl (by decide +kernel)
set_option maxRecDepth 65536 in
theorem w_c1 : (Jvm.Cond.code ({ cls := "java/util/ArrayList", name := "<init>", desc := "()V" } : Jvm.MethodName) jdk_38_method_2_code (1 : Nat) (Option.none : Option Jvm.ClassFile.FieldType)).before args0 about1 = true := code_word (m := ⟨13, 0⟩) (meth := k13m0) (c := k13c0) (by decide +kernel) rfl rfl rfl (by decide +kernel)
set_option maxRecDepth 65536 in
theorem w_c2 : (Jvm.Cond.code ({ cls := "java/util/AbstractList", name := "<init>", desc := "()V" } : Jvm.MethodName) jdk_39_method_1_code (1 : Nat) (Option.none : Option Jvm.ClassFile.FieldType)).before args0 about1 = true := code_word (m := ⟨9, 0⟩) (meth := k9m0) (c := k9c0) (by decide +kernel) rfl rfl rfl (by decide +kernel)
set_option maxRecDepth 65536 in
theorem w_c3 : (Jvm.Cond.code ({ cls := "java/util/AbstractCollection", name := "<init>", desc := "()V" } : Jvm.MethodName) jdk_22_method_1_code (1 : Nat) (Option.none : Option Jvm.ClassFile.FieldType)).before args0 about1 = true := code_word (m := ⟨6, 0⟩) (meth := k6m0) (c := k6c0) (by decide +kernel) rfl rfl rfl (by decide +kernel)
set_option maxRecDepth 65536 in
theorem w_c4 : (Jvm.Cond.code ({ cls := "java/lang/Object", name := "<init>", desc := "()V" } : Jvm.MethodName) object_method_1_code (1 : Nat) (Option.none : Option Jvm.ClassFile.FieldType)).before args0 about1 = true := code_word (m := ⟨0, 0⟩) (meth := k0m0) (c := k0c0) (by decide +kernel) rfl rfl rfl (by decide +kernel)
set_option maxRecDepth 65536 in
theorem w_c5 : (Jvm.Cond.code ({ cls := "com/example/keywright/keywright/Snapshot$Setting", name := "<init>", desc := "(ZILjava/util/List;)V" } : Jvm.MethodName) prog_29_method_1_code (4 : Nat) (Option.none : Option Jvm.ClassFile.FieldType)).before args0 about1 = true := code_word (m := ⟨3, 0⟩) (meth := k3m0) (c := k3c0) (by decide +kernel) rfl rfl rfl (by decide +kernel)
set_option maxRecDepth 65536 in
theorem w_c6 : (Jvm.Cond.code ({ cls := "java/lang/Record", name := "<init>", desc := "()V" } : Jvm.MethodName) jdk_30_method_1_code (1 : Nat) (Option.none : Option Jvm.ClassFile.FieldType)).before args0 about1 = true := code_word (m := ⟨2, 0⟩) (meth := k2m0) (c := k2c0) (by decide +kernel) rfl rfl rfl (by decide +kernel)
set_option maxRecDepth 65536 in
theorem w_c7 : (Jvm.Cond.code ({ cls := "com/example/keywright/keywright/Snapshot$Setting", name := "stronger", desc := "(Lcom/example/keywright/keywright/Snapshot$Setting;Lcom/example/keywright/keywright/Snapshot$Setting;)Lcom/example/keywright/keywright/Snapshot$Setting;" } : Jvm.MethodName) prog_29_method_2_code (2 : Nat) (Option.some (Jvm.ClassFile.FieldType.object "com/example/keywright/keywright/Snapshot$Setting"))).before args0 about1 = true := code_word (m := ⟨3, 1⟩) (meth := k3m1) (c := k3c1) (by decide +kernel) rfl rfl rfl (by decide +kernel)
set_option maxRecDepth 65536 in
theorem w_c8 : (Jvm.Cond.code ({ cls := "java/lang/Math", name := "min", desc := "(II)I" } : Jvm.MethodName) jdk_29_method_69_code (2 : Nat) (Option.some Jvm.ClassFile.FieldType.int)).before args0 about1 = true := code_word (m := ⟨14, 1⟩) (meth := k14m1) (c := k14c1) (by decide +kernel) rfl rfl rfl (by decide +kernel)
set_option maxRecDepth 65536 in
theorem w_c9 : (Jvm.Cond.code ({ cls := "com/example/keywright/keywright/Snapshot$Setting", name := "width", desc := "()I" } : Jvm.MethodName) prog_29_method_9_code (1 : Nat) (Option.some Jvm.ClassFile.FieldType.int)).before args0 about1 = true := code_word (m := ⟨3, 3⟩) (meth := k3m3) (c := k3c3) (by decide +kernel) rfl rfl rfl (by decide +kernel)
set_option maxRecDepth 65536 in
theorem w_c10 : (Jvm.Cond.code ({ cls := "com/example/keywright/keywright/Snapshot$Setting", name := "deny", desc := "()Z" } : Jvm.MethodName) prog_29_method_8_code (1 : Nat) (Option.some Jvm.ClassFile.FieldType.boolean)).before args0 about1 = true := code_word (m := ⟨3, 2⟩) (meth := k3m2) (c := k3c2) (by decide +kernel) rfl rfl rfl (by decide +kernel)
def codes1 : List Jvm.Cond := [Jvm.Cond.code x code maxLocals ret, Jvm.Cond.code ({ cls := "java/util/ArrayList", name := "<init>", desc := "()V" } : Jvm.MethodName) jdk_38_method_2_code (1 : Nat) (Option.none : Option Jvm.ClassFile.FieldType), Jvm.Cond.code ({ cls := "java/util/AbstractList", name := "<init>", desc := "()V" } : Jvm.MethodName) jdk_39_method_1_code (1 : Nat) (Option.none : Option Jvm.ClassFile.FieldType), Jvm.Cond.code ({ cls := "java/util/AbstractCollection", name := "<init>", desc := "()V" } : Jvm.MethodName) jdk_22_method_1_code (1 : Nat) (Option.none : Option Jvm.ClassFile.FieldType), Jvm.Cond.code ({ cls := "java/lang/Object", name := "<init>", desc := "()V" } : Jvm.MethodName) object_method_1_code (1 : Nat) (Option.none : Option Jvm.ClassFile.FieldType), Jvm.Cond.code ({ cls := "com/example/keywright/keywright/Snapshot$Setting", name := "<init>", desc := "(ZILjava/util/List;)V" } : Jvm.MethodName) prog_29_method_1_code (4 : Nat) (Option.none : Option Jvm.ClassFile.FieldType), Jvm.Cond.code ({ cls := "java/lang/Record", name := "<init>", desc := "()V" } : Jvm.MethodName) jdk_30_method_1_code (1 : Nat) (Option.none : Option Jvm.ClassFile.FieldType), Jvm.Cond.code ({ cls := "com/example/keywright/keywright/Snapshot$Setting", name := "stronger", desc := "(Lcom/example/keywright/keywright/Snapshot$Setting;Lcom/example/keywright/keywright/Snapshot$Setting;)Lcom/example/keywright/keywright/Snapshot$Setting;" } : Jvm.MethodName) prog_29_method_2_code (2 : Nat) (Option.some (Jvm.ClassFile.FieldType.object "com/example/keywright/keywright/Snapshot$Setting")), Jvm.Cond.code ({ cls := "java/lang/Math", name := "min", desc := "(II)I" } : Jvm.MethodName) jdk_29_method_69_code (2 : Nat) (Option.some Jvm.ClassFile.FieldType.int), Jvm.Cond.code ({ cls := "com/example/keywright/keywright/Snapshot$Setting", name := "width", desc := "()I" } : Jvm.MethodName) prog_29_method_9_code (1 : Nat) (Option.some Jvm.ClassFile.FieldType.int), Jvm.Cond.code ({ cls := "com/example/keywright/keywright/Snapshot$Setting", name := "deny", desc := "()Z" } : Jvm.MethodName) prog_29_method_8_code (1 : Nat) (Option.some Jvm.ClassFile.FieldType.boolean)]
set_option maxRecDepth 65536 in
theorem codes_eq : words1.filter isCode = codes1 := rfl
theorem w_codes : ∀ c ∈ words1.filter isCode, c.before args0 about1 = true := by
  rw [codes_eq]
  intro c hc
  simp only [codes1, List.mem_cons, List.not_mem_nil, or_false] at hc
  rcases hc with rfl | rfl | rfl | rfl | rfl | rfl | rfl | rfl | rfl | rfl | rfl
  · exact w_c0
  · exact w_c1
  · exact w_c2
  · exact w_c3
  · exact w_c4
  · exact w_c5
  · exact w_c6
  · exact w_c7
  · exact w_c8
  · exact w_c9
  · exact w_c10
set_option maxRecDepth 65536 in
theorem w_t1 : (words1.take 24).all (fun c => isCode c || c.before args0 about1) = true := by decide +kernel
set_option maxRecDepth 65536 in
theorem w_t2 : ((words1.drop 24).take 24).all (fun c => isCode c || c.before args0 about1) = true := by decide +kernel
set_option maxRecDepth 65536 in
theorem w_t3 : ((words1.drop 24).drop 24).all (fun c => isCode c || c.before args0 about1) = true := by decide +kernel
theorem w_tables : (allAtoms (Jvm.Cond.code x code maxLocals ret :: tables_1)).before args0 about1 = true := by
  rw [allAtoms_all]
  show words1.all (fun c => c.before args0 about1) = true
  refine all_split ?_ w_codes
  rw [← List.take_append_drop 24 words1, List.all_append, w_t1, ← List.take_append_drop 24 (words1.drop 24), List.all_append, w_t2, w_t3]
  rfl
set_option maxRecDepth 65536 in
theorem w_rest : rest_1_c.before args0 about1 = true := by decide +kernel
set_option maxRecDepth 65536 in
theorem w_case : (Jvm.Cond.and given_1 narrow_1).before args0 about1 = true := by decide +kernel
theorem w_applies : (headSpec (Jvm.Cond.code x code maxLocals ret :: tables_1) room_1).applies x e0.platform about1 = true :=
  (Spec.applies_iff w_frames).mpr ⟨w_running, w_runnable, w_alone, w_named, w_hears, w_ripe, w_room, w_tables⟩
theorem atStart : AtStart classFile x code maxLocals ret World_1 tables_1 room_1 Calls_1 rest_1 Pre_1 launch0 p0 e0 about1 theMethod args0 below0 :=
  ⟨lists_1, trivial, launch0.admits_env _ _ _, launch0.least_env, fairChoices_fair.cas, fairChoices_fair.clock, w_frames, w_args, w_heap, w_applies, trivial, w_rest, w_case⟩
end start1
theorem witness_1 : WitnessClaimed_1 := ⟨start1.p0, start1.e0, start1.about1, start1.theMethod, start1.args0, start1.below0, start1.atStart⟩
end Jvm.Pilot.@@N@@
