import JvmDerived
import JvmDerived.Pilot.@@N@@Statement
import JvmDerived.Pilot.@@N@@Code
set_option linter.unusedVariables false
set_option linter.unusedSimpArgs false
namespace Jvm.Pilot.@@N@@
open Jvm Jvm.ClassFile Sem Op Lib Jvm.Free Jvm.Stand Jvm.LawKit Jvm.RoadKit Bundle Jvm.Pilot.@@N@@.Jvm.D
/-! own_: the walk's goal in one piece (from this state on the body returns, and what it leaves says Q), its steps, its ends, its calls -/
theorem own_succ (k : Nat) : Int32.ofNat (k + 1) = Int32.ofNat k + 1 := (Int32.ofNat_succ k).symm
section OwnKit
variable {p : Program} {l : Launch} {e : Env} {R : Room} {s : State} {m : MethodId} {args : Array Value} {below : List Frame} {meth : Method} {c : Code} {T : State} {locs : List Loc} {cells slots : Nat} {Z : State} {a0 : Array Value} {h : Heap}
def own_Fin (p : Program) (e : Env) (below : List Frame) (s : State) (Q : Option Value → Heap → List Loc → Prop) (k n : Nat) (U : State) : Prop :=
  ∃ (s₂ : State) (o : Outcome), Steps p.tables e below U s₂ ∧ s₂.status = .running ∧ Ended s₂ below o ∧ ∃ v L, o = .returned v ∧ Q v s₂.heap L ∧ FrameEnd s o s₂ L k n
variable {Q : Option Value → Heap → List Loc → Prop} {k n : Nat}
theorem own_go {U U' : State} (st : ∀ t, Steps p.tables e below U' t → Steps p.tables e below U t) (F : own_Fin p e below s Q k n U') : own_Fin p e below s Q k n U := by
  obtain ⟨s2, o, h1, h2⟩ := F
  exact ⟨s2, o, st _ h1, h2⟩
theorem own_ret (X : Stand p l e R s m args below meth c T locs cells slots) (hx : p.tables.exec = Jvm.exec) {t : FieldType} (hret : meth.sig.returnType = some t) (hlk : meth.locks = false) {pc : Nat} {Ls : Array Slot} {w : Value} {i : Instr} {rest : List Value} (hn : narrow t w = w)
    (hi : (i = .ireturn ∧ (t = .int ∨ t = .boolean ∨ t = .byte ∨ t = .char ∨ t = .short) ∧ ∃ z, w = .int z) ∨ (i = .lreturn ∧ t = .long ∧ ∃ z, w = .long z) ∨ (i = .dreturn ∧ t = .double ∧ ∃ z, w = .double z) ∨ (i = .freturn ∧ t = .float ∧ ∃ z, w = .float z) ∨ (i = .areturn ∧ t.isReference = true ∧ w.isRef = true))
    (hd : decode c.code pc = .ok (i, 1)) (hQ : Q (some w) T.heap locs) (hc : cells ≤ k) (hs : slots ≤ n) : own_Fin p e below s Q k n (T.setTop (mkF m pc Ls (w :: rest))) := by
  obtain ⟨fs, hr, hrun, hended, hW, hsame⟩ := X.leave (v := some w) (fun h => by rw [hret] at h; cases h) hlk
  exact ⟨_, _, retOut X hx hret hn hi hd hr, hrun, hended, _, _, rfl, hQ, ⟨_, rfl⟩, hW, hsame.mono hc hs⟩
theorem own_retI (X : Stand p l e R s m args below meth c T locs cells slots) (hx : p.tables.exec = Jvm.exec) (hret : meth.sig.returnType = some .int) (hlk : meth.locks = false) {pc : Nat} {Ls : Array Slot} {z : Int32} {rest : List Value}
    (hd : decode c.code pc = .ok (.ireturn, 1)) (hQ : Q (some (.int z)) T.heap locs) (hc : cells ≤ k) (hs : slots ≤ n) : own_Fin p e below s Q k n (T.setTop (mkF m pc Ls (.int z :: rest))) :=
  own_ret X hx hret hlk rfl (Or.inl ⟨rfl, Or.inl rfl, z, rfl⟩) hd hQ hc hs
theorem own_retN (X : Stand p l e R s m args below meth c T locs cells slots) (hx : p.tables.exec = Jvm.exec) {t : FieldType} (hret : meth.sig.returnType = some t) (ht : t = .boolean ∨ t = .byte ∨ t = .char ∨ t = .short) (hlk : meth.locks = false) {pc : Nat} {Ls : Array Slot} {z : Int32} {rest : List Value}
    (hd : decode c.code pc = .ok (.ireturn, 1)) (hQ : Q (some (.int (nar t z))) T.heap locs) (hc : cells ≤ k) (hs : slots ≤ n) : own_Fin p e below s Q k n (T.setTop (mkF m pc Ls (.int z :: rest))) := by
  obtain ⟨fs, hr, hrun, hended, hW, hsame⟩ := X.leave (v := some (.int (nar t z))) (fun h => by rw [hret] at h; cases h) hlk
  exact ⟨_, _, retN X hx hret ht hd hr, hrun, hended, _, _, rfl, hQ, ⟨_, rfl⟩, hW, hsame.mono hc hs⟩
theorem own_retL (X : Stand p l e R s m args below meth c T locs cells slots) (hx : p.tables.exec = Jvm.exec) (hret : meth.sig.returnType = some .long) (hlk : meth.locks = false) {pc : Nat} {Ls : Array Slot} {z : Int64} {rest : List Value}
    (hd : decode c.code pc = .ok (.lreturn, 1)) (hQ : Q (some (.long z)) T.heap locs) (hc : cells ≤ k) (hs : slots ≤ n) : own_Fin p e below s Q k n (T.setTop (mkF m pc Ls (.long z :: rest))) :=
  own_ret X hx hret hlk rfl (Or.inr (Or.inl ⟨rfl, rfl, z, rfl⟩)) hd hQ hc hs
theorem own_retA (X : Stand p l e R s m args below meth c T locs cells slots) (hx : p.tables.exec = Jvm.exec) {t : FieldType} (hret : meth.sig.returnType = some t) (ht : t.isReference = true) (hlk : meth.locks = false) {pc : Nat} {Ls : Array Slot} {w : Value} {rest : List Value} (hw : w.isRef = true)
    (hd : decode c.code pc = .ok (.areturn, 1)) (hQ : Q (some w) T.heap locs) (hc : cells ≤ k) (hs : slots ≤ n) : own_Fin p e below s Q k n (T.setTop (mkF m pc Ls (w :: rest))) :=
  own_ret X hx hret hlk (by rcases ref_cases hw with rfl | ⟨z, rfl⟩ <;> cases t <;> rfl) (Or.inr (Or.inr (Or.inr (Or.inr ⟨rfl, ht, hw⟩)))) hd hQ hc hs
theorem own_retV (X : Stand p l e R s m args below meth c T locs cells slots) (hx : p.tables.exec = Jvm.exec) (hret : meth.sig.returnType = none) (hlk : meth.locks = false) {pc : Nat} {Ls : Array Slot}
    (hd : decode c.code pc = .ok (.return_, 1)) (hQ : Q none T.heap locs) (hc : cells ≤ k) (hs : slots ≤ n) : own_Fin p e below s Q k n (T.setTop (mkF m pc Ls [])) := by
  obtain ⟨fs, hr, hrun, hended, hW, hsame⟩ := X.leave (v := none) (fun _ => rfl) hlk
  exact ⟨_, _, X.returnOut hx hret hd hr, hrun, hended, _, _, rfl, hQ, ⟨_, rfl⟩, hW, hsame.mono hc hs⟩
/-- a body's contract: called with these arguments at this heap it returns, and what it leaves says Q -/
abbrev own_C (l : Launch) (Z : State) (y : MethodName) (bytes : ByteArray) (maxL : Nat) (ret : Option FieldType) (ws : List Jvm.Cond) (rm : Room) (as' : Array Value) (h0 : Heap) (Q : Option Value → Heap → List Loc → Prop) : Prop :=
  MetFree l y (head1 (Jvm.Cond.code y bytes maxL ret :: ws) rm) (fun a U => a = as' ∧ Z.Warmed39 U.vm ∧ U.heap = h0) (fun _ _ _ _ _ => True) (fun _ U o U' => ∃ v L, o = .returned v ∧ Q v U'.heap L ∧ FrameEnd U o U' L rm.cells rm.slots)
theorem own_body {y : MethodName} {bytes : ByteArray} {maxL : Nat} {ret : Option FieldType} {ws : List Jvm.Cond} {rm : Room} {as' : Array Value} {h0 : Heap} (hpn : plainFor y = true)
    (body : ∀ (p : Program) (e : Env) (s : State) (m : MethodId) (below : List Frame) (meth : Method) (c : Code) (s₁ : State), p.tables.exec = Jvm.exec → c.code = bytes → c.maxLocals = maxL → meth.sig.returnType = ret → meth.locks = false → s.vm.findClass y.cls = some m.cls → meth.name = y.name → Z.Warmed39 s.vm →
      Stand p l e rm s m as' below meth c s₁ [] 0 0 → s₁.heap = h0 → own_Fin p e below s Q rm.cells rm.slots (s₁.setTop (entryFrame m as' maxL))) : own_C l Z y bytes maxL ret ws rm as' h0 Q := by
  refine MetFree.of_bodySF hpn hisR ?_
  intro p e s m args below meth c s₁ Bd hml0 hP hK
  obtain ⟨rfl, hZ, hh⟩ := hP
  exact body p e s m below meth c s₁ Bd.exec Bd.bytes hml0 Bd.returns Bd.notSynchronized (findClass_of_methodNamed Bd.named) (name_of_methodNamed Bd.named Bd.method).1 hZ (Stand.of_body Bd) (by rw [← hh, Bd.state]; rfl)
theorem own_callS (X : Stand p l e R s m args below meth c T locs cells slots) (hx : p.tables.exec = Jvm.exec) (hZ : Z.Warmed39 s.vm) {own : String} {index : Nat} {y : MethodName} {bytes : ByteArray} {maxL : Nat} {ret : Option FieldType} (hown : s.vm.findClass own = some m.cls)
    (w1 : (Cond.methodLink own index y).before a0 Z = true) (w2 : (Cond.static y).before a0 Z = true) (w3 : (Cond.initialized y.cls).before a0 Z = true) (w4 : (Cond.code y bytes maxL ret).before a0 Z = true) (hy : y.cls ≠ "java/lang/invoke/MethodHandle" ∧ y.cls ≠ "java/lang/invoke/VarHandle")
    {rm : Room} {argsL rest : List Value} {as' : Array Value} (hM : own_C l Z y bytes maxL ret [] rm as' h Q) {W : Nat} (hf : rm.frames + 1 ≤ R.frames) (hl : W + (maxL + 11) + rm.locals ≤ R.locals) {g : JFrame} (hg : g.method = m) (hsize : g.locals.size = c.maxLocals)
    (hlen : ∀ sig, parseMethodDescriptor y.desc = some sig → argsL.length = sig.parameters.length) (hstack : g.stack = argsL.reverse ++ rest) (has : argsL.toArray = as') (hW : 2 * g.monitorRoom + (rest.map fun v => v.category).sum ≤ W) (hdg : decode c.code g.pc = .ok (.invokestatic index, 3)) (eT : T.heap = h)
    (hc : cells + rm.cells ≤ R.cells) (hs : slots + rm.slots ≤ R.slots) :
    ∃ (v : Option Value) (T' : State) (h' : Heap) (L : List Loc), T'.heap = h' ∧ Stand p l e R s m args below meth c T' (locs ++ L) (cells + rm.cells) (slots + rm.slots) ∧ Q v h' L ∧ ∀ target, Steps p.tables e below (T'.setTop { g with pc := g.pc + 3, stack := v.toList ++ rest }) target → Steps p.tables e below (T.setTop g) target := by
  obtain ⟨v, vm, ⟨T', L', k', n'⟩, -, X', ⟨Lc, hQ, l1, y1, z1⟩, st⟩ := Jvm.LawKit.callS X hx (y := y) hown (mvT hZ w1) (mvT hZ w2) (mvT hZ w3) (mvT hZ w4) hy (backOf (W := W) hM hZ w4 w3 hf hl) hg hsize hlen hstack hW hdg (fun _ _ => ⟨has, eT, hc, hs⟩)
  dsimp only [Pt.U, Pt.locs, Pt.cells, Pt.slots] at X' l1 y1 z1 st hQ
  subst l1 y1 z1
  exact ⟨v, T', _, Lc, rfl, X', hQ, st⟩
theorem own_callC (X : Stand p l e R s m args below meth c T locs cells slots) (hx : p.tables.exec = Jvm.exec) (hZ : Z.Warmed39 s.vm) {own : String} {index : Nat} {y : MethodName} {bytes : ByteArray} {maxL : Nat} (hy1 : y.name = "<init>") (hown : s.vm.findClass own = some m.cls)
    (w1 : (Cond.methodLink own index y).before a0 Z = true) (w2 : (Cond.instanceMethod y).before a0 Z = true) (w3 : (Cond.initialized y.cls).before a0 Z = true) (w4 : (Cond.code y bytes maxL none).before a0 Z = true) (hy : y.cls ≠ "java/lang/invoke/MethodHandle" ∧ y.cls ≠ "java/lang/invoke/VarHandle")
    {rm : Room} {a : Addr} {argsL rest : List Value} {as' : Array Value} (hM : own_C l Z y bytes maxL none [] rm as' h Q) {W : Nat} (hf : rm.frames + 1 ≤ R.frames) (hl : W + (maxL + 11) + rm.locals ≤ R.locals) {g : JFrame} (hg : g.method = m) (hsize : g.locals.size = c.maxLocals)
    (hlen : ∀ sig, parseMethodDescriptor y.desc = some sig → argsL.length = sig.parameters.length) (hstack : g.stack = argsL.reverse ++ .ref a :: rest) (has : (.ref a :: argsL).toArray = as') (hW : 2 * g.monitorRoom + (rest.map fun v => v.category).sum ≤ W) (hdg : decode c.code g.pc = .ok (.invokespecial index, 3)) (eT : T.heap = h)
    (hc : cells + rm.cells ≤ R.cells) (hs : slots + rm.slots ≤ R.slots) :
    ∃ (v : Option Value) (T' : State) (h' : Heap) (L : List Loc), T'.heap = h' ∧ Stand p l e R s m args below meth c T' (locs ++ L) (cells + rm.cells) (slots + rm.slots) ∧ Q v h' L ∧ ∀ target, Steps p.tables e below (T'.setTop { g with pc := g.pc + 3, stack := v.toList ++ rest }) target → Steps p.tables e below (T.setTop g) target := by
  obtain ⟨v, vm, ⟨T', L', k', n'⟩, -, X', ⟨Lc, hQ, l1, y1, z1⟩, st⟩ := X.specialBack hx (y := y) hy1 hown (mvT hZ w1) (mvT hZ w2) (mvT hZ w4) hy (backOf (W := W) hM hZ w4 w3 hf hl) hg hsize (Steps.refl _) hlen hstack hW hdg (fun _ _ => ⟨has, eT, hc, hs⟩)
  dsimp only [Pt.U, Pt.locs, Pt.cells, Pt.slots] at X' l1 y1 z1 st hQ
  subst l1 y1 z1
  exact ⟨v, T', _, Lc, rfl, X', hQ, fun _ k => st.trans k⟩
theorem own_callV (X : Stand p l e R s m args below meth c T locs cells slots) (hx : p.tables.exec = Jvm.exec) (hZ : Z.Warmed39 s.vm) {own C : String} {index : Nat} {y z : MethodName} {bytes : ByteArray} {maxL : Nat} {ret : Option FieldType} (hown : s.vm.findClass own = some m.cls)
    (w1 : (Cond.methodLink own index y).before a0 Z = true) (w2 : (Cond.declares y).before a0 Z = true) (hnf : NotFace s y) (w5 : (Cond.selects C y z).before a0 Z = true) (w6 : (Cond.instanceMethod z).before a0 Z = true) (w3 : (Cond.initialized z.cls).before a0 Z = true) (w4 : (Cond.code z bytes maxL ret).before a0 Z = true) (hy : y.cls ≠ "java/lang/invoke/MethodHandle" ∧ y.cls ≠ "java/lang/invoke/VarHandle")
    {rm : Room} {a : Addr} (E : Exa Z h a C) {argsL rest : List Value} {as' : Array Value} (hM : own_C l Z z bytes maxL ret [] rm as' h Q) {W : Nat} (hf : rm.frames + 1 ≤ R.frames) (hl : W + (maxL + 11) + rm.locals ≤ R.locals) {g : JFrame} (hg : g.method = m) (hsize : g.locals.size = c.maxLocals)
    (hlen : ∀ sig, parseMethodDescriptor y.desc = some sig → argsL.length = sig.parameters.length) (hstack : g.stack = argsL.reverse ++ .ref a :: rest) (has : (.ref a :: argsL).toArray = as') (hW : 2 * g.monitorRoom + (rest.map fun v => v.category).sum ≤ W) (hdg : decode c.code g.pc = .ok (.invokevirtual index, 3)) (eT : T.heap = h)
    (hc : cells + rm.cells ≤ R.cells) (hs : slots + rm.slots ≤ R.slots) :
    ∃ (v : Option Value) (T' : State) (h' : Heap) (L : List Loc), T'.heap = h' ∧ Stand p l e R s m args below meth c T' (locs ++ L) (cells + rm.cells) (slots + rm.slots) ∧ Q v h' L ∧ ∀ target, Steps p.tables e below (T'.setTop { g with pc := g.pc + 3, stack := v.toList ++ rest }) target → Steps p.tables e below (T.setTop g) target := by
  obtain ⟨cq, kq, qa, qb, qc⟩ := isOf hZ eT E
  obtain ⟨v, vm, ⟨T', L', k', n'⟩, -, X', ⟨Lc, hQ, l1, y1, z1⟩, st⟩ := X.virtualBack hx (y := y) (z := z) hown (mvT hZ w1) (mvT hZ w2) hnf (mvT hZ w5) (mvT hZ w6) hy (backOf (W := W) hM hZ w4 w3 hf hl) qa qc hg hsize (Steps.refl _) hlen hstack hW hdg (fun _ _ => ⟨has, eT, hc, hs⟩)
  dsimp only [Pt.U, Pt.locs, Pt.cells, Pt.slots] at X' l1 y1 z1 st hQ
  subst l1 y1 z1
  exact ⟨v, T', _, Lc, rfl, X', hQ, fun _ k => st.trans k⟩
theorem own_callI (X : Stand p l e R s m args below meth c T locs cells slots) (hx : p.tables.exec = Jvm.exec) (hZ : Z.Warmed39 s.vm) {own C : String} {index count : Nat} {y z : MethodName} {bytes : ByteArray} {maxL : Nat} {ret : Option FieldType} (hown : s.vm.findClass own = some m.cls)
    (w1 : (Cond.methodLink own index y).before a0 Z = true) (w2 : (Cond.declares y).before a0 Z = true) (w7 : (Cond.interfaceMethod y.cls y.cls y.name y.desc).before args s = true) (w5 : (Cond.selects C y z).before a0 Z = true) (w6 : (Cond.instanceMethod z).before a0 Z = true) (w8 : (Cond.publicMethod z).before a0 Z = true)
    (w9 : (Cond.unhidden C y.name y.desc).before a0 Z = true) (w10 : (Cond.castable C y.cls).before a0 Z = true) (w3 : (Cond.initialized z.cls).before a0 Z = true) (w4 : (Cond.code z bytes maxL ret).before a0 Z = true) (hy : y.cls ≠ "java/lang/invoke/MethodHandle" ∧ y.cls ≠ "java/lang/invoke/VarHandle")
    {rm : Room} {a : Addr} (E : Exa Z h a C) {argsL rest : List Value} {as' : Array Value} (hM : own_C l Z z bytes maxL ret [] rm as' h Q) {W : Nat} (hf : rm.frames + 1 ≤ R.frames) (hl : W + (maxL + 11) + rm.locals ≤ R.locals) {g : JFrame} (hg : g.method = m) (hsize : g.locals.size = c.maxLocals)
    (hlen : ∀ sig, parseMethodDescriptor y.desc = some sig → argsL.length = sig.parameters.length) (hstack : g.stack = argsL.reverse ++ .ref a :: rest) (has : (.ref a :: argsL).toArray = as') (hW : 2 * g.monitorRoom + (rest.map fun v => v.category).sum ≤ W) (hdg : decode c.code g.pc = .ok (.invokeinterface index count, 5)) (eT : T.heap = h)
    (hc : cells + rm.cells ≤ R.cells) (hs : slots + rm.slots ≤ R.slots) :
    ∃ (v : Option Value) (T' : State) (h' : Heap) (L : List Loc), T'.heap = h' ∧ Stand p l e R s m args below meth c T' (locs ++ L) (cells + rm.cells) (slots + rm.slots) ∧ Q v h' L ∧ ∀ target, Steps p.tables e below (T'.setTop { g with pc := g.pc + 5, stack := v.toList ++ rest }) target → Steps p.tables e below (T.setTop g) target := by
  obtain ⟨cq, kq, qa, qb, qc⟩ := isOf hZ eT E
  obtain ⟨v, vm, ⟨T', L', k', n'⟩, -, X', ⟨Lc, hQ, l1, y1, z1⟩, st⟩ := X.interfaceBack hx (xi := y) (y := z) hown (mvT hZ w1) (mvT hZ w2) w7 (mvT hZ w5) (mvT hZ w6) (mvT hZ w8) (mvT hZ w9) (mvT hZ w10) hy (backOf (W := W) hM hZ w4 w3 hf hl) qa qb qc hg hsize (Steps.refl _) hlen hstack hW hdg (fun _ _ => ⟨has, eT, hc, hs⟩)
  dsimp only [Pt.U, Pt.locs, Pt.cells, Pt.slots] at X' l1 y1 z1 st hQ
  subst l1 y1 z1
  exact ⟨v, T', _, Lc, rfl, X', hQ, fun _ k => st.trans k⟩
theorem own_callP (X : Stand p l e R s m args below meth c T locs cells slots) (hx : p.tables.exec = Jvm.exec) (hZ : Z.Warmed39 s.vm) {own C : String} {index : Nat} {y : MethodName} {bytes : ByteArray} {maxL : Nat} {ret : Option FieldType} (hown : s.vm.findClass own = some m.cls)
    (w1 : (Cond.methodLink own index y).before a0 Z = true) (w6 : (Cond.instanceMethod y).before a0 Z = true) (w5 : (Cond.selects y.cls y y).before a0 Z = true) (w7 : (Cond.privateMethod y).before a0 Z = true) (w3 : (Cond.initialized y.cls).before a0 Z = true) (w4 : (Cond.code y bytes maxL ret).before a0 Z = true) (hy : y.cls ≠ "java/lang/invoke/MethodHandle" ∧ y.cls ≠ "java/lang/invoke/VarHandle")
    {rm : Room} {a : Addr} (E : Exa Z h a C) {argsL rest : List Value} {as' : Array Value} (hM : own_C l Z y bytes maxL ret [] rm as' h Q) {W : Nat} (hf : rm.frames + 1 ≤ R.frames) (hl : W + (maxL + 11) + rm.locals ≤ R.locals) {g : JFrame} (hg : g.method = m) (hsize : g.locals.size = c.maxLocals)
    (hlen : ∀ sig, parseMethodDescriptor y.desc = some sig → argsL.length = sig.parameters.length) (hstack : g.stack = argsL.reverse ++ .ref a :: rest) (has : (.ref a :: argsL).toArray = as') (hW : 2 * g.monitorRoom + (rest.map fun v => v.category).sum ≤ W) (hdg : decode c.code g.pc = .ok (.invokevirtual index, 3)) (eT : T.heap = h)
    (hc : cells + rm.cells ≤ R.cells) (hs : slots + rm.slots ≤ R.slots) :
    ∃ (v : Option Value) (T' : State) (h' : Heap) (L : List Loc), T'.heap = h' ∧ Stand p l e R s m args below meth c T' (locs ++ L) (cells + rm.cells) (slots + rm.slots) ∧ Q v h' L ∧ ∀ target, Steps p.tables e below (T'.setTop { g with pc := g.pc + 3, stack := v.toList ++ rest }) target → Steps p.tables e below (T.setTop g) target := by
  obtain ⟨cq, q, q'⟩ := E.cell
  obtain ⟨v, vm, ⟨T', L', k', n'⟩, -, X', ⟨Lc, hQ, l1, y1, z1⟩, st⟩ := X.privateBack hx (y := y) hown (mvT hZ w1) (mvT hZ w6) (mvT hZ w5) (Cond.privateMethod_at (mvP hZ w7 (args := #[]))) (mvT hZ w4) hy (backOf (W := W) hM hZ w4 w3 hf hl) hg hsize (Steps.refl _) (a := a) (by rw [eT]; exact q) q' hlen hstack hW hdg (fun _ _ => ⟨has, eT, hc, hs⟩)
  dsimp only [Pt.U, Pt.locs, Pt.cells, Pt.slots] at X' l1 y1 z1 st hQ
  subst l1 y1 z1
  exact ⟨v, T', _, Lc, rfl, X', hQ, fun _ k => st.trans k⟩
theorem own_lremM {g : JFrame} {target : State} (X : Stand p l e R s m args below meth c T locs cells slots) (hx : p.tables.exec = Jvm.exec) (hg : g.method = m) {x y : Int64} {rest : List Value} (hd : decode c.code g.pc = .ok (.lrem, 1)) (hs : g.stack = .long y :: .long x :: rest) (hy : y ≠ 0)
    (hr : Steps p.tables e below (T.setTop { g with pc := g.pc + 1, stack := .long (x % y) :: rest }) target) : Steps p.tables e below (T.setTop g) target :=
  XS.lrem X.here hx hg hd hs hy (by rw [lrem_mod]; exact hr)
theorem own_mono (X : Stand p l e R s m args below meth c T locs cells slots) {cells' slots' : Nat} (hc : cells ≤ cells') (hs : slots ≤ slots') : Stand p l e R s m args below meth c T locs cells' slots' :=
  ⟨X.admits, X.cas, X.clock, X.frames, X.room, X.hears, X.method, X.code, X.here, X.tail, X.warmed, X.limits, X.bytes, X.same.mono hc hs⟩
end OwnKit
section OwnArr
variable {Z : State} {h h' : Heap} {a b : Addr} {k : ClassId} {ty : FieldType} {vs : List Value} {v : Value} {sl : Nat} {wl : List Addr}
/-- the array at a holds just these values -/
def own_Ar (Z : State) (h : Heap) (a : Addr) (k : ClassId) (ty : FieldType) (vs : List Value) : Prop := ∃ c : Cell, Arr Z h a c ty ∧ c.cls = k ∧ c.slots = vs.toArray ∧ vs.length < 2 ^ 31 ∧ ∀ v ∈ vs, fits ty v = true
theorem own_Ar.lt (F : own_Ar Z h a k ty vs) : a < h.size := by obtain ⟨c, A, -⟩ := F; exact A.lt
theorem own_Ar.ext (F : own_Ar Z h a k ty vs) (E : Ext h h') : own_Ar Z h' a k ty vs := by obtain ⟨c, A, r⟩ := F; exact ⟨c, A.ext E, r⟩
theorem own_Ar.other (F : own_Ar Z h b k ty vs) (W : Wr h h' a sl v) (q : b ≠ a) : own_Ar Z h' b k ty vs := by obtain ⟨c, A, r⟩ := F; exact ⟨c, A.other W q, r⟩
theorem own_Ar.keep (F : own_Ar Z h a k ty vs) (K : Keep h h' wl) (q : a ∉ wl) : own_Ar Z h' a k ty vs := by obtain ⟨c, A, r⟩ := F; exact ⟨c, ⟨K.2.1 _ _ A.1 q, A.2⟩, r⟩
theorem own_Ar.new {z : Int32} (A : Arr Z h a (newA k ty z) ty) (hf : fits ty (defaultValue ty) = true) : own_Ar Z h a k ty (List.replicate z.toNatClampNeg (defaultValue ty)) := by
  refine ⟨_, A, rfl, by simp [newA], ?_, fun v hv => by rw [List.eq_of_mem_replicate hv]; exact hf⟩
  rw [List.length_replicate]
  have := z.toInt_lt
  rw [Int32.toNatClampNeg]
  omega
theorem own_Ar.set {j : Nat} (F : own_Ar Z h a k ty vs) (W : Wr h h' a j v) (hv : fits ty v = true) : own_Ar Z h' a k ty (vs.set j v) := by
  obtain ⟨c, A, q, s, l, f⟩ := F
  refine ⟨_, A.same W, q, ?_, by rw [List.length_set]; exact l, fun w hw => ?_⟩
  · show c.slots.setIfInBounds j v = _
    rw [s]; simp
  · rcases List.mem_or_eq_of_mem_set hw with hw | rfl
    · exact f w hw
    · exact hv
theorem own_Ar.arv (F : own_Ar Z h a k ty vs) (d : Value) : Arv Z h a k ty (Int32.ofNat vs.length) vs d := by
  obtain ⟨c, A, q, s, l, f⟩ := F
  have hl : (Int32.ofNat vs.length).toNatClampNeg = vs.length := by
    rw [Int32.toNatClampNeg, Int32.toInt_ofNat_of_lt (by omega)]; rfl
  have h0 : ¬ Int32.ofNat vs.length < 0 := by
    rw [Int32.lt_iff_toInt_lt, Int32.toInt_ofNat_of_lt (by omega)]; simp
  refine ⟨c, A, q, by rw [s, hl]; simp, h0, fun i hi => ?_, fun i hi => ?_⟩
  · rw [s] at hi ⊢
    simp only [List.size_toArray] at hi
    simp [List.getD, List.getElem?_eq_getElem hi]
  · rw [s] at hi
    simp only [List.size_toArray] at hi
    simp only [List.getD, List.getElem?_eq_getElem hi, Option.getD_some]
    exact f _ (List.getElem_mem hi)
theorem own_Ar.of_arv {z : Int32} {d : Value} (F : Arv Z h a k ty z vs d) (hl : z.toNatClampNeg = vs.length) : own_Ar Z h a k ty vs := by
  obtain ⟨c, A, q, s, l, H, f⟩ := F
  have hs : c.slots.size = vs.length := s.trans hl
  have e : c.slots = vs.toArray := by
    apply Array.ext_getElem?
    intro i
    by_cases hi : i < c.slots.size
    · rw [H i hi]
      have hi' : i < vs.length := hs ▸ hi
      simp [List.getD, List.getElem?_eq_getElem hi']
    · rw [Array.getElem?_eq_none (Nat.le_of_not_lt hi), Array.getElem?_eq_none (by simpa [← hs] using Nat.le_of_not_lt hi)]
  refine ⟨c, A, q, e, ?_, fun v hv => ?_⟩
  · rw [← hl]; have := z.toInt_lt; rw [Int32.toNatClampNeg]; omega
  · obtain ⟨i, hi, rfl⟩ := List.mem_iff_getElem.mp hv
    have := f i (hs ▸ hi)
    simpa [List.getD, List.getElem?_eq_getElem hi] using this
end OwnArr
section OwnArrSteps
variable {p : Program} {l : Launch} {e : Env} {R : Room} {s : State} {m : MethodId} {args : Array Value} {below : List Frame} {meth : Method} {c : Code} {T : State} {locs : List Loc} {cells slots : Nat} {Z : State} {a0 : Array Value} {h : Heap} {a : Addr} {k : ClassId} {ty : FieldType} {vs : List Value} {v : Value}
theorem own_inb {c : Cell} {vs : List Value} {j : Int32} (hs : c.slots = vs.toArray) (h0 : ¬ j < 0) (hj : j.toNatClampNeg < vs.length) : ¬ (j < 0 ∨ c.slots.size ≤ j.toNatClampNeg) := by
  rw [hs]; rintro (q | q)
  · exact h0 q
  · simp only [List.size_toArray] at q; omega
theorem own_arrlen (X : Stand p l e R s m args below meth c T locs cells slots) (hx : p.tables.exec = Jvm.exec) (hZ : Z.Warmed39 s.vm) (eT : T.heap = h) (F : own_Ar Z h a k ty vs) {n : Int32} (hn : Int32.ofNat vs.length = n) {g : JFrame} (hg : g.method = m) {rest : List Value} (hs : g.stack = .ref a :: rest) (hd : decode c.code g.pc = .ok (.arraylength, 1)) :
    ∀ target, Steps p.tables e below (T.setTop { g with pc := g.pc + 1, stack := .int n :: rest }) target → Steps p.tables e below (T.setTop g) target := by
  obtain ⟨cl, A, q, sz, ln, f⟩ := F
  intro t kk
  refine X.arraylength hx (by rw [eT]; exact A.1) (State.isArrayOf_alike hZ.alike A.2.1) hg hs hd t ?_
  have : cl.slots.size.toInt32 = n := by rw [sz, ← hn]; rfl
  rw [this]; exact kk
theorem own_iaload (X : Stand p l e R s m args below meth c T locs cells slots) (hx : p.tables.exec = Jvm.exec) (hZ : Z.Warmed39 s.vm) (eT : T.heap = h) (F : own_Ar Z h a k .int vs) {j : Int32} (h0 : ¬ j < 0) {i : Nat} (hj : j.toNatClampNeg = i) (hv : vs[i]? = some v) {g : JFrame} (hg : g.method = m) {rest : List Value} (hs : g.stack = .int j :: .ref a :: rest) (hd : decode c.code g.pc = .ok (.iaload, 1)) :
    ∀ target, Steps p.tables e below (T.setTop { g with pc := g.pc + 1, stack := v :: rest }) target → Steps p.tables e below (T.setTop g) target := by
  obtain ⟨cl, A, q, sz, ln, f⟩ := F
  subst hj
  exact X.iaload hx (by rw [eT]; exact A.1) (State.isArrayOf_alike hZ.alike A.2.1) A.2.2 (own_inb sz h0 (List.getElem?_eq_some_iff.mp hv).1) (by rw [sz]; simpa using hv) hg hs hd
theorem own_laload (X : Stand p l e R s m args below meth c T locs cells slots) (hx : p.tables.exec = Jvm.exec) (hZ : Z.Warmed39 s.vm) (eT : T.heap = h) (F : own_Ar Z h a k .long vs) {j : Int32} (h0 : ¬ j < 0) {i : Nat} (hj : j.toNatClampNeg = i) (hv : vs[i]? = some v) {g : JFrame} (hg : g.method = m) {rest : List Value} (hs : g.stack = .int j :: .ref a :: rest) (hd : decode c.code g.pc = .ok (.laload, 1)) :
    ∀ target, Steps p.tables e below (T.setTop { g with pc := g.pc + 1, stack := v :: rest }) target → Steps p.tables e below (T.setTop g) target := by
  obtain ⟨cl, A, q, sz, ln, f⟩ := F
  subst hj
  exact X.laload hx (by rw [eT]; exact A.1) (State.isArrayOf_alike hZ.alike A.2.1) A.2.2 (own_inb sz h0 (List.getElem?_eq_some_iff.mp hv).1) (by rw [sz]; simpa using hv) hg hs hd
theorem own_baload (X : Stand p l e R s m args below meth c T locs cells slots) (hx : p.tables.exec = Jvm.exec) (hZ : Z.Warmed39 s.vm) (eT : T.heap = h) (F : own_Ar Z h a k .byte vs) {j : Int32} (h0 : ¬ j < 0) {i : Nat} (hj : j.toNatClampNeg = i) (hv : vs[i]? = some v) {g : JFrame} (hg : g.method = m) {rest : List Value} (hs : g.stack = .int j :: .ref a :: rest) (hd : decode c.code g.pc = .ok (.baload, 1)) :
    ∀ target, Steps p.tables e below (T.setTop { g with pc := g.pc + 1, stack := v :: rest }) target → Steps p.tables e below (T.setTop g) target := by
  obtain ⟨cl, A, q, sz, ln, f⟩ := F
  subst hj
  exact X.baloadBytes hx (by rw [eT]; exact A.1) (State.isArrayOf_alike hZ.alike A.2.1) A.2.2 (own_inb sz h0 (List.getElem?_eq_some_iff.mp hv).1) (by rw [sz]; simpa using hv) hg hs hd
theorem own_aaload (X : Stand p l e R s m args below meth c T locs cells slots) (hx : p.tables.exec = Jvm.exec) (hZ : Z.Warmed39 s.vm) (eT : T.heap = h) (F : own_Ar Z h a k ty vs) (hty : ty.isReference = true) {j : Int32} (h0 : ¬ j < 0) {i : Nat} (hj : j.toNatClampNeg = i) (hv : vs[i]? = some v) {g : JFrame} (hg : g.method = m) {rest : List Value} (hs : g.stack = .int j :: .ref a :: rest) (hd : decode c.code g.pc = .ok (.aaload, 1)) :
    ∀ target, Steps p.tables e below (T.setTop { g with pc := g.pc + 1, stack := v :: rest }) target → Steps p.tables e below (T.setTop g) target := by
  obtain ⟨cl, A, q, sz, ln, f⟩ := F
  subst hj
  exact X.aaload hx (by rw [eT]; exact A.1) (State.isArrayOf_alike hZ.alike A.2.1) hty A.2.2 (own_inb sz h0 (List.getElem?_eq_some_iff.mp hv).1) (by rw [sz]; simpa using hv) hg hs hd
theorem own_iastore (X : Stand p l e R s m args below meth c T locs cells slots) (hx : p.tables.exec = Jvm.exec) (hZ : Z.Warmed39 s.vm) (eT : T.heap = h) (F : own_Ar Z h a k .int vs) {j x : Int32} (h0 : ¬ j < 0) {i : Nat} (hj : j.toNatClampNeg = i) (hi : i < vs.length) {g : JFrame} (hg : g.method = m) {rest : List Value} (hs : g.stack = .int x :: .int j :: .ref a :: rest) (hd : decode c.code g.pc = .ok (.iastore, 1)) :
    ∃ T' h', Stand p l e R s m args below meth c T' (locs ++ [⟨a, i⟩]) cells slots ∧ T'.heap = h' ∧ Wr h h' a i (.int x) ∧ own_Ar Z h' a k .int (vs.set i (.int x)) ∧ ∀ target, Steps p.tables e below (T'.setTop { g with pc := g.pc + 1, stack := rest }) target → Steps p.tables e below (T.setTop g) target := by
  have F' := F
  obtain ⟨cl, A, q, sz, ln, f⟩ := F
  subst hj
  obtain ⟨T', h', X', e', W, st⟩ := stI X hx hZ eT A (own_inb sz h0 hi) hg hs hd
  exact ⟨T', h', X', e', W, F'.set W rfl, st⟩
theorem own_lastore (X : Stand p l e R s m args below meth c T locs cells slots) (hx : p.tables.exec = Jvm.exec) (hZ : Z.Warmed39 s.vm) (eT : T.heap = h) (F : own_Ar Z h a k .long vs) {j : Int32} {x : Int64} (h0 : ¬ j < 0) {i : Nat} (hj : j.toNatClampNeg = i) (hi : i < vs.length) {g : JFrame} (hg : g.method = m) {rest : List Value} (hs : g.stack = .long x :: .int j :: .ref a :: rest) (hd : decode c.code g.pc = .ok (.lastore, 1)) :
    ∃ T' h', Stand p l e R s m args below meth c T' (locs ++ [⟨a, i⟩]) cells slots ∧ T'.heap = h' ∧ Wr h h' a i (.long x) ∧ own_Ar Z h' a k .long (vs.set i (.long x)) ∧ ∀ target, Steps p.tables e below (T'.setTop { g with pc := g.pc + 1, stack := rest }) target → Steps p.tables e below (T.setTop g) target := by
  have F' := F
  obtain ⟨cl, A, q, sz, ln, f⟩ := F
  subst hj
  obtain ⟨T', h', X', e', W, st⟩ := stJ X hx hZ eT A (own_inb sz h0 hi) hg hs hd
  exact ⟨T', h', X', e', W, F'.set W rfl, st⟩
theorem own_bastore (X : Stand p l e R s m args below meth c T locs cells slots) (hx : p.tables.exec = Jvm.exec) (hZ : Z.Warmed39 s.vm) (eT : T.heap = h) (F : own_Ar Z h a k .byte vs) {j x : Int32} (h0 : ¬ j < 0) {i : Nat} (hj : j.toNatClampNeg = i) (hi : i < vs.length) {g : JFrame} (hg : g.method = m) {rest : List Value} (hs : g.stack = .int x :: .int j :: .ref a :: rest) (hd : decode c.code g.pc = .ok (.bastore, 1)) :
    ∃ T' h', Stand p l e R s m args below meth c T' (locs ++ [⟨a, i⟩]) cells slots ∧ T'.heap = h' ∧ Wr h h' a i (.int x.toInt8.toInt32) ∧ own_Ar Z h' a k .byte (vs.set i (.int x.toInt8.toInt32)) ∧ ∀ target, Steps p.tables e below (T'.setTop { g with pc := g.pc + 1, stack := rest }) target → Steps p.tables e below (T.setTop g) target := by
  have F' := F
  obtain ⟨cl, A, q, sz, ln, f⟩ := F
  subst hj
  obtain ⟨T', h', X', e', W, st⟩ := stB X hx hZ eT A (own_inb sz h0 hi) hg hs hd
  exact ⟨T', h', X', e', W, F'.set W (fits_nar_byte _), st⟩
theorem own_aastore (X : Stand p l e R s m args below meth c T locs cells slots) (hx : p.tables.exec = Jvm.exec) (hZ : Z.Warmed39 s.vm) (eT : T.heap = h) (F : own_Ar Z h a k ty vs) (hty : ty.isReference = true) (hfv : fits ty v = true) (S : Sto Z h a v) {j : Int32} (h0 : ¬ j < 0) {i : Nat} (hj : j.toNatClampNeg = i) (hi : i < vs.length) {g : JFrame} (hg : g.method = m) {rest : List Value} (hs : g.stack = v :: .int j :: .ref a :: rest) (hd : decode c.code g.pc = .ok (.aastore, 1)) :
    ∃ T' h', Stand p l e R s m args below meth c T' (locs ++ [⟨a, i⟩]) cells slots ∧ T'.heap = h' ∧ Wr h h' a i v ∧ own_Ar Z h' a k ty (vs.set i v) ∧ ∀ target, Steps p.tables e below (T'.setTop { g with pc := g.pc + 1, stack := rest }) target → Steps p.tables e below (T.setTop g) target := by
  have F' := F
  obtain ⟨cl, A, q, sz, ln, f⟩ := F
  subst hj
  obtain ⟨T', h', X', e', W, st⟩ := stR X hx hZ eT A (own_inb sz h0 hi) hty S hg hs hd
  exact ⟨T', h', X', e', W, F'.set W hfv, st⟩
theorem own_newarr (X : Stand p l e R s m args below meth c T locs cells slots) (hx : p.tables.exec = Jvm.exec) (hZ : Z.Warmed39 s.vm) {aty : ArrayType} (w : (Cond.arrayClass (newarray.typeOf aty)).before a0 Z = true) (eT : T.heap = h) {g : JFrame} (hg : g.method = m) (hd : decode c.code g.pc = .ok (.newarray aty, 2)) {n : Int32} {rest : List Value} (hs : g.stack = .int n :: rest)
    (hn : ¬ n < 0) {cap : Nat} (hcap : n.toNatClampNeg ≤ cap) (hb : cap * 8 ≤ 536870912) (hc : cells + 1 ≤ R.cells) (hl : slots + cap ≤ R.slots) {ad : String} (had : "[" ++ (newarray.typeOf aty).toString = ad) (hf : fits (newarray.typeOf aty) (defaultValue (newarray.typeOf aty)) = true) (hvs : List.replicate n.toNatClampNeg (defaultValue (newarray.typeOf aty)) = vs) :
    ∃ T' h' cA, Stand p l e R s m args below meth c T' locs (cells + 1) (slots + cap) ∧ T'.heap = h' ∧ Ext h h' ∧ own_Ar Z h' h.size cA (newarray.typeOf aty) vs ∧ Exa Z h' h.size ad ∧
      ∀ target, Steps p.tables e below (T'.setTop { g with pc := g.pc + 2, stack := .ref h.size :: rest }) target → Steps p.tables e below (T.setTop g) target := by
  obtain ⟨T', h', cA, X', e', E, A, Ex, st⟩ := newPE X hx hZ w eT hg hd hs hn hcap hb hc hl had
  exact ⟨T', h', cA, X', e', E, hvs ▸ own_Ar.new A hf, Ex, st⟩
theorem own_anewarr (X : Stand p l e R s m args below meth c T locs cells slots) (hx : p.tables.exec = Jvm.exec) (hZ : Z.Warmed39 s.vm) {own C : String} {index : Nat} (hown : s.vm.findClass own = some m.cls) (w1 : (Cond.classLink own index C).before a0 Z = true) (w2 : (Cond.arrayOver (.object C)).before a0 Z = true) (eT : T.heap = h) {g : JFrame} (hg : g.method = m) (hd : decode c.code g.pc = .ok (.anewarray index, 3)) {n : Int32} {rest : List Value} (hs : g.stack = .int n :: rest)
    (hn : ¬ n < 0) {cap : Nat} (hcap : n.toNatClampNeg ≤ cap) (hb : cap * 8 ≤ 536870912) (hc : cells + 1 ≤ R.cells) (hl : slots + cap ≤ R.slots) (hvs : List.replicate n.toNatClampNeg Value.null = vs) :
    ∃ T' h' cA, Stand p l e R s m args below meth c T' locs (cells + 1) (slots + cap) ∧ T'.heap = h' ∧ Ext h h' ∧ own_Ar Z h' h.size cA (.object C) vs ∧ Ovr Z cA C ∧
      ∀ target, Steps p.tables e below (T'.setTop { g with pc := g.pc + 3, stack := .ref h.size :: rest }) target → Steps p.tables e below (T.setTop g) target := by
  obtain ⟨T', h', cA, X', e', E, A, O, st⟩ := newR X hx hZ hown w1 w2 eT hg hd hs hn hcap hb hc hl
  exact ⟨T', h', cA, X', e', E, hvs ▸ own_Ar.new A rfl, O, st⟩
theorem own_arrlenA (X : Stand p l e R s m args below meth c T locs cells slots) (hx : p.tables.exec = Jvm.exec) (hZ : Z.Warmed39 s.vm) (eT : T.heap = h) {cl : Cell} (A : Arr Z h a cl ty) {n : Int32} (hn : cl.slots.size.toInt32 = n) {g : JFrame} (hg : g.method = m) {rest : List Value} (hs : g.stack = .ref a :: rest) (hd : decode c.code g.pc = .ok (.arraylength, 1)) :
    ∀ target, Steps p.tables e below (T.setTop { g with pc := g.pc + 1, stack := .int n :: rest }) target → Steps p.tables e below (T.setTop g) target := by
  subst hn
  exact X.arraylength hx (by rw [eT]; exact A.1) (State.isArrayOf_alike hZ.alike A.2.1) hg hs hd
theorem own_len0 {args : Array Value} {s : State} {t : Term} {a : Addr} {n : Int32} {ty : FieldType} (ev : t.eval args s none [] s = some (.ref a)) (h6 : (Cond.arrayOf t ty).before args s = true) (h8 : (Cond.eq (.length t) (.int n)).before args s = true) : ∃ c : Cell, Arr s s.heap a c ty ∧ c.slots.size.toInt32 = n := by
  obtain ⟨c, A⟩ := Arr.start ev (Cond.before_iff.mp h6)
  have h8 := Cond.before_iff.mp h8
  obtain ⟨x, y, e1, -⟩ := cmp_v (Or.inl h8)
  obtain ⟨b, cell, q1, q2, rfl⟩ := Term.length_spec e1
  cases ev.symm.trans q1
  cases (Arr.fin (State.Warmed39.refl s).alike A).symm.trans q2
  exact ⟨_, A, gotT (Cond.eq_ints e1 (Term.int_eval n)) h8⟩
end OwnArrSteps
theorem own_nar01 {x : Int32} (h : x = 0 ∨ x = 1) : nar .boolean x = x := by rcases h with rfl | rfl <;> rfl
theorem own_bit (c : Prop) [Decidable c] {x : Int32} (h : (if c then (0 : Int32) else (1 : Int32)) = x) : x = 0 ∨ x = 1 := by
  by_cases hc : c
  · rw [if_pos hc] at h; exact Or.inl h.symm
  · rw [if_neg hc] at h; exact Or.inr h.symm
def own_key (d w : Int32) : Int64 := ((2 : Int64) * w.toInt64) + (if d = (0 : Int32) then (1 : Int64) else (0 : Int64))
def own_rw (da db wa wb : Int32) : Int32 := if da = db then (if wa = wb then 1 else 0) else 0
theorem own_key_eq {da db wa wb : Int32} (h1 : da = 0 ∨ da = 1) (h2 : db = 0 ∨ db = 1) : own_key da wa = own_key db wb ↔ da = db ∧ wa = wb := by
  constructor
  · intro h
    have h := Int64.toInt_inj.mpr h
    have ra := rng32 wa
    have rb := rng32 wb
    have e2 : (2 : Int64).toInt = 2 := rfl
    have e1 : (1 : Int64).toInt = 1 := rfl
    have e0 : (0 : Int64).toInt = 0 := rfl
    have ma := c_lmul 2 wa.toInt64
    have mb := c_lmul 2 wb.toInt64
    have mar := rng64 (2 * wa.toInt64)
    have mbr := rng64 (2 * wb.toInt64)
    rw [c_i2l] at ma mb
    have key : ∀ d w : Int32, (d = 0 ∨ d = 1) → -2147483648 ≤ w.toInt → w.toInt < 2147483648 → (own_key d w).toInt = 2 * w.toInt + 1 - d.toInt := by
      intro d w hd l1 l2
      have m := c_lmul 2 w.toInt64
      have mr := rng64 (2 * w.toInt64)
      rw [c_i2l, e2] at m
      have a1 := c_ladd (2 * w.toInt64) 1
      have a2 := c_ladd (2 * w.toInt64) 0
      have a1r := rng64 (2 * w.toInt64 + 1)
      have a2r := rng64 (2 * w.toInt64 + 0)
      rcases hd with rfl | rfl
      · rw [own_key, if_pos rfl]; have : (0 : Int32).toInt = 0 := rfl; omega
      · rw [own_key, if_neg (by decide)]; have : (1 : Int32).toInt = 1 := rfl; omega
    rw [key da wa h1 ra.1 ra.2, key db wb h2 rb.1 rb.2] at h
    have i0 : (0 : Int32).toInt = 0 := rfl
    have i1 : (1 : Int32).toInt = 1 := rfl
    refine ⟨Int32.toInt_inj.mp ?_, Int32.toInt_inj.mp ?_⟩
    all_goals rcases h1 with rfl | rfl <;> rcases h2 with rfl | rfl <;> omega
  · rintro ⟨rfl, rfl⟩; rfl
theorem own_p1 {da db wa wb : Int32} (h1 : da = 0 ∨ da = 1) (h2 : db = 0 ∨ db = 1) : own_rw da db wa wb = (if own_key da wa = own_key db wb then (1 : Int32) else (0 : Int32)) := by
  unfold own_rw
  by_cases q : own_key da wa = own_key db wb
  · obtain ⟨rfl, rfl⟩ := (own_key_eq h1 h2).mp q
    simp
  · rw [if_neg q]
    by_cases a : da = db
    · rw [if_pos a]
      by_cases b : wa = wb
      · exact absurd ((own_key_eq h1 h2).mpr ⟨a, b⟩) q
      · rw [if_neg b]
    · rw [if_neg a]
theorem own_p2 {da db wa wb : Int32} : own_rw db da wb wa = own_rw da db wa wb := by
  unfold own_rw
  by_cases a : da = db <;> by_cases b : wa = wb <;> simp [a, b, Ne.symm, eq_comm]
theorem own_p3 {da wa : Int32} : ¬ own_rw da da wa wa = (0 : Int32) := by simp [own_rw]
theorem own_pd0 : parseMethodDescriptor "()V" = some ⟨[], none⟩ := by decide +kernel
theorem dac_0 : decode jdk_22_method_1_code 0 = .ok (.aload_n 0, 1) := by decide +kernel
theorem dac_1 : decode jdk_22_method_1_code 1 = .ok (.invokespecial 1, 3) := by decide +kernel
theorem dac_4 : decode jdk_22_method_1_code 4 = .ok (.return_, 1) := by decide +kernel
theorem own_pn0 : plainName "java/util/AbstractCollection" = true := by first | (simp [plainName, overriddenIn]; done) | decide +kernel
theorem own_efac (m : MethodId) (a : Addr) : entryFrame m #[(.ref a)] 1 = mkF m 0 #[.val (.ref a)] [] := by first | (simp [entryFrame, mkF, argsToLocals, Value.category]; done) | rfl
set_option maxRecDepth 65536 in
set_option maxHeartbeats 40000000 in
theorem own_rmac (l : Launch) (Z : State) (a0 : Array Value) (hw : ∀ d ∈ tables_1, d.before a0 Z = true) (a : Addr) (h0 : Heap)  :
    own_C l Z (⟨"java/util/AbstractCollection", "<init>", "()V"⟩ : MethodName) jdk_22_method_1_code 1 none [] ({ frames := 1, cells := 0, slots := 0, locals := 12 } : Room) #[(.ref a)] h0 (fun v h L => v = none ∧ L = [] ∧ h = h0) := by
  refine own_body (plainFor_of_name own_pn0) fun p e s m below meth c s₁ hx hby hml hret hlk hown hnm hZ X0 e0 => ?_
  rw [own_efac m a]
  refine own_go (U' := s₁.setTop (mkF m 1 #[.val (.ref a)] [(.ref a)])) (fun t k => XS.aloadN X0.here hx rfl (hb hby dac_0) rfl rfl k) ?_
  obtain ⟨T1, X1, e1, st1⟩ := initO X0 hx hZ hown (hw _ (List.mem_of_getElem? (i := 18) rfl)) (hw _ (List.mem_of_getElem? (i := 19) rfl)) (hw _ (List.mem_of_getElem? (i := 20) rfl)) e0 (g := (mkF m 1 #[.val (.ref a)] [(.ref a)])) rfl (by rw [hml]; rfl) rfl (hb hby dac_1) (by decide) (W := 0) (by show 2 * 0 + _ ≤ _; exact Nat.le_of_eq rfl) (by decide)
  refine own_go (U' := T1.setTop (mkF m 4 #[.val (.ref a)] [])) st1 ?_
  refine own_retV X1 hx hret hlk (hb hby dac_4) ?_ (by decide) (by decide)
  exact ⟨rfl, rfl, e1⟩
theorem dab_0 : decode jdk_39_method_1_code 0 = .ok (.aload_n 0, 1) := by decide +kernel
theorem dab_1 : decode jdk_39_method_1_code 1 = .ok (.invokespecial 1, 3) := by decide +kernel
theorem dab_4 : decode jdk_39_method_1_code 4 = .ok (.aload_n 0, 1) := by decide +kernel
theorem dab_5 : decode jdk_39_method_1_code 5 = .ok (.iconst 0, 1) := by decide +kernel
theorem dab_6 : decode jdk_39_method_1_code 6 = .ok (.putfield 7, 3) := by decide +kernel
theorem dab_9 : decode jdk_39_method_1_code 9 = .ok (.return_, 1) := by decide +kernel
theorem own_pn1 : plainName "java/util/AbstractList" = true := by first | (simp [plainName, overriddenIn]; done) | decide +kernel
theorem own_efab (m : MethodId) (a : Addr) : entryFrame m #[(.ref a)] 1 = mkF m 0 #[.val (.ref a)] [] := by first | (simp [entryFrame, mkF, argsToLocals, Value.category]; done) | rfl
set_option maxRecDepth 65536 in
set_option maxHeartbeats 40000000 in
theorem own_rmab (l : Launch) (Z : State) (a0 : Array Value) (hw : ∀ d ∈ tables_1, d.before a0 Z = true) (a : Addr) (h0 : Heap) (n0 : Nat) (g_a : n0 ≤ a) (u0 u1 u2 : Value) (E_a : Exa Z h0 a "java/util/ArrayList") (F_modCount_a : Fld Z h0 a "java/util/AbstractList" "modCount" "I" u0) (F_elementData_a : Fld Z h0 a "java/util/ArrayList" "elementData" "[Ljava/lang/Object;" u1) (F_size_a : Fld Z h0 a "java/util/ArrayList" "size" "I" u2) :
    own_C l Z (⟨"java/util/AbstractList", "<init>", "()V"⟩ : MethodName) jdk_39_method_1_code 1 none [] ({ frames := 2, cells := 0, slots := 0, locals := 24 } : Room) #[(.ref a)] h0 (fun v h L => v = none ∧ Fr n0 L ∧ Keep h0 h [a] ∧ Fld Z h a "java/util/AbstractList" "modCount" "I" (.int 0) ∧ Fld Z h a "java/util/ArrayList" "elementData" "[Ljava/lang/Object;" u1 ∧ Fld Z h a "java/util/ArrayList" "size" "I" u2) := by
  refine own_body (plainFor_of_name own_pn1) fun p e s m below meth c s₁ hx hby hml hret hlk hown hnm hZ X0 e0 => ?_
  rw [own_efab m a]
  have N0 := Fr.nil n0
  have K := Keep.refl h0 [a]
  refine own_go (U' := s₁.setTop (mkF m 1 #[.val (.ref a)] [(.ref a)])) (fun t k => XS.aloadN X0.here hx rfl (hb hby dab_0) rfl rfl k) ?_
  obtain ⟨v1, T1, h1, L1, e1, X1, hQ1, st1⟩ := own_callC X0 hx hZ (y := (⟨"java/util/AbstractCollection", "<init>", "()V"⟩ : MethodName)) rfl hown (hw _ (List.mem_of_getElem? (i := 12) rfl)) (hw _ (List.mem_of_getElem? (i := 13) rfl)) (hw _ (List.mem_of_getElem? (i := 16) rfl)) (hw _ (List.mem_of_getElem? (i := 17) rfl)) (by decide) (a := a) (own_rmac l Z a0 hw a h0) (W := 0) (by decide) (by decide) (g := (mkF m 1 #[.val (.ref a)] [(.ref a)])) rfl (by rw [hml]; rfl) (argsL := []) (rest := []) (lenOf own_pd0 rfl) rfl rfl (by show 2 * 0 + _ ≤ _; exact Nat.le_of_eq rfl) (hb hby dab_1) e0 (by decide) (by decide)
  obtain ⟨rfl, rfl, eh1⟩ := hQ1
  have e1 := e1.trans eh1
  rw [List.append_nil] at X1
  refine own_go (U' := T1.setTop (mkF m 4 #[.val (.ref a)] [])) st1 ?_
  refine own_go (U' := T1.setTop (mkF m 5 #[.val (.ref a)] [(.ref a)])) (fun t k => XS.aloadN X1.here hx rfl (hb hby dab_4) rfl rfl k) ?_
  refine own_go (U' := T1.setTop (mkF m 6 #[.val (.ref a)] [(.int (0 : Int32)), (.ref a)])) (fun t k => XS.iconst X1.here hx rfl (hb hby dab_5) k) ?_
  obtain ⟨T2, h2, X2, e2, W2, st2⟩ := putF X1 hx hZ hown (host := "") (Or.inl (hw _ (List.mem_of_getElem? (i := 21) rfl))) Via.refl e1 F_modCount_a E_a (Or.inl (hw _ (List.mem_of_getElem? (i := 22) rfl))) (hw _ (List.mem_of_getElem? (i := 1) rfl)) (ty := .int) (by decide) rfl rfl (g := (mkF m 6 #[.val (.ref a)] [(.int (0 : Int32)), (.ref a)])) rfl rfl (hb hby dab_6)
  have K := K.wr W2 (Or.inl (List.mem_of_getElem? (i := 0) rfl))
  have E_a := E_a.wr W2
  have F_elementData_a := F_elementData_a.other W2 (Or.inr (slot_ne (Or.inl (hw _ (List.mem_of_getElem? (i := 25) rfl))) (Or.inl (hw _ (List.mem_of_getElem? (i := 22) rfl))) (by decide) (t := (.array (.object "java/lang/Object"))) (t' := .int) (by decide) (by decide)))
  have F_size_a := F_size_a.other W2 (Or.inr (slot_ne (Or.inl (hw _ (List.mem_of_getElem? (i := 62) rfl))) (Or.inl (hw _ (List.mem_of_getElem? (i := 22) rfl))) (by decide) (t := .int) (t' := .int) (by decide) (by decide)))
  have F_modCount_a := F_modCount_a.same W2
  have N2 := Fr.snoc X2 N0 g_a
  refine own_go (U' := T2.setTop (mkF m 9 #[.val (.ref a)] [])) st2 ?_
  refine own_retV X2 hx hret hlk (hb hby dab_9) ?_ (by decide) (by decide)
  rw [e2]
  exact ⟨rfl, N2, K, F_modCount_a, F_elementData_a, F_size_a⟩
theorem dal_0 : decode jdk_38_method_2_code 0 = .ok (.aload_n 0, 1) := by decide +kernel
theorem dal_1 : decode jdk_38_method_2_code 1 = .ok (.invokespecial 1, 3) := by decide +kernel
theorem dal_4 : decode jdk_38_method_2_code 4 = .ok (.aload_n 0, 1) := by decide +kernel
theorem dal_5 : decode jdk_38_method_2_code 5 = .ok (.getstatic 39, 3) := by decide +kernel
theorem dal_8 : decode jdk_38_method_2_code 8 = .ok (.putfield 9, 3) := by decide +kernel
theorem dal_11 : decode jdk_38_method_2_code 11 = .ok (.return_, 1) := by decide +kernel
theorem own_pn2 : plainName "java/util/ArrayList" = true := by first | (simp [plainName, overriddenIn]; done) | decide +kernel
theorem own_efal (m : MethodId) (a : Addr) : entryFrame m #[(.ref a)] 1 = mkF m 0 #[.val (.ref a)] [] := by first | (simp [entryFrame, mkF, argsToLocals, Value.category]; done) | rfl
set_option maxRecDepth 65536 in
set_option maxHeartbeats 40000000 in
theorem own_rmal (l : Launch) (Z : State) (a0 : Array Value) (hw : ∀ d ∈ tables_1, d.before a0 Z = true) (a : Addr) (h0 : Heap) (n0 : Nat) (g_a : n0 ≤ a) (u0 u1 u2 : Value) (dd : Addr) (O : Old Z n0 h0) (S_dd : Sta Z Z.heap "java/util/ArrayList" "DEFAULTCAPACITY_EMPTY_ELEMENTDATA" "[Ljava/lang/Object;" (.ref dd)) (E_a : Exa Z h0 a "java/util/ArrayList") (F_modCount_a : Fld Z h0 a "java/util/AbstractList" "modCount" "I" u0) (F_elementData_a : Fld Z h0 a "java/util/ArrayList" "elementData" "[Ljava/lang/Object;" u1) (F_size_a : Fld Z h0 a "java/util/ArrayList" "size" "I" u2) :
    own_C l Z (⟨"java/util/ArrayList", "<init>", "()V"⟩ : MethodName) jdk_38_method_2_code 1 none [] ({ frames := 3, cells := 0, slots := 0, locals := 36 } : Room) #[(.ref a)] h0 (fun v h L => v = none ∧ Fr n0 L ∧ Keep h0 h [a] ∧ Fld Z h a "java/util/AbstractList" "modCount" "I" (.int 0) ∧ Fld Z h a "java/util/ArrayList" "elementData" "[Ljava/lang/Object;" (.ref dd) ∧ Fld Z h a "java/util/ArrayList" "size" "I" u2) := by
  refine own_body (plainFor_of_name own_pn2) fun p e s m below meth c s₁ hx hby hml hret hlk hown hnm hZ X0 e0 => ?_
  rw [own_efal m a]
  have N0 := Fr.nil n0
  have K := Keep.refl h0 [a]
  refine own_go (U' := s₁.setTop (mkF m 1 #[.val (.ref a)] [(.ref a)])) (fun t k => XS.aloadN X0.here hx rfl (hb hby dal_0) rfl rfl k) ?_
  obtain ⟨v1, T1, h1, L1, e1, X1, hQ1, st1⟩ := own_callC X0 hx hZ (y := (⟨"java/util/AbstractList", "<init>", "()V"⟩ : MethodName)) rfl hown (hw _ (List.mem_of_getElem? (i := 6) rfl)) (hw _ (List.mem_of_getElem? (i := 7) rfl)) (hw _ (List.mem_of_getElem? (i := 10) rfl)) (hw _ (List.mem_of_getElem? (i := 11) rfl)) (by decide) (a := a) (own_rmab l Z a0 hw a h0 n0 g_a u0 u1 u2 E_a F_modCount_a F_elementData_a F_size_a) (W := 0) (by decide) (by decide) (g := (mkF m 1 #[.val (.ref a)] [(.ref a)])) rfl (by rw [hml]; rfl) (argsL := []) (rest := []) (lenOf own_pd0 rfl) rfl rfl (by show 2 * 0 + _ ≤ _; exact Nat.le_of_eq rfl) (hb hby dal_1) e0 (by decide) (by decide)
  obtain ⟨rfl, Nq, Kq, F_modCount_a, F_elementData_a, F_size_a⟩ := hQ1
  have K := K.trans Kq (allS (Or.inl (List.mem_of_getElem? (i := 0) rfl)) all0)
  have O := O.keep Kq (allS g_a all0)
  have E_a := E_a.keep Kq
  have N1 := Fr.app N0 Nq
  refine own_go (U' := T1.setTop (mkF m 4 #[.val (.ref a)] [])) st1 ?_
  refine own_go (U' := T1.setTop (mkF m 5 #[.val (.ref a)] [(.ref a)])) (fun t k => XS.aloadN X1.here hx rfl (hb hby dal_4) rfl rfl k) ?_
  obtain ⟨T2, X2, e2, st2⟩ := getS2 X1 hx hZ hown (host := "") (Or.inl (hw _ (List.mem_of_getElem? (i := 23) rfl))) Via.refl e1 (S_dd.ext O.2) (g := (mkF m 5 #[.val (.ref a)] [(.ref a)])) rfl (hb hby dal_5)
  refine own_go (U' := T2.setTop (mkF m 8 #[.val (.ref a)] [(.ref dd), (.ref a)])) st2 ?_
  obtain ⟨T3, h3, X3, e3, W3, st3⟩ := putF X2 hx hZ hown (host := "") (Or.inl (hw _ (List.mem_of_getElem? (i := 24) rfl))) Via.refl e2 F_elementData_a E_a (Or.inl (hw _ (List.mem_of_getElem? (i := 25) rfl))) (hw _ (List.mem_of_getElem? (i := 1) rfl)) (ty := (.array (.object "java/lang/Object"))) (by decide) rfl rfl (g := (mkF m 8 #[.val (.ref a)] [(.ref dd), (.ref a)])) rfl rfl (hb hby dal_8)
  have K := K.wr W3 (Or.inl (List.mem_of_getElem? (i := 0) rfl))
  have O := O.wr W3 g_a
  have E_a := E_a.wr W3
  have F_modCount_a := F_modCount_a.other W3 (Or.inr (slot_ne (Or.inl (hw _ (List.mem_of_getElem? (i := 22) rfl))) (Or.inl (hw _ (List.mem_of_getElem? (i := 25) rfl))) (by decide) (t := .int) (t' := (.array (.object "java/lang/Object"))) (by decide) (by decide)))
  have F_size_a := F_size_a.other W3 (Or.inr (slot_ne (Or.inl (hw _ (List.mem_of_getElem? (i := 62) rfl))) (Or.inl (hw _ (List.mem_of_getElem? (i := 25) rfl))) (by decide) (t := .int) (t' := (.array (.object "java/lang/Object"))) (by decide) (by decide)))
  have F_elementData_a := F_elementData_a.same W3
  have N3 := Fr.snoc X3 N1 g_a
  refine own_go (U' := T3.setTop (mkF m 11 #[.val (.ref a)] [])) st3 ?_
  refine own_retV X3 hx hret hlk (hb hby dal_11) ?_ (by decide) (by decide)
  rw [e3]
  exact ⟨rfl, N3, K, F_modCount_a, F_elementData_a, F_size_a⟩
theorem own_pd1 : parseMethodDescriptor "(II)I" = some ⟨[.int, .int], some .int⟩ := by decide +kernel
def own_max (a b : Int32) : Int32 := if a < b then b else a
theorem dmx_0 : decode jdk_29_method_65_code 0 = .ok (.iload_n 0, 1) := by decide +kernel
theorem dmx_1 : decode jdk_29_method_65_code 1 = .ok (.iload_n 1, 1) := by decide +kernel
theorem dmx_2 : decode jdk_29_method_65_code 2 = .ok (.if_icmp .lt 7, 3) := by decide +kernel
theorem dmx_5 : decode jdk_29_method_65_code 5 = .ok (.iload_n 0, 1) := by decide +kernel
theorem dmx_6 : decode jdk_29_method_65_code 6 = .ok (.goto 4, 3) := by decide +kernel
theorem dmx_9 : decode jdk_29_method_65_code 9 = .ok (.iload_n 1, 1) := by decide +kernel
theorem dmx_10 : decode jdk_29_method_65_code 10 = .ok (.ireturn, 1) := by decide +kernel
theorem own_efmx (m : MethodId) (p1 p2 : Int32) : entryFrame m #[(.int p1), (.int p2)] 2 = mkF m 0 #[.val (.int p1), .val (.int p2)] [] := by first | (simp [entryFrame, mkF, argsToLocals, Value.category]; done) | rfl
set_option maxRecDepth 65536 in
set_option maxHeartbeats 40000000 in
theorem own_rmmx (l : Launch) (Z : State) (a0 : Array Value) (hw : ∀ d ∈ tables_1, d.before a0 Z = true) (p1 p2 : Int32) (h0 : Heap)  :
    own_C l Z (⟨"java/lang/Math", "max", "(II)I"⟩ : MethodName) jdk_29_method_65_code 2 (some .int) [] ({ frames := 0, cells := 0, slots := 0, locals := 0 } : Room) #[(.int p1), (.int p2)] h0 (fun v h L => v = some (.int (own_max p1 p2)) ∧ L = [] ∧ h = h0) := by
  refine own_body (Jvm.Free.JP.mathPlain rfl (by decide +kernel)) fun p e s m below meth c s₁ hx hby hml hret hlk hown hnm hZ X0 e0 => ?_
  rw [own_efmx m p1 p2]
  refine own_go (U' := s₁.setTop (mkF m 1 #[.val (.int p1), .val (.int p2)] [(.int p1)])) (fun t k => XS.iloadN X0.here hx rfl (hb hby dmx_0) rfl k) ?_
  refine own_go (U' := s₁.setTop (mkF m 2 #[.val (.int p1), .val (.int p2)] [(.int p2), (.int p1)])) (fun t k => XS.iloadN X0.here hx rfl (hb hby dmx_1) rfl k) ?_
  by_cases hc2 : p1 < p2
  · refine own_go (U' := s₁.setTop (mkF m 9 #[.val (.int p1), .val (.int p2)] [])) (fun t k => XS.icmpYes X0.here hx rfl (pc0 := 2) (pc' := 9) rfl (hb hby dmx_2) rfl (tlt hc2).1 (by decide) (by decide) k) ?_
    refine own_go (U' := s₁.setTop (mkF m 10 #[.val (.int p1), .val (.int p2)] [(.int p2)])) (fun t k => XS.iloadN X0.here hx rfl (hb hby dmx_9) rfl k) ?_
    refine own_retI X0 hx hret hlk (hb hby dmx_10) ?_ (by decide) (by decide)
    refine ⟨?_, rfl, e0⟩
    rw [own_max, if_pos hc2]
  · refine own_go (U' := s₁.setTop (mkF m 5 #[.val (.int p1), .val (.int p2)] [])) (fun t k => XS.icmpNo X0.here hx rfl (hb hby dmx_2) rfl (flt hc2).1 k) ?_
    refine own_go (U' := s₁.setTop (mkF m 6 #[.val (.int p1), .val (.int p2)] [(.int p1)])) (fun t k => XS.iloadN X0.here hx rfl (hb hby dmx_5) rfl k) ?_
    refine own_go (U' := s₁.setTop (mkF m 10 #[.val (.int p1), .val (.int p2)] [(.int p1)])) (fun t k => XS.goto X0.here hx rfl (pc0 := 6) (pc' := 10) rfl (hb hby dmx_6) (by decide) (by decide) k) ?_
    refine own_retI X0 hx hret hlk (hb hby dmx_10) ?_ (by decide) (by decide)
    refine ⟨?_, rfl, e0⟩
    rw [own_max, if_neg hc2]
theorem own_pd2 : parseMethodDescriptor "(I)[Ljava/lang/Object;" = some ⟨[.int], some (.array (.object "java/lang/Object"))⟩ := by decide +kernel
theorem own_pd3 : parseMethodDescriptor "()[Ljava/lang/Object;" = some ⟨[], some (.array (.object "java/lang/Object"))⟩ := by decide +kernel
theorem dg1_0 : decode jdk_38_method_6_code 0 = .ok (.aload_n 0, 1) := by decide +kernel
theorem dg1_1 : decode jdk_38_method_6_code 1 = .ok (.getfield 9, 3) := by decide +kernel
theorem dg1_4 : decode jdk_38_method_6_code 4 = .ok (.arraylength, 1) := by decide +kernel
theorem dg1_5 : decode jdk_38_method_6_code 5 = .ok (.istore_n 2, 1) := by decide +kernel
theorem dg1_6 : decode jdk_38_method_6_code 6 = .ok (.iload_n 2, 1) := by decide +kernel
theorem dg1_7 : decode jdk_38_method_6_code 7 = .ok (.ifCond .gt 13, 3) := by decide +kernel
theorem dg1_10 : decode jdk_38_method_6_code 10 = .ok (.aload_n 0, 1) := by decide +kernel
theorem dg1_11 : decode jdk_38_method_6_code 11 = .ok (.getfield 9, 3) := by decide +kernel
theorem dg1_14 : decode jdk_38_method_6_code 14 = .ok (.getstatic 39, 3) := by decide +kernel
theorem dg1_17 : decode jdk_38_method_6_code 17 = .ok (.if_acmp .eq 28, 3) := by decide +kernel
theorem dg1_20 : decode jdk_38_method_6_code 20 = .ok (.iload_n 2, 1) := by decide +kernel
theorem dg1_21 : decode jdk_38_method_6_code 21 = .ok (.iload_n 1, 1) := by decide +kernel
theorem dg1_22 : decode jdk_38_method_6_code 22 = .ok (.iload_n 2, 1) := by decide +kernel
theorem dg1_23 : decode jdk_38_method_6_code 23 = .ok (.isub, 1) := by decide +kernel
theorem dg1_24 : decode jdk_38_method_6_code 24 = .ok (.iload_n 2, 1) := by decide +kernel
theorem dg1_25 : decode jdk_38_method_6_code 25 = .ok (.iconst 1, 1) := by decide +kernel
theorem dg1_26 : decode jdk_38_method_6_code 26 = .ok (.ishr, 1) := by decide +kernel
theorem dg1_27 : decode jdk_38_method_6_code 27 = .ok (.invokestatic 73, 3) := by decide +kernel
theorem dg1_30 : decode jdk_38_method_6_code 30 = .ok (.istore_n 3, 1) := by decide +kernel
theorem dg1_31 : decode jdk_38_method_6_code 31 = .ok (.aload_n 0, 1) := by decide +kernel
theorem dg1_32 : decode jdk_38_method_6_code 32 = .ok (.aload_n 0, 1) := by decide +kernel
theorem dg1_33 : decode jdk_38_method_6_code 33 = .ok (.getfield 9, 3) := by decide +kernel
theorem dg1_36 : decode jdk_38_method_6_code 36 = .ok (.iload_n 3, 1) := by decide +kernel
theorem dg1_37 : decode jdk_38_method_6_code 37 = .ok (.invokestatic 66, 3) := by decide +kernel
theorem dg1_40 : decode jdk_38_method_6_code 40 = .ok (.dup_x1, 1) := by decide +kernel
theorem dg1_41 : decode jdk_38_method_6_code 41 = .ok (.putfield 9, 3) := by decide +kernel
theorem dg1_44 : decode jdk_38_method_6_code 44 = .ok (.areturn, 1) := by decide +kernel
theorem dg1_45 : decode jdk_38_method_6_code 45 = .ok (.aload_n 0, 1) := by decide +kernel
theorem dg1_46 : decode jdk_38_method_6_code 46 = .ok (.bipush 10, 2) := by decide +kernel
theorem dg1_48 : decode jdk_38_method_6_code 48 = .ok (.iload_n 1, 1) := by decide +kernel
theorem dg1_49 : decode jdk_38_method_6_code 49 = .ok (.invokestatic 79, 3) := by decide +kernel
theorem dg1_52 : decode jdk_38_method_6_code 52 = .ok (.anewarray 7, 3) := by decide +kernel
theorem dg1_55 : decode jdk_38_method_6_code 55 = .ok (.dup_x1, 1) := by decide +kernel
theorem dg1_56 : decode jdk_38_method_6_code 56 = .ok (.putfield 9, 3) := by decide +kernel
theorem dg1_59 : decode jdk_38_method_6_code 59 = .ok (.areturn, 1) := by decide +kernel
theorem own_efg1 (m : MethodId) (a : Addr) : entryFrame m #[(.ref a), (.int (1 : Int32))] 4 = mkF m 0 #[.val (.ref a), .val (.int (1 : Int32)), .unset, .unset] [] := by first | (simp [entryFrame, mkF, argsToLocals, Value.category]; done) | rfl
set_option maxRecDepth 65536 in
set_option maxHeartbeats 40000000 in
theorem own_rmg1 (l : Launch) (Z : State) (a0 : Array Value) (hw : ∀ d ∈ tables_1, d.before a0 Z = true) (a : Addr) (h0 : Heap) (n0 : Nat) (g_a : n0 ≤ a) (mc : Int32) (dd : Addr) (cdd : Cell) (O : Old Z n0 h0) (S_dd : Sta Z Z.heap "java/util/ArrayList" "DEFAULTCAPACITY_EMPTY_ELEMENTDATA" "[Ljava/lang/Object;" (.ref dd)) (A_dd : Arr Z Z.heap dd cdd (.object "java/lang/Object")) (hcdd : cdd.slots.size.toInt32 = 0) (E_a : Exa Z h0 a "java/util/ArrayList") (F_modCount_a : Fld Z h0 a "java/util/AbstractList" "modCount" "I" (.int mc)) (F_elementData_a : Fld Z h0 a "java/util/ArrayList" "elementData" "[Ljava/lang/Object;" (.ref dd)) (F_size_a : Fld Z h0 a "java/util/ArrayList" "size" "I" (.int 0)) :
    own_C l Z (⟨"java/util/ArrayList", "grow", "(I)[Ljava/lang/Object;"⟩ : MethodName) jdk_38_method_6_code 4 (some (.array (.object "java/lang/Object"))) [] ({ frames := 1, cells := 1, slots := 10, locals := 14 } : Room) #[(.ref a), (.int (1 : Int32))] h0 (fun v h L => ∃ x kx, v = some (.ref x) ∧ Fr n0 L ∧ Keep h0 h [a] ∧ n0 ≤ x ∧ h0.size ≤ x ∧ Fld Z h a "java/util/AbstractList" "modCount" "I" (.int mc) ∧ Fld Z h a "java/util/ArrayList" "elementData" "[Ljava/lang/Object;" (.ref x) ∧ Fld Z h a "java/util/ArrayList" "size" "I" (.int 0) ∧ own_Ar Z h x kx (.object "java/lang/Object") (List.replicate 10 .null) ∧ Ovr Z kx "java/lang/Object") := by
  refine own_body (plainFor_of_name own_pn2) fun p e s m below meth c s₁ hx hby hml hret hlk hown hnm hZ X0 e0 => ?_
  rw [own_efg1 m a]
  have N0 := Fr.nil n0
  have K := Keep.refl h0 [a]
  refine own_go (U' := s₁.setTop (mkF m 1 #[.val (.ref a), .val (.int (1 : Int32)), .unset, .unset] [(.ref a)])) (fun t k => XS.aloadN X0.here hx rfl (hb hby dg1_0) rfl rfl k) ?_
  obtain ⟨T1, X1, e1, st1⟩ := getF X0 hx hZ hown (host := "") (Or.inl (hw _ (List.mem_of_getElem? (i := 24) rfl))) Via.refl e0 F_elementData_a (g := (mkF m 1 #[.val (.ref a), .val (.int (1 : Int32)), .unset, .unset] [(.ref a)])) rfl rfl (hb hby dg1_1)
  refine own_go (U' := T1.setTop (mkF m 4 #[.val (.ref a), .val (.int (1 : Int32)), .unset, .unset] [(.ref dd)])) st1 ?_
  refine own_go (U' := T1.setTop (mkF m 5 #[.val (.ref a), .val (.int (1 : Int32)), .unset, .unset] [(.int (0 : Int32))])) (own_arrlenA X1 hx hZ e1 (A_dd.ext O.2) (n := (0 : Int32)) hcdd (g := (mkF m 4 #[.val (.ref a), .val (.int (1 : Int32)), .unset, .unset] [(.ref dd)])) rfl rfl (hb hby dg1_4)) ?_
  refine own_go (U' := T1.setTop (mkF m 6 #[.val (.ref a), .val (.int (1 : Int32)), .val (.int (0 : Int32)), .unset] [])) (fun t k => XS.istoreN X1.here hx rfl (hb hby dg1_5) rfl (l' := #[.val (.ref a), .val (.int (1 : Int32)), .val (.int (0 : Int32)), .unset]) rfl k) ?_
  refine own_go (U' := T1.setTop (mkF m 7 #[.val (.ref a), .val (.int (1 : Int32)), .val (.int (0 : Int32)), .unset] [(.int (0 : Int32))])) (fun t k => XS.iloadN X1.here hx rfl (hb hby dg1_6) rfl k) ?_
  refine own_go (U' := T1.setTop (mkF m 10 #[.val (.ref a), .val (.int (1 : Int32)), .val (.int (0 : Int32)), .unset] [])) (fun t k => XS.ifNo X1.here hx rfl (hb hby dg1_7) rfl ((if0 _ _).trans (flt (by decide)).2.2.1) k) ?_
  refine own_go (U' := T1.setTop (mkF m 11 #[.val (.ref a), .val (.int (1 : Int32)), .val (.int (0 : Int32)), .unset] [(.ref a)])) (fun t k => XS.aloadN X1.here hx rfl (hb hby dg1_10) rfl rfl k) ?_
  obtain ⟨T2, X2, e2, st2⟩ := getF X1 hx hZ hown (host := "") (Or.inl (hw _ (List.mem_of_getElem? (i := 24) rfl))) Via.refl e1 F_elementData_a (g := (mkF m 11 #[.val (.ref a), .val (.int (1 : Int32)), .val (.int (0 : Int32)), .unset] [(.ref a)])) rfl rfl (hb hby dg1_11)
  refine own_go (U' := T2.setTop (mkF m 14 #[.val (.ref a), .val (.int (1 : Int32)), .val (.int (0 : Int32)), .unset] [(.ref dd)])) st2 ?_
  obtain ⟨T3, X3, e3, st3⟩ := getS2 X2 hx hZ hown (host := "") (Or.inl (hw _ (List.mem_of_getElem? (i := 23) rfl))) Via.refl e2 (S_dd.ext O.2) (g := (mkF m 14 #[.val (.ref a), .val (.int (1 : Int32)), .val (.int (0 : Int32)), .unset] [(.ref dd)])) rfl (hb hby dg1_14)
  refine own_go (U' := T3.setTop (mkF m 17 #[.val (.ref a), .val (.int (1 : Int32)), .val (.int (0 : Int32)), .unset] [(.ref dd), (.ref dd)])) st3 ?_
  refine own_go (U' := T3.setTop (mkF m 45 #[.val (.ref a), .val (.int (1 : Int32)), .val (.int (0 : Int32)), .unset] [])) (fun t k => Jvm.RoadKit.acmp (g := (mkF m 17 #[.val (.ref a), .val (.int (1 : Int32)), .val (.int (0 : Int32)), .unset] [(.ref dd), (.ref dd)])) X3 hx rfl rfl rfl (pc0 := 17) (pc' := 45) (same := true) rfl (hb hby dg1_17) rfl (decide_eq_true (congrArg Value.ref rfl)) (by decide) (by decide) k) ?_
  refine own_go (U' := T3.setTop (mkF m 46 #[.val (.ref a), .val (.int (1 : Int32)), .val (.int (0 : Int32)), .unset] [(.ref a)])) (fun t k => XS.aloadN X3.here hx rfl (hb hby dg1_45) rfl rfl k) ?_
  refine own_go (U' := T3.setTop (mkF m 48 #[.val (.ref a), .val (.int (1 : Int32)), .val (.int (0 : Int32)), .unset] [(.int (10 : Int32)), (.ref a)])) (fun t k => XS.bipush X3.here hx rfl (hb hby dg1_46) k) ?_
  refine own_go (U' := T3.setTop (mkF m 49 #[.val (.ref a), .val (.int (1 : Int32)), .val (.int (0 : Int32)), .unset] [(.int (1 : Int32)), (.int (10 : Int32)), (.ref a)])) (fun t k => XS.iloadN X3.here hx rfl (hb hby dg1_48) rfl k) ?_
  obtain ⟨v4, T4, h4, L4, e4, X4, hQ4, st4⟩ := own_callS X3 hx hZ (y := (⟨"java/lang/Math", "max", "(II)I"⟩ : MethodName)) hown (hw _ (List.mem_of_getElem? (i := 78) rfl)) (hw _ (List.mem_of_getElem? (i := 79) rfl)) (hw _ (List.mem_of_getElem? (i := 80) rfl)) (hw _ (List.mem_of_getElem? (i := 81) rfl)) (by decide) (own_rmmx l Z a0 hw 10 1 h0) (W := 1) (by decide) (by decide) (g := (mkF m 49 #[.val (.ref a), .val (.int (1 : Int32)), .val (.int (0 : Int32)), .unset] [(.int (1 : Int32)), (.int (10 : Int32)), (.ref a)])) rfl (by rw [hml]; rfl) (argsL := [(.int (10 : Int32)), (.int (1 : Int32))]) (rest := [(.ref a)]) (lenOf own_pd1 rfl) rfl rfl (by show 2 * 0 + _ ≤ _; exact Nat.le_of_eq rfl) (hb hby dg1_49) e3 (by decide) (by decide)
  obtain ⟨rfl, rfl, eh4⟩ := hQ4
  have e4 := e4.trans eh4
  rw [List.append_nil] at X4
  refine own_go (U' := T4.setTop (mkF m 52 #[.val (.ref a), .val (.int (1 : Int32)), .val (.int (0 : Int32)), .unset] [(.int (10 : Int32)), (.ref a)])) st4 ?_
  obtain ⟨T5, h5, k5, X5, e5, E5, A5, Ov5, st5⟩ := own_anewarr X4 hx hZ hown (hw _ (List.mem_of_getElem? (i := 82) rfl)) (hw _ (List.mem_of_getElem? (i := 83) rfl)) e4 (g := (mkF m 52 #[.val (.ref a), .val (.int (1 : Int32)), .val (.int (0 : Int32)), .unset] [(.int (10 : Int32)), (.ref a)])) rfl (hb hby dg1_52) rfl (by decide) (cap := 10) (by decide) (by decide) (by decide) (by decide) (vs := List.replicate 10 .null) rfl
  obtain ⟨b5, g5⟩ : ∃ z, z = h0.size := ⟨_, rfl⟩
  rw [← g5] at A5 st5
  have ne_a_b5 : a ≠ b5 := Nat.ne_of_lt (Nat.lt_of_lt_of_eq E_a.lt g5.symm)
  have g_b5 : n0 ≤ b5 := Nat.le_trans (Nat.le_trans (Nat.le_of_eq O.1.symm) O.2.1) (Nat.le_of_eq g5.symm)
  have sz_b5 : h0.size ≤ b5 := Nat.le_trans K.1 (Nat.le_of_eq g5.symm)
  have K := K.ext E5
  have O := O.ext E5
  have E_a := E_a.ext E5
  have F_modCount_a := F_modCount_a.ext E5
  have F_elementData_a := F_elementData_a.ext E5
  have F_size_a := F_size_a.ext E5
  have V_b5 := A5
  refine own_go (U' := T5.setTop (mkF m 55 #[.val (.ref a), .val (.int (1 : Int32)), .val (.int (0 : Int32)), .unset] [(.ref b5), (.ref a)])) st5 ?_
  refine own_go (U' := T5.setTop (mkF m 56 #[.val (.ref a), .val (.int (1 : Int32)), .val (.int (0 : Int32)), .unset] [(.ref b5), (.ref a), (.ref b5)])) (fun t k => XS.dupX1 X5.here hx rfl (hb hby dg1_55) rfl rfl rfl k) ?_
  obtain ⟨T6, h6, X6, e6, W6, st6⟩ := putF X5 hx hZ hown (host := "") (Or.inl (hw _ (List.mem_of_getElem? (i := 24) rfl))) Via.refl e5 F_elementData_a E_a (Or.inl (hw _ (List.mem_of_getElem? (i := 25) rfl))) (hw _ (List.mem_of_getElem? (i := 1) rfl)) (ty := (.array (.object "java/lang/Object"))) (by decide) rfl rfl (g := (mkF m 56 #[.val (.ref a), .val (.int (1 : Int32)), .val (.int (0 : Int32)), .unset] [(.ref b5), (.ref a), (.ref b5)])) rfl rfl (hb hby dg1_56)
  have K := K.wr W6 (Or.inl (List.mem_of_getElem? (i := 0) rfl))
  have O := O.wr W6 g_a
  have E_a := E_a.wr W6
  have F_modCount_a := F_modCount_a.other W6 (Or.inr (slot_ne (Or.inl (hw _ (List.mem_of_getElem? (i := 22) rfl))) (Or.inl (hw _ (List.mem_of_getElem? (i := 25) rfl))) (by decide) (t := .int) (t' := (.array (.object "java/lang/Object"))) (by decide) (by decide)))
  have F_size_a := F_size_a.other W6 (Or.inr (slot_ne (Or.inl (hw _ (List.mem_of_getElem? (i := 62) rfl))) (Or.inl (hw _ (List.mem_of_getElem? (i := 25) rfl))) (by decide) (t := .int) (t' := (.array (.object "java/lang/Object"))) (by decide) (by decide)))
  have V_b5 := V_b5.other W6 (Ne.symm ne_a_b5)
  have F_elementData_a := F_elementData_a.same W6
  have N6 := Fr.snoc X6 N0 g_a
  refine own_go (U' := T6.setTop (mkF m 59 #[.val (.ref a), .val (.int (1 : Int32)), .val (.int (0 : Int32)), .unset] [(.ref b5)])) st6 ?_
  refine own_retA X6 hx (t := (.array (.object "java/lang/Object"))) hret rfl hlk rfl (hb hby dg1_59) ?_ (by decide) (by decide)
  rw [e6]
  exact ⟨_, _, rfl, N6, K, g_b5, sz_b5, F_modCount_a, F_elementData_a, F_size_a, V_b5, Ov5⟩
theorem dg0_0 : decode jdk_38_method_7_code 0 = .ok (.aload_n 0, 1) := by decide +kernel
theorem dg0_1 : decode jdk_38_method_7_code 1 = .ok (.aload_n 0, 1) := by decide +kernel
theorem dg0_2 : decode jdk_38_method_7_code 2 = .ok (.getfield 48, 3) := by decide +kernel
theorem dg0_5 : decode jdk_38_method_7_code 5 = .ok (.iconst 1, 1) := by decide +kernel
theorem dg0_6 : decode jdk_38_method_7_code 6 = .ok (.iadd, 1) := by decide +kernel
theorem dg0_7 : decode jdk_38_method_7_code 7 = .ok (.invokevirtual 69, 3) := by decide +kernel
theorem dg0_10 : decode jdk_38_method_7_code 10 = .ok (.areturn, 1) := by decide +kernel
theorem own_efg0 (m : MethodId) (a : Addr) : entryFrame m #[(.ref a)] 1 = mkF m 0 #[.val (.ref a)] [] := by first | (simp [entryFrame, mkF, argsToLocals, Value.category]; done) | rfl
set_option maxRecDepth 65536 in
set_option maxHeartbeats 40000000 in
theorem own_rmg0 (l : Launch) (Z : State) (a0 : Array Value) (hw : ∀ d ∈ tables_1, d.before a0 Z = true) (a : Addr) (h0 : Heap) (n0 : Nat) (g_a : n0 ≤ a) (mc : Int32) (dd : Addr) (cdd : Cell) (O : Old Z n0 h0) (S_dd : Sta Z Z.heap "java/util/ArrayList" "DEFAULTCAPACITY_EMPTY_ELEMENTDATA" "[Ljava/lang/Object;" (.ref dd)) (A_dd : Arr Z Z.heap dd cdd (.object "java/lang/Object")) (hcdd : cdd.slots.size.toInt32 = 0) (E_a : Exa Z h0 a "java/util/ArrayList") (F_modCount_a : Fld Z h0 a "java/util/AbstractList" "modCount" "I" (.int mc)) (F_elementData_a : Fld Z h0 a "java/util/ArrayList" "elementData" "[Ljava/lang/Object;" (.ref dd)) (F_size_a : Fld Z h0 a "java/util/ArrayList" "size" "I" (.int 0)) :
    own_C l Z (⟨"java/util/ArrayList", "grow", "()[Ljava/lang/Object;"⟩ : MethodName) jdk_38_method_7_code 1 (some (.array (.object "java/lang/Object"))) [] ({ frames := 2, cells := 1, slots := 10, locals := 29 } : Room) #[(.ref a)] h0 (fun v h L => ∃ x kx, v = some (.ref x) ∧ Fr n0 L ∧ Keep h0 h [a] ∧ n0 ≤ x ∧ h0.size ≤ x ∧ Fld Z h a "java/util/AbstractList" "modCount" "I" (.int mc) ∧ Fld Z h a "java/util/ArrayList" "elementData" "[Ljava/lang/Object;" (.ref x) ∧ Fld Z h a "java/util/ArrayList" "size" "I" (.int 0) ∧ own_Ar Z h x kx (.object "java/lang/Object") (List.replicate 10 .null) ∧ Ovr Z kx "java/lang/Object") := by
  refine own_body (plainFor_of_name own_pn2) fun p e s m below meth c s₁ hx hby hml hret hlk hown hnm hZ X0 e0 => ?_
  rw [own_efg0 m a]
  have N0 := Fr.nil n0
  have K := Keep.refl h0 [a]
  refine own_go (U' := s₁.setTop (mkF m 1 #[.val (.ref a)] [(.ref a)])) (fun t k => XS.aloadN X0.here hx rfl (hb hby dg0_0) rfl rfl k) ?_
  refine own_go (U' := s₁.setTop (mkF m 2 #[.val (.ref a)] [(.ref a), (.ref a)])) (fun t k => XS.aloadN X0.here hx rfl (hb hby dg0_1) rfl rfl k) ?_
  obtain ⟨T1, X1, e1, st1⟩ := getF X0 hx hZ hown (host := "") (Or.inl (hw _ (List.mem_of_getElem? (i := 61) rfl))) Via.refl e0 F_size_a (g := (mkF m 2 #[.val (.ref a)] [(.ref a), (.ref a)])) rfl rfl (hb hby dg0_2)
  refine own_go (U' := T1.setTop (mkF m 5 #[.val (.ref a)] [(.int (0 : Int32)), (.ref a)])) st1 ?_
  refine own_go (U' := T1.setTop (mkF m 6 #[.val (.ref a)] [(.int (1 : Int32)), (.int (0 : Int32)), (.ref a)])) (fun t k => XS.iconst X1.here hx rfl (hb hby dg0_5) k) ?_
  refine own_go (U' := T1.setTop (mkF m 7 #[.val (.ref a)] [(.int (1 : Int32)), (.ref a)])) (fun t k => XS.iadd X1.here hx rfl (hb hby dg0_6) rfl k) ?_
  obtain ⟨v2, T2, h2, L2, e2, X2, hQ2, st2⟩ := own_callP X1 hx hZ (y := (⟨"java/util/ArrayList", "grow", "(I)[Ljava/lang/Object;"⟩ : MethodName)) hown (hw _ (List.mem_of_getElem? (i := 73) rfl)) (hw _ (List.mem_of_getElem? (i := 74) rfl)) (hw _ (List.mem_of_getElem? (i := 76) rfl)) (hw _ (List.mem_of_getElem? (i := 75) rfl)) (hw _ (List.mem_of_getElem? (i := 2) rfl)) (hw _ (List.mem_of_getElem? (i := 77) rfl)) (by decide) E_a (own_rmg1 l Z a0 hw a h0 n0 g_a mc dd cdd O S_dd A_dd hcdd E_a F_modCount_a F_elementData_a F_size_a) (W := 0) (by decide) (by decide) (g := (mkF m 7 #[.val (.ref a)] [(.int (1 : Int32)), (.ref a)])) rfl (by rw [hml]; rfl) (argsL := [(.int (1 : Int32))]) (rest := []) (lenOf own_pd2 rfl) rfl rfl (by show 2 * 0 + _ ≤ _; exact Nat.le_of_eq rfl) (hb hby dg0_7) e1 (by decide) (by decide)
  obtain ⟨x, kx, rfl, Nq, Kq, gx, szx, Fm, Fe, Fs, Vx, Ov⟩ := hQ2
  refine own_go (U' := T2.setTop (mkF m 10 #[.val (.ref a)] [(.ref x)])) st2 ?_
  refine own_retA X2 hx (t := (.array (.object "java/lang/Object"))) hret rfl hlk rfl (hb hby dg0_10) ?_ (by decide) (by decide)
  rw [e2]
  exact ⟨_, _, rfl, Fr.app N0 Nq, Kq, gx, szx, Fm, Fe, Fs, Vx, Ov⟩
theorem own_pd4 : parseMethodDescriptor "(Ljava/lang/Object;[Ljava/lang/Object;I)V" = some ⟨[(.object "java/lang/Object"), (.array (.object "java/lang/Object")), .int], none⟩ := by decide +kernel
theorem da3_0 : decode jdk_38_method_24_code 0 = .ok (.iload_n 3, 1) := by decide +kernel
theorem da3_1 : decode jdk_38_method_24_code 1 = .ok (.aload_n 2, 1) := by decide +kernel
theorem da3_2 : decode jdk_38_method_24_code 2 = .ok (.arraylength, 1) := by decide +kernel
theorem da3_3 : decode jdk_38_method_24_code 3 = .ok (.if_icmp .ne 8, 3) := by decide +kernel
theorem da3_6 : decode jdk_38_method_24_code 6 = .ok (.aload_n 0, 1) := by decide +kernel
theorem da3_7 : decode jdk_38_method_24_code 7 = .ok (.invokevirtual 129, 3) := by decide +kernel
theorem da3_10 : decode jdk_38_method_24_code 10 = .ok (.astore_n 2, 1) := by decide +kernel
theorem da3_11 : decode jdk_38_method_24_code 11 = .ok (.aload_n 2, 1) := by decide +kernel
theorem da3_12 : decode jdk_38_method_24_code 12 = .ok (.iload_n 3, 1) := by decide +kernel
theorem da3_13 : decode jdk_38_method_24_code 13 = .ok (.aload_n 1, 1) := by decide +kernel
theorem da3_14 : decode jdk_38_method_24_code 14 = .ok (.aastore, 1) := by decide +kernel
theorem da3_15 : decode jdk_38_method_24_code 15 = .ok (.aload_n 0, 1) := by decide +kernel
theorem da3_16 : decode jdk_38_method_24_code 16 = .ok (.iload_n 3, 1) := by decide +kernel
theorem da3_17 : decode jdk_38_method_24_code 17 = .ok (.iconst 1, 1) := by decide +kernel
theorem da3_18 : decode jdk_38_method_24_code 18 = .ok (.iadd, 1) := by decide +kernel
theorem da3_19 : decode jdk_38_method_24_code 19 = .ok (.putfield 48, 3) := by decide +kernel
theorem da3_22 : decode jdk_38_method_24_code 22 = .ok (.return_, 1) := by decide +kernel
theorem own_efa3 (m : MethodId) (a : Addr)  (dd : Addr) : entryFrame m #[(.ref a), .null, (.ref dd), (.int (0 : Int32))] 4 = mkF m 0 #[.val (.ref a), .val .null, .val (.ref dd), .val (.int (0 : Int32))] [] := by first | (simp [entryFrame, mkF, argsToLocals, Value.category]; done) | rfl
set_option maxRecDepth 65536 in
set_option maxHeartbeats 40000000 in
theorem own_rma3 (l : Launch) (Z : State) (a0 : Array Value) (hw : ∀ d ∈ tables_1, d.before a0 Z = true) (a : Addr)  (dd : Addr) (h0 : Heap) (n0 : Nat) (g_a : n0 ≤ a) (mc : Int32) (cdd : Cell) (O : Old Z n0 h0) (S_dd : Sta Z Z.heap "java/util/ArrayList" "DEFAULTCAPACITY_EMPTY_ELEMENTDATA" "[Ljava/lang/Object;" (.ref dd)) (A_dd : Arr Z Z.heap dd cdd (.object "java/lang/Object")) (hcdd : cdd.slots.size.toInt32 = 0) (E_a : Exa Z h0 a "java/util/ArrayList") (F_modCount_a : Fld Z h0 a "java/util/AbstractList" "modCount" "I" (.int mc)) (F_elementData_a : Fld Z h0 a "java/util/ArrayList" "elementData" "[Ljava/lang/Object;" (.ref dd)) (F_size_a : Fld Z h0 a "java/util/ArrayList" "size" "I" (.int 0)) :
    own_C l Z (⟨"java/util/ArrayList", "add", "(Ljava/lang/Object;[Ljava/lang/Object;I)V"⟩ : MethodName) jdk_38_method_24_code 4 none [] ({ frames := 3, cells := 1, slots := 10, locals := 41 } : Room) #[(.ref a), .null, (.ref dd), (.int (0 : Int32))] h0 (fun v h L => v = none ∧ Fr n0 L ∧ Keep h0 h [a] ∧ ∃ x kx, Fld Z h a "java/util/AbstractList" "modCount" "I" (.int mc) ∧ Fld Z h a "java/util/ArrayList" "elementData" "[Ljava/lang/Object;" (.ref x) ∧ Fld Z h a "java/util/ArrayList" "size" "I" (.int 1) ∧ own_Ar Z h x kx (.object "java/lang/Object") (.null :: List.replicate 9 .null)) := by
  refine own_body (plainFor_of_name own_pn2) fun p e s m below meth c s₁ hx hby hml hret hlk hown hnm hZ X0 e0 => ?_
  rw [own_efa3 m a  dd]
  have N0 := Fr.nil n0
  have K := Keep.refl h0 [a]
  refine own_go (U' := s₁.setTop (mkF m 1 #[.val (.ref a), .val .null, .val (.ref dd), .val (.int (0 : Int32))] [(.int (0 : Int32))])) (fun t k => XS.iloadN X0.here hx rfl (hb hby da3_0) rfl k) ?_
  refine own_go (U' := s₁.setTop (mkF m 2 #[.val (.ref a), .val .null, .val (.ref dd), .val (.int (0 : Int32))] [(.ref dd), (.int (0 : Int32))])) (fun t k => XS.aloadN X0.here hx rfl (hb hby da3_1) rfl rfl k) ?_
  refine own_go (U' := s₁.setTop (mkF m 3 #[.val (.ref a), .val .null, .val (.ref dd), .val (.int (0 : Int32))] [(.int (0 : Int32)), (.int (0 : Int32))])) (own_arrlenA X0 hx hZ e0 (A_dd.ext O.2) (n := (0 : Int32)) hcdd (g := (mkF m 2 #[.val (.ref a), .val .null, .val (.ref dd), .val (.int (0 : Int32))] [(.ref dd), (.int (0 : Int32))])) rfl rfl (hb hby da3_2)) ?_
  refine own_go (U' := s₁.setTop (mkF m 6 #[.val (.ref a), .val .null, .val (.ref dd), .val (.int (0 : Int32))] [])) (fun t k => XS.icmpNo X0.here hx rfl (hb hby da3_3) rfl (teq rfl).2 k) ?_
  refine own_go (U' := s₁.setTop (mkF m 7 #[.val (.ref a), .val .null, .val (.ref dd), .val (.int (0 : Int32))] [(.ref a)])) (fun t k => XS.aloadN X0.here hx rfl (hb hby da3_6) rfl rfl k) ?_
  obtain ⟨v1, T1, h1, L1, e1, X1, hQ1, st1⟩ := own_callP X0 hx hZ (y := (⟨"java/util/ArrayList", "grow", "()[Ljava/lang/Object;"⟩ : MethodName)) hown (hw _ (List.mem_of_getElem? (i := 68) rfl)) (hw _ (List.mem_of_getElem? (i := 69) rfl)) (hw _ (List.mem_of_getElem? (i := 71) rfl)) (hw _ (List.mem_of_getElem? (i := 70) rfl)) (hw _ (List.mem_of_getElem? (i := 2) rfl)) (hw _ (List.mem_of_getElem? (i := 72) rfl)) (by decide) E_a (own_rmg0 l Z a0 hw a h0 n0 g_a mc dd cdd O S_dd A_dd hcdd E_a F_modCount_a F_elementData_a F_size_a) (W := 0) (by decide) (by decide) (g := (mkF m 7 #[.val (.ref a), .val .null, .val (.ref dd), .val (.int (0 : Int32))] [(.ref a)])) rfl (by rw [hml]; rfl) (argsL := []) (rest := []) (lenOf own_pd3 rfl) rfl rfl (by show 2 * 0 + _ ≤ _; exact Nat.le_of_eq rfl) (hb hby da3_7) e0 (by decide) (by decide)
  obtain ⟨x, kx, rfl, Nq, Kq, g_x, sz_x, F_modCount_a, F_elementData_a, F_size_a, V_x, Ov⟩ := hQ1
  have ne_a_x : a ≠ x := Nat.ne_of_lt (Nat.lt_of_lt_of_le E_a.lt sz_x)
  have K := K.trans Kq (allS (Or.inl (List.mem_of_getElem? (i := 0) rfl)) all0)
  have O := O.keep Kq (allS g_a all0)
  have E_a := E_a.keep Kq
  have N1 := Fr.app N0 Nq
  refine own_go (U' := T1.setTop (mkF m 10 #[.val (.ref a), .val .null, .val (.ref dd), .val (.int (0 : Int32))] [(.ref x)])) st1 ?_
  refine own_go (U' := T1.setTop (mkF m 11 #[.val (.ref a), .val .null, .val (.ref x), .val (.int (0 : Int32))] [])) (fun t k => XS.astoreN X1.here hx rfl (hb hby da3_10) rfl rfl (l' := #[.val (.ref a), .val .null, .val (.ref x), .val (.int (0 : Int32))]) rfl k) ?_
  refine own_go (U' := T1.setTop (mkF m 12 #[.val (.ref a), .val .null, .val (.ref x), .val (.int (0 : Int32))] [(.ref x)])) (fun t k => XS.aloadN X1.here hx rfl (hb hby da3_11) rfl rfl k) ?_
  refine own_go (U' := T1.setTop (mkF m 13 #[.val (.ref a), .val .null, .val (.ref x), .val (.int (0 : Int32))] [(.int (0 : Int32)), (.ref x)])) (fun t k => XS.iloadN X1.here hx rfl (hb hby da3_12) rfl k) ?_
  refine own_go (U' := T1.setTop (mkF m 14 #[.val (.ref a), .val .null, .val (.ref x), .val (.int (0 : Int32))] [.null, (.int (0 : Int32)), (.ref x)])) (fun t k => XS.aloadN X1.here hx rfl (hb hby da3_13) rfl rfl k) ?_
  obtain ⟨T2, h2, X2, e2, W2, A2, st2⟩ := own_aastore X1 hx hZ e1 V_x rfl rfl (Or.inl rfl) (j := (0 : Int32)) (by decide) (i := 0) rfl (by decide) (g := (mkF m 14 #[.val (.ref a), .val .null, .val (.ref x), .val (.int (0 : Int32))] [.null, (.int (0 : Int32)), (.ref x)])) rfl rfl (hb hby da3_14)
  have K := K.wr W2 (Or.inr sz_x)
  have O := O.wr W2 g_x
  have E_a := E_a.wr W2
  have F_modCount_a := F_modCount_a.other W2 (Or.inl ne_a_x)
  have F_elementData_a := F_elementData_a.other W2 (Or.inl ne_a_x)
  have F_size_a := F_size_a.other W2 (Or.inl ne_a_x)
  have V_x : own_Ar Z h2 x kx (.object "java/lang/Object") (.null :: List.replicate 9 .null) := A2
  have N2 := Fr.snoc X2 N1 g_x
  refine own_go (U' := T2.setTop (mkF m 15 #[.val (.ref a), .val .null, .val (.ref x), .val (.int (0 : Int32))] [])) st2 ?_
  refine own_go (U' := T2.setTop (mkF m 16 #[.val (.ref a), .val .null, .val (.ref x), .val (.int (0 : Int32))] [(.ref a)])) (fun t k => XS.aloadN X2.here hx rfl (hb hby da3_15) rfl rfl k) ?_
  refine own_go (U' := T2.setTop (mkF m 17 #[.val (.ref a), .val .null, .val (.ref x), .val (.int (0 : Int32))] [(.int (0 : Int32)), (.ref a)])) (fun t k => XS.iloadN X2.here hx rfl (hb hby da3_16) rfl k) ?_
  refine own_go (U' := T2.setTop (mkF m 18 #[.val (.ref a), .val .null, .val (.ref x), .val (.int (0 : Int32))] [(.int (1 : Int32)), (.int (0 : Int32)), (.ref a)])) (fun t k => XS.iconst X2.here hx rfl (hb hby da3_17) k) ?_
  refine own_go (U' := T2.setTop (mkF m 19 #[.val (.ref a), .val .null, .val (.ref x), .val (.int (0 : Int32))] [(.int (1 : Int32)), (.ref a)])) (fun t k => XS.iadd X2.here hx rfl (hb hby da3_18) rfl k) ?_
  obtain ⟨T3, h3, X3, e3, W3, st3⟩ := putF X2 hx hZ hown (host := "") (Or.inl (hw _ (List.mem_of_getElem? (i := 61) rfl))) Via.refl e2 F_size_a E_a (Or.inl (hw _ (List.mem_of_getElem? (i := 62) rfl))) (hw _ (List.mem_of_getElem? (i := 1) rfl)) (ty := .int) (by decide) rfl rfl (g := (mkF m 19 #[.val (.ref a), .val .null, .val (.ref x), .val (.int (0 : Int32))] [(.int (1 : Int32)), (.ref a)])) rfl rfl (hb hby da3_19)
  have K := K.wr W3 (Or.inl (List.mem_of_getElem? (i := 0) rfl))
  have O := O.wr W3 g_a
  have E_a := E_a.wr W3
  have F_modCount_a := F_modCount_a.other W3 (Or.inr (slot_ne (Or.inl (hw _ (List.mem_of_getElem? (i := 22) rfl))) (Or.inl (hw _ (List.mem_of_getElem? (i := 62) rfl))) (by decide) (t := .int) (t' := .int) (by decide) (by decide)))
  have F_elementData_a := F_elementData_a.other W3 (Or.inr (slot_ne (Or.inl (hw _ (List.mem_of_getElem? (i := 25) rfl))) (Or.inl (hw _ (List.mem_of_getElem? (i := 62) rfl))) (by decide) (t := (.array (.object "java/lang/Object"))) (t' := .int) (by decide) (by decide)))
  have V_x := V_x.other W3 (Ne.symm ne_a_x)
  have F_size_a := F_size_a.same W3
  have N3 := Fr.snoc X3 N2 g_a
  refine own_go (U' := T3.setTop (mkF m 22 #[.val (.ref a), .val .null, .val (.ref x), .val (.int (0 : Int32))] [])) st3 ?_
  refine own_retV X3 hx hret hlk (hb hby da3_22) ?_ (by decide) (by decide)
  rw [e3]
  exact ⟨rfl, N3, K, _, _, F_modCount_a, F_elementData_a, F_size_a, V_x⟩
theorem own_pd5 : parseMethodDescriptor "(Ljava/lang/Object;)Z" = some ⟨[(.object "java/lang/Object")], some .boolean⟩ := by decide +kernel
theorem da1_0 : decode jdk_38_method_25_code 0 = .ok (.aload_n 0, 1) := by decide +kernel
theorem da1_1 : decode jdk_38_method_25_code 1 = .ok (.dup, 1) := by decide +kernel
theorem da1_2 : decode jdk_38_method_25_code 2 = .ok (.getfield 63, 3) := by decide +kernel
theorem da1_5 : decode jdk_38_method_25_code 5 = .ok (.iconst 1, 1) := by decide +kernel
theorem da1_6 : decode jdk_38_method_25_code 6 = .ok (.iadd, 1) := by decide +kernel
theorem da1_7 : decode jdk_38_method_25_code 7 = .ok (.putfield 63, 3) := by decide +kernel
theorem da1_10 : decode jdk_38_method_25_code 10 = .ok (.aload_n 0, 1) := by decide +kernel
theorem da1_11 : decode jdk_38_method_25_code 11 = .ok (.aload_n 1, 1) := by decide +kernel
theorem da1_12 : decode jdk_38_method_25_code 12 = .ok (.aload_n 0, 1) := by decide +kernel
theorem da1_13 : decode jdk_38_method_25_code 13 = .ok (.getfield 9, 3) := by decide +kernel
theorem da1_16 : decode jdk_38_method_25_code 16 = .ok (.aload_n 0, 1) := by decide +kernel
theorem da1_17 : decode jdk_38_method_25_code 17 = .ok (.getfield 48, 3) := by decide +kernel
theorem da1_20 : decode jdk_38_method_25_code 20 = .ok (.invokevirtual 131, 3) := by decide +kernel
theorem da1_23 : decode jdk_38_method_25_code 23 = .ok (.iconst 1, 1) := by decide +kernel
theorem da1_24 : decode jdk_38_method_25_code 24 = .ok (.ireturn, 1) := by decide +kernel
theorem own_efa1 (m : MethodId) (a : Addr)  : entryFrame m #[(.ref a), .null] 2 = mkF m 0 #[.val (.ref a), .val .null] [] := by first | (simp [entryFrame, mkF, argsToLocals, Value.category]; done) | rfl
set_option maxRecDepth 65536 in
set_option maxHeartbeats 40000000 in
theorem own_rma1 (l : Launch) (Z : State) (a0 : Array Value) (hw : ∀ d ∈ tables_1, d.before a0 Z = true) (a : Addr)  (h0 : Heap) (n0 : Nat) (g_a : n0 ≤ a) (mc : Int32) (dd : Addr) (cdd : Cell) (O : Old Z n0 h0) (S_dd : Sta Z Z.heap "java/util/ArrayList" "DEFAULTCAPACITY_EMPTY_ELEMENTDATA" "[Ljava/lang/Object;" (.ref dd)) (A_dd : Arr Z Z.heap dd cdd (.object "java/lang/Object")) (hcdd : cdd.slots.size.toInt32 = 0) (E_a : Exa Z h0 a "java/util/ArrayList") (F_modCount_a : Fld Z h0 a "java/util/AbstractList" "modCount" "I" (.int mc)) (F_elementData_a : Fld Z h0 a "java/util/ArrayList" "elementData" "[Ljava/lang/Object;" (.ref dd)) (F_size_a : Fld Z h0 a "java/util/ArrayList" "size" "I" (.int 0)) :
    own_C l Z (⟨"java/util/ArrayList", "add", "(Ljava/lang/Object;)Z"⟩ : MethodName) jdk_38_method_25_code 2 (some .boolean) [] ({ frames := 4, cells := 1, slots := 10, locals := 56 } : Room) #[(.ref a), .null] h0 (fun v h L => v = some (.int 1) ∧ Fr n0 L ∧ Keep h0 h [a] ∧ ∃ x kx, Fld Z h a "java/util/AbstractList" "modCount" "I" (.int (mc + 1)) ∧ Fld Z h a "java/util/ArrayList" "elementData" "[Ljava/lang/Object;" (.ref x) ∧ Fld Z h a "java/util/ArrayList" "size" "I" (.int 1) ∧ own_Ar Z h x kx (.object "java/lang/Object") (.null :: List.replicate 9 .null)) := by
  refine own_body (plainFor_of_name own_pn2) fun p e s m below meth c s₁ hx hby hml hret hlk hown hnm hZ X0 e0 => ?_
  rw [own_efa1 m a ]
  have N0 := Fr.nil n0
  have K := Keep.refl h0 [a]
  refine own_go (U' := s₁.setTop (mkF m 1 #[.val (.ref a), .val .null] [(.ref a)])) (fun t k => XS.aloadN X0.here hx rfl (hb hby da1_0) rfl rfl k) ?_
  refine own_go (U' := s₁.setTop (mkF m 2 #[.val (.ref a), .val .null] [(.ref a), (.ref a)])) (fun t k => XS.dup X0.here hx rfl (hb hby da1_1) rfl rfl k) ?_
  obtain ⟨T1, X1, e1, st1⟩ := getF X0 hx hZ hown (host := "") (Or.inl (hw _ (List.mem_of_getElem? (i := 59) rfl))) (Via.of (hw _ (List.mem_of_getElem? (i := 60) rfl))) e0 F_modCount_a (g := (mkF m 2 #[.val (.ref a), .val .null] [(.ref a), (.ref a)])) rfl rfl (hb hby da1_2)
  refine own_go (U' := T1.setTop (mkF m 5 #[.val (.ref a), .val .null] [(.int mc), (.ref a)])) st1 ?_
  refine own_go (U' := T1.setTop (mkF m 6 #[.val (.ref a), .val .null] [(.int (1 : Int32)), (.int mc), (.ref a)])) (fun t k => XS.iconst X1.here hx rfl (hb hby da1_5) k) ?_
  refine own_go (U' := T1.setTop (mkF m 7 #[.val (.ref a), .val .null] [(.int (mc + (1 : Int32))), (.ref a)])) (fun t k => XS.iadd X1.here hx rfl (hb hby da1_6) rfl k) ?_
  obtain ⟨T2, h2, X2, e2, W2, st2⟩ := putF X1 hx hZ hown (host := "") (Or.inl (hw _ (List.mem_of_getElem? (i := 59) rfl))) (Via.of (hw _ (List.mem_of_getElem? (i := 60) rfl))) e1 F_modCount_a E_a (Or.inl (hw _ (List.mem_of_getElem? (i := 22) rfl))) (hw _ (List.mem_of_getElem? (i := 1) rfl)) (ty := .int) (by decide) rfl rfl (g := (mkF m 7 #[.val (.ref a), .val .null] [(.int (mc + (1 : Int32))), (.ref a)])) rfl rfl (hb hby da1_7)
  have K := K.wr W2 (Or.inl (List.mem_of_getElem? (i := 0) rfl))
  have O := O.wr W2 g_a
  have E_a := E_a.wr W2
  have F_elementData_a := F_elementData_a.other W2 (Or.inr (slot_ne (Or.inl (hw _ (List.mem_of_getElem? (i := 25) rfl))) (Or.inl (hw _ (List.mem_of_getElem? (i := 22) rfl))) (by decide) (t := (.array (.object "java/lang/Object"))) (t' := .int) (by decide) (by decide)))
  have F_size_a := F_size_a.other W2 (Or.inr (slot_ne (Or.inl (hw _ (List.mem_of_getElem? (i := 62) rfl))) (Or.inl (hw _ (List.mem_of_getElem? (i := 22) rfl))) (by decide) (t := .int) (t' := .int) (by decide) (by decide)))
  have F_modCount_a := F_modCount_a.same W2
  have N2 := Fr.snoc X2 N0 g_a
  refine own_go (U' := T2.setTop (mkF m 10 #[.val (.ref a), .val .null] [])) st2 ?_
  refine own_go (U' := T2.setTop (mkF m 11 #[.val (.ref a), .val .null] [(.ref a)])) (fun t k => XS.aloadN X2.here hx rfl (hb hby da1_10) rfl rfl k) ?_
  refine own_go (U' := T2.setTop (mkF m 12 #[.val (.ref a), .val .null] [.null, (.ref a)])) (fun t k => XS.aloadN X2.here hx rfl (hb hby da1_11) rfl rfl k) ?_
  refine own_go (U' := T2.setTop (mkF m 13 #[.val (.ref a), .val .null] [(.ref a), .null, (.ref a)])) (fun t k => XS.aloadN X2.here hx rfl (hb hby da1_12) rfl rfl k) ?_
  obtain ⟨T3, X3, e3, st3⟩ := getF X2 hx hZ hown (host := "") (Or.inl (hw _ (List.mem_of_getElem? (i := 24) rfl))) Via.refl e2 F_elementData_a (g := (mkF m 13 #[.val (.ref a), .val .null] [(.ref a), .null, (.ref a)])) rfl rfl (hb hby da1_13)
  refine own_go (U' := T3.setTop (mkF m 16 #[.val (.ref a), .val .null] [(.ref dd), .null, (.ref a)])) st3 ?_
  refine own_go (U' := T3.setTop (mkF m 17 #[.val (.ref a), .val .null] [(.ref a), (.ref dd), .null, (.ref a)])) (fun t k => XS.aloadN X3.here hx rfl (hb hby da1_16) rfl rfl k) ?_
  obtain ⟨T4, X4, e4, st4⟩ := getF X3 hx hZ hown (host := "") (Or.inl (hw _ (List.mem_of_getElem? (i := 61) rfl))) Via.refl e3 F_size_a (g := (mkF m 17 #[.val (.ref a), .val .null] [(.ref a), (.ref dd), .null, (.ref a)])) rfl rfl (hb hby da1_17)
  refine own_go (U' := T4.setTop (mkF m 20 #[.val (.ref a), .val .null] [(.int (0 : Int32)), (.ref dd), .null, (.ref a)])) st4 ?_
  obtain ⟨v5, T5, h5, L5, e5, X5, hQ5, st5⟩ := own_callP X4 hx hZ (y := (⟨"java/util/ArrayList", "add", "(Ljava/lang/Object;[Ljava/lang/Object;I)V"⟩ : MethodName)) hown (hw _ (List.mem_of_getElem? (i := 63) rfl)) (hw _ (List.mem_of_getElem? (i := 64) rfl)) (hw _ (List.mem_of_getElem? (i := 66) rfl)) (hw _ (List.mem_of_getElem? (i := 65) rfl)) (hw _ (List.mem_of_getElem? (i := 2) rfl)) (hw _ (List.mem_of_getElem? (i := 67) rfl)) (by decide) E_a (own_rma3 l Z a0 hw a  dd h2 n0 g_a (mc + 1) cdd O S_dd A_dd hcdd E_a F_modCount_a F_elementData_a F_size_a) (W := 0) (by decide) (by decide) (g := (mkF m 20 #[.val (.ref a), .val .null] [(.int (0 : Int32)), (.ref dd), .null, (.ref a)])) rfl (by rw [hml]; rfl) (argsL := [.null, (.ref dd), (.int (0 : Int32))]) (rest := []) (lenOf own_pd4 rfl) rfl rfl (by show 2 * 0 + _ ≤ _; exact Nat.le_of_eq rfl) (hb hby da1_20) e4 (by decide) (by decide)
  obtain ⟨rfl, Nq, Kq, x, kx, Fm, Fe, Fs, Vx⟩ := hQ5
  have K := K.trans Kq (allS (Or.inl (List.mem_of_getElem? (i := 0) rfl)) all0)
  have O := O.keep Kq (allS g_a all0)
  have E_a := E_a.keep Kq
  have N5 := Fr.app N2 Nq
  refine own_go (U' := T5.setTop (mkF m 23 #[.val (.ref a), .val .null] [])) st5 ?_
  refine own_go (U' := T5.setTop (mkF m 24 #[.val (.ref a), .val .null] [(.int (1 : Int32))])) (fun t k => XS.iconst X5.here hx rfl (hb hby da1_23) k) ?_
  refine own_retN X5 hx (t := .boolean) hret (by simp) hlk (hb hby da1_24) ?_ (by decide) (by decide)
  rw [e5]
  exact ⟨rfl, N5, K, _, _, Fm, Fe, Fs, Vx⟩
theorem dre_0 : decode jdk_30_method_1_code 0 = .ok (.aload_n 0, 1) := by decide +kernel
theorem dre_1 : decode jdk_30_method_1_code 1 = .ok (.invokespecial 1, 3) := by decide +kernel
theorem dre_4 : decode jdk_30_method_1_code 4 = .ok (.return_, 1) := by decide +kernel
theorem own_pn3 : plainName "java/lang/Record" = true := by first | (simp [plainName, overriddenIn]; done) | decide +kernel
theorem own_efre (m : MethodId) (a : Addr) : entryFrame m #[(.ref a)] 1 = mkF m 0 #[.val (.ref a)] [] := by first | (simp [entryFrame, mkF, argsToLocals, Value.category]; done) | rfl
set_option maxRecDepth 65536 in
set_option maxHeartbeats 40000000 in
theorem own_rmre (l : Launch) (Z : State) (a0 : Array Value) (hw : ∀ d ∈ tables_1, d.before a0 Z = true) (a : Addr) (h0 : Heap)  :
    own_C l Z (⟨"java/lang/Record", "<init>", "()V"⟩ : MethodName) jdk_30_method_1_code 1 none [] ({ frames := 1, cells := 0, slots := 0, locals := 12 } : Room) #[(.ref a)] h0 (fun v h L => v = none ∧ L = [] ∧ h = h0) := by
  refine own_body (plainFor_of_name own_pn3) fun p e s m below meth c s₁ hx hby hml hret hlk hown hnm hZ X0 e0 => ?_
  rw [own_efre m a]
  refine own_go (U' := s₁.setTop (mkF m 1 #[.val (.ref a)] [(.ref a)])) (fun t k => XS.aloadN X0.here hx rfl (hb hby dre_0) rfl rfl k) ?_
  obtain ⟨T1, X1, e1, st1⟩ := initO X0 hx hZ hown (hw _ (List.mem_of_getElem? (i := 37) rfl)) (hw _ (List.mem_of_getElem? (i := 19) rfl)) (hw _ (List.mem_of_getElem? (i := 20) rfl)) e0 (g := (mkF m 1 #[.val (.ref a)] [(.ref a)])) rfl (by rw [hml]; rfl) rfl (hb hby dre_1) (by decide) (W := 0) (by show 2 * 0 + _ ≤ _; exact Nat.le_of_eq rfl) (by decide)
  refine own_go (U' := T1.setTop (mkF m 4 #[.val (.ref a)] [])) st1 ?_
  refine own_retV X1 hx hret hlk (hb hby dre_4) ?_ (by decide) (by decide)
  exact ⟨rfl, rfl, e1⟩
theorem own_pd6 : parseMethodDescriptor "(ZILjava/util/List;)V" = some ⟨[.boolean, .int, (.object "java/util/List")], none⟩ := by decide +kernel
theorem dsi_0 : decode prog_29_method_1_code 0 = .ok (.aload_n 0, 1) := by decide +kernel
theorem dsi_1 : decode prog_29_method_1_code 1 = .ok (.invokespecial 1, 3) := by decide +kernel
theorem dsi_4 : decode prog_29_method_1_code 4 = .ok (.aload_n 0, 1) := by decide +kernel
theorem dsi_5 : decode prog_29_method_1_code 5 = .ok (.iload_n 1, 1) := by decide +kernel
theorem dsi_6 : decode prog_29_method_1_code 6 = .ok (.putfield 7, 3) := by decide +kernel
theorem dsi_9 : decode prog_29_method_1_code 9 = .ok (.aload_n 0, 1) := by decide +kernel
theorem dsi_10 : decode prog_29_method_1_code 10 = .ok (.iload_n 2, 1) := by decide +kernel
theorem dsi_11 : decode prog_29_method_1_code 11 = .ok (.putfield 13, 3) := by decide +kernel
theorem dsi_14 : decode prog_29_method_1_code 14 = .ok (.aload_n 0, 1) := by decide +kernel
theorem dsi_15 : decode prog_29_method_1_code 15 = .ok (.aload_n 3, 1) := by decide +kernel
theorem dsi_16 : decode prog_29_method_1_code 16 = .ok (.putfield 17, 3) := by decide +kernel
theorem dsi_19 : decode prog_29_method_1_code 19 = .ok (.return_, 1) := by decide +kernel
theorem own_pn4 : plainName "com/example/keywright/keywright/Snapshot$Setting" = true := by first | (simp [plainName, overriddenIn]; done) | decide +kernel
theorem own_efsi (m : MethodId) (a : Addr) (p1 p2 : Int32) (b : Addr) : entryFrame m #[(.ref a), (.int p1), (.int p2), (.ref b)] 4 = mkF m 0 #[.val (.ref a), .val (.int p1), .val (.int p2), .val (.ref b)] [] := by first | (simp [entryFrame, mkF, argsToLocals, Value.category]; done) | rfl
set_option maxRecDepth 65536 in
set_option maxHeartbeats 40000000 in
theorem own_rmsi (l : Launch) (Z : State) (a0 : Array Value) (hw : ∀ d ∈ tables_1, d.before a0 Z = true) (a : Addr) (p1 p2 : Int32) (b : Addr) (h0 : Heap) (n0 : Nat) (g_a : n0 ≤ a) (u0 u1 u2 : Value) (hp : nar .boolean p1 = p1) (E_a : Exa Z h0 a "com/example/keywright/keywright/Snapshot$Setting") (F_deny_a : Fld Z h0 a "com/example/keywright/keywright/Snapshot$Setting" "deny" "Z" u0) (F_width_a : Fld Z h0 a "com/example/keywright/keywright/Snapshot$Setting" "width" "I" u1) (F_lines_a : Fld Z h0 a "com/example/keywright/keywright/Snapshot$Setting" "lines" "Ljava/util/List;" u2) :
    own_C l Z (⟨"com/example/keywright/keywright/Snapshot$Setting", "<init>", "(ZILjava/util/List;)V"⟩ : MethodName) prog_29_method_1_code 4 none [] ({ frames := 2, cells := 0, slots := 0, locals := 24 } : Room) #[(.ref a), (.int p1), (.int p2), (.ref b)] h0 (fun v h L => v = none ∧ Fr n0 L ∧ Keep h0 h [a] ∧ Fld Z h a "com/example/keywright/keywright/Snapshot$Setting" "deny" "Z" (.int p1) ∧ Fld Z h a "com/example/keywright/keywright/Snapshot$Setting" "width" "I" (.int p2)) := by
  refine own_body (plainFor_of_name own_pn4) fun p e s m below meth c s₁ hx hby hml hret hlk hown hnm hZ X0 e0 => ?_
  rw [own_efsi m a p1 p2 b]
  have N0 := Fr.nil n0
  have K := Keep.refl h0 [a]
  refine own_go (U' := s₁.setTop (mkF m 1 #[.val (.ref a), .val (.int p1), .val (.int p2), .val (.ref b)] [(.ref a)])) (fun t k => XS.aloadN X0.here hx rfl (hb hby dsi_0) rfl rfl k) ?_
  obtain ⟨v1, T1, h1, L1, e1, X1, hQ1, st1⟩ := own_callC X0 hx hZ (y := (⟨"java/lang/Record", "<init>", "()V"⟩ : MethodName)) rfl hown (hw _ (List.mem_of_getElem? (i := 32) rfl)) (hw _ (List.mem_of_getElem? (i := 33) rfl)) (hw _ (List.mem_of_getElem? (i := 35) rfl)) (hw _ (List.mem_of_getElem? (i := 36) rfl)) (by decide) (a := a) (own_rmre l Z a0 hw a h0) (W := 0) (by decide) (by decide) (g := (mkF m 1 #[.val (.ref a), .val (.int p1), .val (.int p2), .val (.ref b)] [(.ref a)])) rfl (by rw [hml]; rfl) (argsL := []) (rest := []) (lenOf own_pd0 rfl) rfl rfl (by show 2 * 0 + _ ≤ _; exact Nat.le_of_eq rfl) (hb hby dsi_1) e0 (by decide) (by decide)
  obtain ⟨rfl, rfl, eh1⟩ := hQ1
  have e1 := e1.trans eh1
  rw [List.append_nil] at X1
  refine own_go (U' := T1.setTop (mkF m 4 #[.val (.ref a), .val (.int p1), .val (.int p2), .val (.ref b)] [])) st1 ?_
  refine own_go (U' := T1.setTop (mkF m 5 #[.val (.ref a), .val (.int p1), .val (.int p2), .val (.ref b)] [(.ref a)])) (fun t k => XS.aloadN X1.here hx rfl (hb hby dsi_4) rfl rfl k) ?_
  refine own_go (U' := T1.setTop (mkF m 6 #[.val (.ref a), .val (.int p1), .val (.int p2), .val (.ref b)] [(.int p1), (.ref a)])) (fun t k => XS.iloadN X1.here hx rfl (hb hby dsi_5) rfl k) ?_
  obtain ⟨T2, h2, X2, e2, W2, st2⟩ := putFN X1 hx hZ hown (hw _ (List.mem_of_getElem? (i := 38) rfl)) Via.refl e1 F_deny_a E_a (Or.inr ⟨(hw _ (List.mem_of_getElem? (i := 39) rfl)), rfl, hnm⟩) (hw _ (List.mem_of_getElem? (i := 27) rfl)) (ty := .boolean) (v' := (.int (nar .boolean p1))) (by decide) rfl (fits_nar_bool _) (g := (mkF m 6 #[.val (.ref a), .val (.int p1), .val (.int p2), .val (.ref b)] [(.int p1), (.ref a)])) rfl rfl (hb hby dsi_6)
  have K := K.wr W2 (Or.inl (List.mem_of_getElem? (i := 0) rfl))
  have E_a := E_a.wr W2
  have F_width_a := F_width_a.other W2 (Or.inr (slot_ne (Or.inr (hw _ (List.mem_of_getElem? (i := 41) rfl))) (Or.inr (hw _ (List.mem_of_getElem? (i := 39) rfl))) (by decide) (t := .int) (t' := .boolean) (by decide) (by decide)))
  have F_lines_a := F_lines_a.other W2 (Or.inr (slot_ne (Or.inr (hw _ (List.mem_of_getElem? (i := 43) rfl))) (Or.inr (hw _ (List.mem_of_getElem? (i := 39) rfl))) (by decide) (t := (.object "java/util/List")) (t' := .boolean) (by decide) (by decide)))
  have F_deny_a := F_deny_a.same W2
  have N2 := Fr.snoc X2 N0 g_a
  refine own_go (U' := T2.setTop (mkF m 9 #[.val (.ref a), .val (.int p1), .val (.int p2), .val (.ref b)] [])) st2 ?_
  refine own_go (U' := T2.setTop (mkF m 10 #[.val (.ref a), .val (.int p1), .val (.int p2), .val (.ref b)] [(.ref a)])) (fun t k => XS.aloadN X2.here hx rfl (hb hby dsi_9) rfl rfl k) ?_
  refine own_go (U' := T2.setTop (mkF m 11 #[.val (.ref a), .val (.int p1), .val (.int p2), .val (.ref b)] [(.int p2), (.ref a)])) (fun t k => XS.iloadN X2.here hx rfl (hb hby dsi_10) rfl k) ?_
  obtain ⟨T3, h3, X3, e3, W3, st3⟩ := putF X2 hx hZ hown (host := "") (Or.inl (hw _ (List.mem_of_getElem? (i := 40) rfl))) Via.refl e2 F_width_a E_a (Or.inr ⟨(hw _ (List.mem_of_getElem? (i := 41) rfl)), rfl, hnm⟩) (hw _ (List.mem_of_getElem? (i := 27) rfl)) (ty := .int) (by decide) rfl rfl (g := (mkF m 11 #[.val (.ref a), .val (.int p1), .val (.int p2), .val (.ref b)] [(.int p2), (.ref a)])) rfl rfl (hb hby dsi_11)
  have K := K.wr W3 (Or.inl (List.mem_of_getElem? (i := 0) rfl))
  have E_a := E_a.wr W3
  have F_deny_a := F_deny_a.other W3 (Or.inr (slot_ne (Or.inr (hw _ (List.mem_of_getElem? (i := 39) rfl))) (Or.inr (hw _ (List.mem_of_getElem? (i := 41) rfl))) (by decide) (t := .boolean) (t' := .int) (by decide) (by decide)))
  have F_lines_a := F_lines_a.other W3 (Or.inr (slot_ne (Or.inr (hw _ (List.mem_of_getElem? (i := 43) rfl))) (Or.inr (hw _ (List.mem_of_getElem? (i := 41) rfl))) (by decide) (t := (.object "java/util/List")) (t' := .int) (by decide) (by decide)))
  have F_width_a := F_width_a.same W3
  have N3 := Fr.snoc X3 N2 g_a
  refine own_go (U' := T3.setTop (mkF m 14 #[.val (.ref a), .val (.int p1), .val (.int p2), .val (.ref b)] [])) st3 ?_
  refine own_go (U' := T3.setTop (mkF m 15 #[.val (.ref a), .val (.int p1), .val (.int p2), .val (.ref b)] [(.ref a)])) (fun t k => XS.aloadN X3.here hx rfl (hb hby dsi_14) rfl rfl k) ?_
  refine own_go (U' := T3.setTop (mkF m 16 #[.val (.ref a), .val (.int p1), .val (.int p2), .val (.ref b)] [(.ref b), (.ref a)])) (fun t k => XS.aloadN X3.here hx rfl (hb hby dsi_15) rfl rfl k) ?_
  obtain ⟨T4, h4, X4, e4, W4, st4⟩ := putF X3 hx hZ hown (host := "") (Or.inl (hw _ (List.mem_of_getElem? (i := 42) rfl))) Via.refl e3 F_lines_a E_a (Or.inr ⟨(hw _ (List.mem_of_getElem? (i := 43) rfl)), rfl, hnm⟩) (hw _ (List.mem_of_getElem? (i := 27) rfl)) (ty := (.object "java/util/List")) (by decide) rfl rfl (g := (mkF m 16 #[.val (.ref a), .val (.int p1), .val (.int p2), .val (.ref b)] [(.ref b), (.ref a)])) rfl rfl (hb hby dsi_16)
  have K := K.wr W4 (Or.inl (List.mem_of_getElem? (i := 0) rfl))
  have E_a := E_a.wr W4
  have F_deny_a := F_deny_a.other W4 (Or.inr (slot_ne (Or.inr (hw _ (List.mem_of_getElem? (i := 39) rfl))) (Or.inr (hw _ (List.mem_of_getElem? (i := 43) rfl))) (by decide) (t := .boolean) (t' := (.object "java/util/List")) (by decide) (by decide)))
  have F_width_a := F_width_a.other W4 (Or.inr (slot_ne (Or.inr (hw _ (List.mem_of_getElem? (i := 41) rfl))) (Or.inr (hw _ (List.mem_of_getElem? (i := 43) rfl))) (by decide) (t := .int) (t' := (.object "java/util/List")) (by decide) (by decide)))
  have F_lines_a := F_lines_a.same W4
  have N4 := Fr.snoc X4 N3 g_a
  refine own_go (U' := T4.setTop (mkF m 19 #[.val (.ref a), .val (.int p1), .val (.int p2), .val (.ref b)] [])) st4 ?_
  refine own_retV X4 hx hret hlk (hb hby dsi_19) ?_ (by decide) (by decide)
  rw [e4]
  rw [hp] at F_deny_a
  exact ⟨rfl, N4, K, F_deny_a, F_width_a⟩
theorem own_pd7 : parseMethodDescriptor "(ZI)J" = some ⟨[.boolean, .int], some .long⟩ := by decide +kernel
theorem dky_0 : decode method_2_code 0 = .ok (.ldc2_w 7, 3) := by decide +kernel
theorem dky_3 : decode method_2_code 3 = .ok (.iload_n 1, 1) := by decide +kernel
theorem dky_4 : decode method_2_code 4 = .ok (.i2l, 1) := by decide +kernel
theorem dky_5 : decode method_2_code 5 = .ok (.lmul, 1) := by decide +kernel
theorem dky_6 : decode method_2_code 6 = .ok (.iload_n 0, 1) := by decide +kernel
theorem dky_7 : decode method_2_code 7 = .ok (.ifCond .eq 7, 3) := by decide +kernel
theorem dky_10 : decode method_2_code 10 = .ok (.lconst 0, 1) := by decide +kernel
theorem dky_11 : decode method_2_code 11 = .ok (.goto 4, 3) := by decide +kernel
theorem dky_14 : decode method_2_code 14 = .ok (.lconst 1, 1) := by decide +kernel
theorem dky_15 : decode method_2_code 15 = .ok (.ladd, 1) := by decide +kernel
theorem dky_16 : decode method_2_code 16 = .ok (.lreturn, 1) := by decide +kernel
theorem own_pn5 : plainName "com/example/keywright/keywright/SettingRanksWithPinLaw" = true := by first | (simp [plainName, overriddenIn]; done) | decide +kernel
theorem own_efky (m : MethodId) (p1 p2 : Int32) : entryFrame m #[(.int p1), (.int p2)] 2 = mkF m 0 #[.val (.int p1), .val (.int p2)] [] := by first | (simp [entryFrame, mkF, argsToLocals, Value.category]; done) | rfl
set_option maxRecDepth 65536 in
set_option maxHeartbeats 40000000 in
theorem own_rmky (l : Launch) (Z : State) (a0 : Array Value) (hw : ∀ d ∈ tables_1, d.before a0 Z = true) (p1 p2 : Int32) (h0 : Heap)  :
    own_C l Z (⟨"com/example/keywright/keywright/SettingRanksWithPinLaw", "key", "(ZI)J"⟩ : MethodName) method_2_code 2 (some .long) [] ({ frames := 0, cells := 0, slots := 0, locals := 0 } : Room) #[(.int p1), (.int p2)] h0 (fun v h L => v = some (.long (own_key p1 p2)) ∧ L = [] ∧ h = h0) := by
  refine own_body (plainFor_of_name own_pn5) fun p e s m below meth c s₁ hx hby hml hret hlk hown hnm hZ X0 e0 => ?_
  rw [own_efky m p1 p2]
  refine own_go (U' := s₁.setTop (mkF m 3 #[.val (.int p1), .val (.int p2)] [(.long (2 : Int64))])) (fun t k => X0.ldc2Long hx hown (mvT hZ (hw _ (List.mem_of_getElem? (i := 48) rfl))) (g := (mkF m 0 #[.val (.int p1), .val (.int p2)] [])) rfl (hb hby dky_0) _ k) ?_
  refine own_go (U' := s₁.setTop (mkF m 4 #[.val (.int p1), .val (.int p2)] [(.int p2), (.long (2 : Int64))])) (fun t k => XS.iloadN X0.here hx rfl (hb hby dky_3) rfl k) ?_
  refine own_go (U' := s₁.setTop (mkF m 5 #[.val (.int p1), .val (.int p2)] [(.long (p2.toInt64)), (.long (2 : Int64))])) (fun t k => XS.i2l X0.here hx rfl (hb hby dky_4) rfl k) ?_
  refine own_go (U' := s₁.setTop (mkF m 6 #[.val (.int p1), .val (.int p2)] [(.long ((2 : Int64) * (p2.toInt64)))])) (fun t k => XS.lmul X0.here hx rfl (hb hby dky_5) rfl k) ?_
  refine own_go (U' := s₁.setTop (mkF m 7 #[.val (.int p1), .val (.int p2)] [(.int p1), (.long ((2 : Int64) * (p2.toInt64)))])) (fun t k => XS.iloadN X0.here hx rfl (hb hby dky_6) rfl k) ?_
  refine own_go (U' := s₁.setTop (mkF m 15 #[.val (.int p1), .val (.int p2)] [(.long (if p1 = (0 : Int32) then (1 : Int64) else (0 : Int64))), (.long ((2 : Int64) * (p2.toInt64)))])) (fun t k => ?_) ?_
  · show Steps p.tables e below (s₁.setTop (mkF m 7 #[.val (.int p1), .val (.int p2)] [(.int p1), (.long ((2 : Int64) * (p2.toInt64)))])) _
    by_cases hd7 : p1 = (0 : Int32)
    · simp only [if_pos hd7] at k
      refine XS.ifYes X0.here hx rfl (pc0 := 7) (pc' := 14) rfl (hb hby dky_7) rfl ((if0 _ _).trans (teq hd7).1) (by decide) (by decide) ?_
      show Steps p.tables e below (s₁.setTop (mkF m 14 #[.val (.int p1), .val (.int p2)] [(.long ((2 : Int64) * (p2.toInt64)))])) _
      refine XS.lconst X0.here hx rfl (hb hby dky_14) ?_
      show Steps p.tables e below (s₁.setTop (mkF m 15 #[.val (.int p1), .val (.int p2)] [(.long (1 : Int64)), (.long ((2 : Int64) * (p2.toInt64)))])) _
      exact k
    · simp only [if_neg hd7] at k
      refine XS.ifNo X0.here hx rfl (hb hby dky_7) rfl ((if0 _ _).trans (feq hd7).1) ?_
      show Steps p.tables e below (s₁.setTop (mkF m 10 #[.val (.int p1), .val (.int p2)] [(.long ((2 : Int64) * (p2.toInt64)))])) _
      refine XS.lconst X0.here hx rfl (hb hby dky_10) ?_
      show Steps p.tables e below (s₁.setTop (mkF m 11 #[.val (.int p1), .val (.int p2)] [(.long (0 : Int64)), (.long ((2 : Int64) * (p2.toInt64)))])) _
      refine XS.goto X0.here hx rfl (pc0 := 11) (pc' := 15) rfl (hb hby dky_11) (by decide) (by decide) ?_
      show Steps p.tables e below (s₁.setTop (mkF m 15 #[.val (.int p1), .val (.int p2)] [(.long (0 : Int64)), (.long ((2 : Int64) * (p2.toInt64)))])) _
      exact k
  refine own_go (U' := s₁.setTop (mkF m 16 #[.val (.int p1), .val (.int p2)] [(.long (((2 : Int64) * (p2.toInt64)) + (if p1 = (0 : Int32) then (1 : Int64) else (0 : Int64))))])) (fun t k => XS.ladd X0.here hx rfl (hb hby dky_15) rfl k) ?_
  refine own_retL X0 hx hret hlk (hb hby dky_16) ?_ (by decide) (by decide)
  exact ⟨rfl, rfl, e0⟩
theorem own_pd8 : parseMethodDescriptor "(Lcom/example/keywright/keywright/Snapshot$Setting;)Z" = some ⟨[(.object "com/example/keywright/keywright/Snapshot$Setting")], some .boolean⟩ := by decide +kernel
theorem drw_0 : decode prog_29_method_4_code 0 = .ok (.aload_n 0, 1) := by decide +kernel
theorem drw_1 : decode prog_29_method_4_code 1 = .ok (.getfield 7, 3) := by decide +kernel
theorem drw_4 : decode prog_29_method_4_code 4 = .ok (.aload_n 1, 1) := by decide +kernel
theorem drw_5 : decode prog_29_method_4_code 5 = .ok (.getfield 7, 3) := by decide +kernel
theorem drw_8 : decode prog_29_method_4_code 8 = .ok (.if_icmp .ne 18, 3) := by decide +kernel
theorem drw_11 : decode prog_29_method_4_code 11 = .ok (.aload_n 0, 1) := by decide +kernel
theorem drw_12 : decode prog_29_method_4_code 12 = .ok (.getfield 13, 3) := by decide +kernel
theorem drw_15 : decode prog_29_method_4_code 15 = .ok (.aload_n 1, 1) := by decide +kernel
theorem drw_16 : decode prog_29_method_4_code 16 = .ok (.getfield 13, 3) := by decide +kernel
theorem drw_19 : decode prog_29_method_4_code 19 = .ok (.if_icmp .ne 7, 3) := by decide +kernel
theorem drw_22 : decode prog_29_method_4_code 22 = .ok (.iconst 1, 1) := by decide +kernel
theorem drw_23 : decode prog_29_method_4_code 23 = .ok (.goto 4, 3) := by decide +kernel
theorem drw_26 : decode prog_29_method_4_code 26 = .ok (.iconst 0, 1) := by decide +kernel
theorem drw_27 : decode prog_29_method_4_code 27 = .ok (.ireturn, 1) := by decide +kernel
theorem own_efrw (m : MethodId) (a b : Addr) : entryFrame m #[(.ref a), (.ref b)] 2 = mkF m 0 #[.val (.ref a), .val (.ref b)] [] := by first | (simp [entryFrame, mkF, argsToLocals, Value.category]; done) | rfl
set_option maxRecDepth 65536 in
set_option maxHeartbeats 40000000 in
theorem own_rmrw (l : Launch) (Z : State) (a0 : Array Value) (hw : ∀ d ∈ tables_1, d.before a0 Z = true) (a b : Addr) (h0 : Heap) (da db wa wb : Int32) (F_deny_a : Fld Z h0 a "com/example/keywright/keywright/Snapshot$Setting" "deny" "Z" (.int da)) (F_deny_b : Fld Z h0 b "com/example/keywright/keywright/Snapshot$Setting" "deny" "Z" (.int db)) (F_width_a : Fld Z h0 a "com/example/keywright/keywright/Snapshot$Setting" "width" "I" (.int wa)) (F_width_b : Fld Z h0 b "com/example/keywright/keywright/Snapshot$Setting" "width" "I" (.int wb)) :
    own_C l Z (⟨"com/example/keywright/keywright/Snapshot$Setting", "ranksWith", "(Lcom/example/keywright/keywright/Snapshot$Setting;)Z"⟩ : MethodName) prog_29_method_4_code 2 (some .boolean) [] ({ frames := 0, cells := 0, slots := 0, locals := 0 } : Room) #[(.ref a), (.ref b)] h0 (fun v h L => v = some (.int (own_rw da db wa wb)) ∧ L = [] ∧ h = h0) := by
  refine own_body (plainFor_of_name own_pn4) fun p e s m below meth c s₁ hx hby hml hret hlk hown hnm hZ X0 e0 => ?_
  rw [own_efrw m a b]
  refine own_go (U' := s₁.setTop (mkF m 1 #[.val (.ref a), .val (.ref b)] [(.ref a)])) (fun t k => XS.aloadN X0.here hx rfl (hb hby drw_0) rfl rfl k) ?_
  obtain ⟨T1, X1, e1, st1⟩ := getF X0 hx hZ hown (host := "") (Or.inl (hw _ (List.mem_of_getElem? (i := 38) rfl))) Via.refl e0 F_deny_a (g := (mkF m 1 #[.val (.ref a), .val (.ref b)] [(.ref a)])) rfl rfl (hb hby drw_1)
  refine own_go (U' := T1.setTop (mkF m 4 #[.val (.ref a), .val (.ref b)] [(.int da)])) st1 ?_
  refine own_go (U' := T1.setTop (mkF m 5 #[.val (.ref a), .val (.ref b)] [(.ref b), (.int da)])) (fun t k => XS.aloadN X1.here hx rfl (hb hby drw_4) rfl rfl k) ?_
  obtain ⟨T2, X2, e2, st2⟩ := getF X1 hx hZ hown (host := "") (Or.inl (hw _ (List.mem_of_getElem? (i := 38) rfl))) Via.refl e1 F_deny_b (g := (mkF m 5 #[.val (.ref a), .val (.ref b)] [(.ref b), (.int da)])) rfl rfl (hb hby drw_5)
  refine own_go (U' := T2.setTop (mkF m 8 #[.val (.ref a), .val (.ref b)] [(.int db), (.int da)])) st2 ?_
  by_cases hd : da = db
  · refine own_go (U' := T2.setTop (mkF m 11 #[.val (.ref a), .val (.ref b)] [])) (fun t k => XS.icmpNo X2.here hx rfl (hb hby drw_8) rfl (teq hd).2 k) ?_
    refine own_go (U' := T2.setTop (mkF m 12 #[.val (.ref a), .val (.ref b)] [(.ref a)])) (fun t k => XS.aloadN X2.here hx rfl (hb hby drw_11) rfl rfl k) ?_
    obtain ⟨T3, X3, e3, st3⟩ := getF X2 hx hZ hown (host := "") (Or.inl (hw _ (List.mem_of_getElem? (i := 40) rfl))) Via.refl e2 F_width_a (g := (mkF m 12 #[.val (.ref a), .val (.ref b)] [(.ref a)])) rfl rfl (hb hby drw_12)
    refine own_go (U' := T3.setTop (mkF m 15 #[.val (.ref a), .val (.ref b)] [(.int wa)])) st3 ?_
    refine own_go (U' := T3.setTop (mkF m 16 #[.val (.ref a), .val (.ref b)] [(.ref b), (.int wa)])) (fun t k => XS.aloadN X3.here hx rfl (hb hby drw_15) rfl rfl k) ?_
    obtain ⟨T4, X4, e4, st4⟩ := getF X3 hx hZ hown (host := "") (Or.inl (hw _ (List.mem_of_getElem? (i := 40) rfl))) Via.refl e3 F_width_b (g := (mkF m 16 #[.val (.ref a), .val (.ref b)] [(.ref b), (.int wa)])) rfl rfl (hb hby drw_16)
    refine own_go (U' := T4.setTop (mkF m 19 #[.val (.ref a), .val (.ref b)] [(.int wb), (.int wa)])) st4 ?_
    by_cases hw2 : wa = wb
    · refine own_go (U' := T4.setTop (mkF m 22 #[.val (.ref a), .val (.ref b)] [])) (fun t k => XS.icmpNo X4.here hx rfl (hb hby drw_19) rfl (teq hw2).2 k) ?_
      refine own_go (U' := T4.setTop (mkF m 23 #[.val (.ref a), .val (.ref b)] [(.int (1 : Int32))])) (fun t k => XS.iconst X4.here hx rfl (hb hby drw_22) k) ?_
      refine own_go (U' := T4.setTop (mkF m 27 #[.val (.ref a), .val (.ref b)] [(.int (1 : Int32))])) (fun t k => XS.goto X4.here hx rfl (pc0 := 23) (pc' := 27) rfl (hb hby drw_23) (by decide) (by decide) k) ?_
      refine own_retN X4 hx (t := .boolean) hret (by simp) hlk (hb hby drw_27) ?_ (by decide) (by decide)
      refine ⟨?_, rfl, e4⟩
      rw [own_rw, if_pos hd, if_pos hw2]
      rfl
    · refine own_go (U' := T4.setTop (mkF m 26 #[.val (.ref a), .val (.ref b)] [])) (fun t k => XS.icmpYes X4.here hx rfl (pc0 := 19) (pc' := 26) rfl (hb hby drw_19) rfl (feq hw2).2 (by decide) (by decide) k) ?_
      refine own_go (U' := T4.setTop (mkF m 27 #[.val (.ref a), .val (.ref b)] [(.int (0 : Int32))])) (fun t k => XS.iconst X4.here hx rfl (hb hby drw_26) k) ?_
      refine own_retN X4 hx (t := .boolean) hret (by simp) hlk (hb hby drw_27) ?_ (by decide) (by decide)
      refine ⟨?_, rfl, e4⟩
      rw [own_rw, if_pos hd, if_neg hw2]
      rfl
  · refine own_go (U' := T2.setTop (mkF m 26 #[.val (.ref a), .val (.ref b)] [])) (fun t k => XS.icmpYes X2.here hx rfl (pc0 := 8) (pc' := 26) rfl (hb hby drw_8) rfl (feq hd).2 (by decide) (by decide) k) ?_
    refine own_go (U' := T2.setTop (mkF m 27 #[.val (.ref a), .val (.ref b)] [(.int (0 : Int32))])) (fun t k => XS.iconst X2.here hx rfl (hb hby drw_26) k) ?_
    refine own_retN X2 hx (t := .boolean) hret (by simp) hlk (hb hby drw_27) ?_ (by decide) (by decide)
    refine ⟨?_, rfl, e2⟩
    rw [own_rw, if_neg hd]
    rfl
theorem own_ef0 (m : MethodId) (p1 p2 p3 : Int32) : entryFrame m #[(.int p1), (.int p2), (.int p3)] maxLocals = mkF m 0 #[.val (.int p1), .val (.int p2), .val (.int p3), .unset, .unset, .unset, .unset, .unset, .unset, .unset, .unset] [] := by first | (simp [entryFrame, mkF, argsToLocals, Value.category, maxLocals]; done) | rfl
set_option maxRecDepth 65536 in
set_option maxHeartbeats 40000000 in
theorem own_rm0 (l : Launch) (Z : State) (a0 : Array Value) (hw : ∀ d ∈ tables_1, d.before a0 Z = true) (ws : List Jvm.Cond) (p1 p2 p3 : Int32) (h0 : Heap) (n0 : Nat) (dd : Addr) (cdd : Cell) (O : Old Z n0 h0) (S_dd : Sta Z Z.heap "java/util/ArrayList" "DEFAULTCAPACITY_EMPTY_ELEMENTDATA" "[Ljava/lang/Object;" (.ref dd)) (A_dd : Arr Z Z.heap dd cdd (.object "java/lang/Object")) (hcdd : cdd.slots.size.toInt32 = 0) :
    own_C l Z x code maxLocals ret ws room_1 #[(.int p1), (.int p2), (.int p3)] h0 (fun v h L => v = some (.int 1) ∧ Fr n0 L) := by
  refine own_body (plainFor_of_name own_pn5) fun p e s m below meth c s₁ hx hby hml hret hlk hown hnm hZ X0 e0 => ?_
  rw [own_ef0 m p1 p2 p3]
  have hml : c.maxLocals = 11 := hml
  have hret : meth.sig.returnType = some .boolean := hret
  have N0 := Fr.nil n0
  refine own_go (U' := s₁.setTop (mkF m 1 #[.val (.int p1), .val (.int p2), .val (.int p3), .unset, .unset, .unset, .unset, .unset, .unset, .unset, .unset] [(.int p3)])) (fun t k => XS.iloadN X0.here hx rfl (hb hby at_0) rfl k) ?_
  refine own_go (U' := s₁.setTop (mkF m 2 #[.val (.int p1), .val (.int p2), .val (.int p3), .unset, .unset, .unset, .unset, .unset, .unset, .unset, .unset] [(.int (1 : Int32)), (.int p3)])) (fun t k => XS.iconst X0.here hx rfl (hb hby at_1) k) ?_
  refine own_go (U' := s₁.setTop (mkF m 3 #[.val (.int p1), .val (.int p2), .val (.int p3), .unset, .unset, .unset, .unset, .unset, .unset, .unset, .unset] [(.int (p3 &&& (1 : Int32)))])) (fun t k => XS.iand X0.here hx rfl (hb hby at_2) rfl k) ?_
  refine own_go (U' := s₁.setTop (mkF m 11 #[.val (.int p1), .val (.int p2), .val (.int p3), .unset, .unset, .unset, .unset, .unset, .unset, .unset, .unset] [(.int (if (p3 &&& (1 : Int32)) = (0 : Int32) then (0 : Int32) else (1 : Int32)))])) (fun t k => ?_) ?_
  · show Steps p.tables e below (s₁.setTop (mkF m 3 #[.val (.int p1), .val (.int p2), .val (.int p3), .unset, .unset, .unset, .unset, .unset, .unset, .unset, .unset] [(.int (p3 &&& (1 : Int32)))])) _
    by_cases hd3 : (p3 &&& (1 : Int32)) = (0 : Int32)
    · simp only [if_pos hd3] at k
      refine XS.ifYes X0.here hx rfl (pc0 := 3) (pc' := 10) rfl (hb hby at_3) rfl ((if0 _ _).trans (teq hd3).1) (by decide) (by decide) ?_
      show Steps p.tables e below (s₁.setTop (mkF m 10 #[.val (.int p1), .val (.int p2), .val (.int p3), .unset, .unset, .unset, .unset, .unset, .unset, .unset, .unset] [])) _
      refine XS.iconst X0.here hx rfl (hb hby at_10) ?_
      show Steps p.tables e below (s₁.setTop (mkF m 11 #[.val (.int p1), .val (.int p2), .val (.int p3), .unset, .unset, .unset, .unset, .unset, .unset, .unset, .unset] [(.int (0 : Int32))])) _
      exact k
    · simp only [if_neg hd3] at k
      refine XS.ifNo X0.here hx rfl (hb hby at_3) rfl ((if0 _ _).trans (feq hd3).1) ?_
      show Steps p.tables e below (s₁.setTop (mkF m 6 #[.val (.int p1), .val (.int p2), .val (.int p3), .unset, .unset, .unset, .unset, .unset, .unset, .unset, .unset] [])) _
      refine XS.iconst X0.here hx rfl (hb hby at_6) ?_
      show Steps p.tables e below (s₁.setTop (mkF m 7 #[.val (.int p1), .val (.int p2), .val (.int p3), .unset, .unset, .unset, .unset, .unset, .unset, .unset, .unset] [(.int (1 : Int32))])) _
      refine XS.goto X0.here hx rfl (pc0 := 7) (pc' := 11) rfl (hb hby at_7) (by decide) (by decide) ?_
      show Steps p.tables e below (s₁.setTop (mkF m 11 #[.val (.int p1), .val (.int p2), .val (.int p3), .unset, .unset, .unset, .unset, .unset, .unset, .unset, .unset] [(.int (1 : Int32))])) _
      exact k
  generalize hv_d1 : (if (p3 &&& (1 : Int32)) = (0 : Int32) then (0 : Int32) else (1 : Int32)) = d1
  have hb1 := own_bit _ hv_d1
  refine own_go (U' := s₁.setTop (mkF m 12 #[.val (.int p1), .val (.int p2), .val (.int p3), .val (.int d1), .unset, .unset, .unset, .unset, .unset, .unset, .unset] [])) (fun t k => XS.istoreN X0.here hx rfl (hb hby at_11) rfl (l' := #[.val (.int p1), .val (.int p2), .val (.int p3), .val (.int d1), .unset, .unset, .unset, .unset, .unset, .unset, .unset]) rfl k) ?_
  refine own_go (U' := s₁.setTop (mkF m 13 #[.val (.int p1), .val (.int p2), .val (.int p3), .val (.int d1), .unset, .unset, .unset, .unset, .unset, .unset, .unset] [(.int p3)])) (fun t k => XS.iloadN X0.here hx rfl (hb hby at_12) rfl k) ?_
  refine own_go (U' := s₁.setTop (mkF m 14 #[.val (.int p1), .val (.int p2), .val (.int p3), .val (.int d1), .unset, .unset, .unset, .unset, .unset, .unset, .unset] [(.int (2 : Int32)), (.int p3)])) (fun t k => XS.iconst X0.here hx rfl (hb hby at_13) k) ?_
  refine own_go (U' := s₁.setTop (mkF m 15 #[.val (.int p1), .val (.int p2), .val (.int p3), .val (.int d1), .unset, .unset, .unset, .unset, .unset, .unset, .unset] [(.int (p3 &&& (2 : Int32)))])) (fun t k => XS.iand X0.here hx rfl (hb hby at_14) rfl k) ?_
  refine own_go (U' := s₁.setTop (mkF m 23 #[.val (.int p1), .val (.int p2), .val (.int p3), .val (.int d1), .unset, .unset, .unset, .unset, .unset, .unset, .unset] [(.int (if (p3 &&& (2 : Int32)) = (0 : Int32) then (0 : Int32) else (1 : Int32)))])) (fun t k => ?_) ?_
  · show Steps p.tables e below (s₁.setTop (mkF m 15 #[.val (.int p1), .val (.int p2), .val (.int p3), .val (.int d1), .unset, .unset, .unset, .unset, .unset, .unset, .unset] [(.int (p3 &&& (2 : Int32)))])) _
    by_cases hd15 : (p3 &&& (2 : Int32)) = (0 : Int32)
    · simp only [if_pos hd15] at k
      refine XS.ifYes X0.here hx rfl (pc0 := 15) (pc' := 22) rfl (hb hby at_15) rfl ((if0 _ _).trans (teq hd15).1) (by decide) (by decide) ?_
      show Steps p.tables e below (s₁.setTop (mkF m 22 #[.val (.int p1), .val (.int p2), .val (.int p3), .val (.int d1), .unset, .unset, .unset, .unset, .unset, .unset, .unset] [])) _
      refine XS.iconst X0.here hx rfl (hb hby at_22) ?_
      show Steps p.tables e below (s₁.setTop (mkF m 23 #[.val (.int p1), .val (.int p2), .val (.int p3), .val (.int d1), .unset, .unset, .unset, .unset, .unset, .unset, .unset] [(.int (0 : Int32))])) _
      exact k
    · simp only [if_neg hd15] at k
      refine XS.ifNo X0.here hx rfl (hb hby at_15) rfl ((if0 _ _).trans (feq hd15).1) ?_
      show Steps p.tables e below (s₁.setTop (mkF m 18 #[.val (.int p1), .val (.int p2), .val (.int p3), .val (.int d1), .unset, .unset, .unset, .unset, .unset, .unset, .unset] [])) _
      refine XS.iconst X0.here hx rfl (hb hby at_18) ?_
      show Steps p.tables e below (s₁.setTop (mkF m 19 #[.val (.int p1), .val (.int p2), .val (.int p3), .val (.int d1), .unset, .unset, .unset, .unset, .unset, .unset, .unset] [(.int (1 : Int32))])) _
      refine XS.goto X0.here hx rfl (pc0 := 19) (pc' := 23) rfl (hb hby at_19) (by decide) (by decide) ?_
      show Steps p.tables e below (s₁.setTop (mkF m 23 #[.val (.int p1), .val (.int p2), .val (.int p3), .val (.int d1), .unset, .unset, .unset, .unset, .unset, .unset, .unset] [(.int (1 : Int32))])) _
      exact k
  generalize hv_d2 : (if (p3 &&& (2 : Int32)) = (0 : Int32) then (0 : Int32) else (1 : Int32)) = d2
  have hb2 := own_bit _ hv_d2
  refine own_go (U' := s₁.setTop (mkF m 25 #[.val (.int p1), .val (.int p2), .val (.int p3), .val (.int d1), .val (.int d2), .unset, .unset, .unset, .unset, .unset, .unset] [])) (fun t k => XS.istore X0.here hx rfl (hb hby at_23) rfl (l' := #[.val (.int p1), .val (.int p2), .val (.int p3), .val (.int d1), .val (.int d2), .unset, .unset, .unset, .unset, .unset, .unset]) rfl k) ?_
  refine own_go (U' := s₁.setTop (mkF m 26 #[.val (.int p1), .val (.int p2), .val (.int p3), .val (.int d1), .val (.int d2), .unset, .unset, .unset, .unset, .unset, .unset] [(.int p3)])) (fun t k => XS.iloadN X0.here hx rfl (hb hby at_25) rfl k) ?_
  refine own_go (U' := s₁.setTop (mkF m 27 #[.val (.int p1), .val (.int p2), .val (.int p3), .val (.int d1), .val (.int d2), .unset, .unset, .unset, .unset, .unset, .unset] [(.int (4 : Int32)), (.int p3)])) (fun t k => XS.iconst X0.here hx rfl (hb hby at_26) k) ?_
  refine own_go (U' := s₁.setTop (mkF m 28 #[.val (.int p1), .val (.int p2), .val (.int p3), .val (.int d1), .val (.int d2), .unset, .unset, .unset, .unset, .unset, .unset] [(.int (p3 &&& (4 : Int32)))])) (fun t k => XS.iand X0.here hx rfl (hb hby at_27) rfl k) ?_
  refine own_go (U' := s₁.setTop (mkF m 36 #[.val (.int p1), .val (.int p2), .val (.int p3), .val (.int d1), .val (.int d2), .unset, .unset, .unset, .unset, .unset, .unset] [(.int (if (p3 &&& (4 : Int32)) = (0 : Int32) then p2 else p1))])) (fun t k => ?_) ?_
  · show Steps p.tables e below (s₁.setTop (mkF m 28 #[.val (.int p1), .val (.int p2), .val (.int p3), .val (.int d1), .val (.int d2), .unset, .unset, .unset, .unset, .unset, .unset] [(.int (p3 &&& (4 : Int32)))])) _
    by_cases hd28 : (p3 &&& (4 : Int32)) = (0 : Int32)
    · simp only [if_pos hd28] at k
      refine XS.ifYes X0.here hx rfl (pc0 := 28) (pc' := 35) rfl (hb hby at_28) rfl ((if0 _ _).trans (teq hd28).1) (by decide) (by decide) ?_
      show Steps p.tables e below (s₁.setTop (mkF m 35 #[.val (.int p1), .val (.int p2), .val (.int p3), .val (.int d1), .val (.int d2), .unset, .unset, .unset, .unset, .unset, .unset] [])) _
      refine XS.iloadN X0.here hx rfl (hb hby at_35) rfl ?_
      show Steps p.tables e below (s₁.setTop (mkF m 36 #[.val (.int p1), .val (.int p2), .val (.int p3), .val (.int d1), .val (.int d2), .unset, .unset, .unset, .unset, .unset, .unset] [(.int p2)])) _
      exact k
    · simp only [if_neg hd28] at k
      refine XS.ifNo X0.here hx rfl (hb hby at_28) rfl ((if0 _ _).trans (feq hd28).1) ?_
      show Steps p.tables e below (s₁.setTop (mkF m 31 #[.val (.int p1), .val (.int p2), .val (.int p3), .val (.int d1), .val (.int d2), .unset, .unset, .unset, .unset, .unset, .unset] [])) _
      refine XS.iloadN X0.here hx rfl (hb hby at_31) rfl ?_
      show Steps p.tables e below (s₁.setTop (mkF m 32 #[.val (.int p1), .val (.int p2), .val (.int p3), .val (.int d1), .val (.int d2), .unset, .unset, .unset, .unset, .unset, .unset] [(.int p1)])) _
      refine XS.goto X0.here hx rfl (pc0 := 32) (pc' := 36) rfl (hb hby at_32) (by decide) (by decide) ?_
      show Steps p.tables e below (s₁.setTop (mkF m 36 #[.val (.int p1), .val (.int p2), .val (.int p3), .val (.int d1), .val (.int d2), .unset, .unset, .unset, .unset, .unset, .unset] [(.int p1)])) _
      exact k
  generalize hv_v2 : (if (p3 &&& (4 : Int32)) = (0 : Int32) then p2 else p1) = v2
  refine own_go (U' := s₁.setTop (mkF m 38 #[.val (.int p1), .val (.int p2), .val (.int p3), .val (.int d1), .val (.int d2), .val (.int v2), .unset, .unset, .unset, .unset, .unset] [])) (fun t k => XS.istore X0.here hx rfl (hb hby at_36) rfl (l' := #[.val (.int p1), .val (.int p2), .val (.int p3), .val (.int d1), .val (.int d2), .val (.int v2), .unset, .unset, .unset, .unset, .unset]) rfl k) ?_
  obtain ⟨T1, h1, X1, e1, E1, A1, D1, -, st1⟩ := newO X0 hx hZ hown (hw _ (List.mem_of_getElem? (i := 0) rfl)) (hw _ (List.mem_of_getElem? (i := 1) rfl)) (hw _ (List.mem_of_getElem? (i := 2) rfl)) e0 (g := (mkF m 38 #[.val (.int p1), .val (.int p2), .val (.int p3), .val (.int d1), .val (.int d2), .val (.int v2), .unset, .unset, .unset, .unset, .unset] [])) rfl (hb hby at_38) (by decide) (by decide)
  obtain ⟨b1, g1⟩ : ∃ z, z = h0.size := ⟨_, rfl⟩
  rw [← g1] at A1 D1 st1
  have g_b1 : n0 ≤ b1 := Nat.le_trans (Nat.le_trans (Nat.le_of_eq O.1.symm) O.2.1) (Nat.le_of_eq g1.symm)
  have O := O.ext E1
  have E_b1 := A1
  have F_modCount_b1 : Fld Z h1 b1 "java/util/AbstractList" "modCount" "I" (.int (0 : Int32)) := D1 (Or.inl (hw _ (List.mem_of_getElem? (i := 22) rfl))) (ty := .int) (by decide)
  have F_elementData_b1 : Fld Z h1 b1 "java/util/ArrayList" "elementData" "[Ljava/lang/Object;" .null := D1 (Or.inl (hw _ (List.mem_of_getElem? (i := 25) rfl))) (ty := (.array (.object "java/lang/Object"))) (by decide)
  have F_size_b1 : Fld Z h1 b1 "java/util/ArrayList" "size" "I" (.int (0 : Int32)) := D1 (Or.inl (hw _ (List.mem_of_getElem? (i := 62) rfl))) (ty := .int) (by decide)
  refine own_go (U' := T1.setTop (mkF m 41 #[.val (.int p1), .val (.int p2), .val (.int p3), .val (.int d1), .val (.int d2), .val (.int v2), .unset, .unset, .unset, .unset, .unset] [(.ref b1)])) st1 ?_
  refine own_go (U' := T1.setTop (mkF m 42 #[.val (.int p1), .val (.int p2), .val (.int p3), .val (.int d1), .val (.int d2), .val (.int v2), .unset, .unset, .unset, .unset, .unset] [(.ref b1), (.ref b1)])) (fun t k => XS.dup X1.here hx rfl (hb hby at_41) rfl rfl k) ?_
  obtain ⟨v2, T2, h2, L2, e2, X2, hQ2, st2⟩ := own_callC X1 hx hZ (y := (⟨"java/util/ArrayList", "<init>", "()V"⟩ : MethodName)) rfl hown (hw _ (List.mem_of_getElem? (i := 3) rfl)) (hw _ (List.mem_of_getElem? (i := 4) rfl)) (hw _ (List.mem_of_getElem? (i := 2) rfl)) (hw _ (List.mem_of_getElem? (i := 5) rfl)) (by decide) (a := b1) (own_rmal l Z a0 hw b1 h1 n0 g_b1 _ _ _ dd O S_dd E_b1 F_modCount_b1 F_elementData_b1 F_size_b1) (W := 1) (by decide) (by decide) (g := (mkF m 42 #[.val (.int p1), .val (.int p2), .val (.int p3), .val (.int d1), .val (.int d2), .val (.int v2), .unset, .unset, .unset, .unset, .unset] [(.ref b1), (.ref b1)])) rfl (by rw [hml]; rfl) (argsL := []) (rest := [(.ref b1)]) (lenOf own_pd0 rfl) rfl rfl (by show 2 * 0 + _ ≤ _; exact Nat.le_of_eq rfl) (hb hby at_42) e1 (by decide) (by decide)
  obtain ⟨rfl, Nq, Kq, Fm, Fe, Fs⟩ := hQ2
  have O := O.keep Kq (allS g_b1 all0)
  have E_b1 := E_b1.keep Kq
  have F_modCount_b1 := Fm
  have F_elementData_b1 := Fe
  have F_size_b1 := Fs
  have N2 := Fr.app N0 Nq
  refine own_go (U' := T2.setTop (mkF m 45 #[.val (.int p1), .val (.int p2), .val (.int p3), .val (.int d1), .val (.int d2), .val (.int v2), .unset, .unset, .unset, .unset, .unset] [(.ref b1)])) st2 ?_
  refine own_go (U' := T2.setTop (mkF m 47 #[.val (.int p1), .val (.int p2), .val (.int p3), .val (.int d1), .val (.int d2), .val (.int v2), .val (.ref b1), .unset, .unset, .unset, .unset] [])) (fun t k => XS.astore X2.here hx rfl (hb hby at_45) rfl rfl (l' := #[.val (.int p1), .val (.int p2), .val (.int p3), .val (.int d1), .val (.int d2), .val (.int v2), .val (.ref b1), .unset, .unset, .unset, .unset]) rfl k) ?_
  obtain ⟨T3, h3, X3, e3, E3, A3, D3, -, st3⟩ := newO X2 hx hZ hown (hw _ (List.mem_of_getElem? (i := 0) rfl)) (hw _ (List.mem_of_getElem? (i := 1) rfl)) (hw _ (List.mem_of_getElem? (i := 2) rfl)) e2 (g := (mkF m 47 #[.val (.int p1), .val (.int p2), .val (.int p3), .val (.int d1), .val (.int d2), .val (.int v2), .val (.ref b1), .unset, .unset, .unset, .unset] [])) rfl (hb hby at_47) (by decide) (by decide)
  obtain ⟨b3, g3⟩ : ∃ z, z = h2.size := ⟨_, rfl⟩
  rw [← g3] at A3 D3 st3
  have ne_b1_b3 : b1 ≠ b3 := Nat.ne_of_lt (Nat.lt_of_lt_of_eq E_b1.lt g3.symm)
  have g_b3 : n0 ≤ b3 := Nat.le_trans (Nat.le_trans (Nat.le_of_eq O.1.symm) O.2.1) (Nat.le_of_eq g3.symm)
  have O := O.ext E3
  have E_b1 := E_b1.ext E3
  have F_modCount_b1 := F_modCount_b1.ext E3
  have F_elementData_b1 := F_elementData_b1.ext E3
  have F_size_b1 := F_size_b1.ext E3
  have E_b3 := A3
  have F_modCount_b3 : Fld Z h3 b3 "java/util/AbstractList" "modCount" "I" (.int (0 : Int32)) := D3 (Or.inl (hw _ (List.mem_of_getElem? (i := 22) rfl))) (ty := .int) (by decide)
  have F_elementData_b3 : Fld Z h3 b3 "java/util/ArrayList" "elementData" "[Ljava/lang/Object;" .null := D3 (Or.inl (hw _ (List.mem_of_getElem? (i := 25) rfl))) (ty := (.array (.object "java/lang/Object"))) (by decide)
  have F_size_b3 : Fld Z h3 b3 "java/util/ArrayList" "size" "I" (.int (0 : Int32)) := D3 (Or.inl (hw _ (List.mem_of_getElem? (i := 62) rfl))) (ty := .int) (by decide)
  refine own_go (U' := T3.setTop (mkF m 50 #[.val (.int p1), .val (.int p2), .val (.int p3), .val (.int d1), .val (.int d2), .val (.int v2), .val (.ref b1), .unset, .unset, .unset, .unset] [(.ref b3)])) st3 ?_
  refine own_go (U' := T3.setTop (mkF m 51 #[.val (.int p1), .val (.int p2), .val (.int p3), .val (.int d1), .val (.int d2), .val (.int v2), .val (.ref b1), .unset, .unset, .unset, .unset] [(.ref b3), (.ref b3)])) (fun t k => XS.dup X3.here hx rfl (hb hby at_50) rfl rfl k) ?_
  obtain ⟨v4, T4, h4, L4, e4, X4, hQ4, st4⟩ := own_callC X3 hx hZ (y := (⟨"java/util/ArrayList", "<init>", "()V"⟩ : MethodName)) rfl hown (hw _ (List.mem_of_getElem? (i := 3) rfl)) (hw _ (List.mem_of_getElem? (i := 4) rfl)) (hw _ (List.mem_of_getElem? (i := 2) rfl)) (hw _ (List.mem_of_getElem? (i := 5) rfl)) (by decide) (a := b3) (own_rmal l Z a0 hw b3 h3 n0 g_b3 _ _ _ dd O S_dd E_b3 F_modCount_b3 F_elementData_b3 F_size_b3) (W := 1) (by decide) (by decide) (g := (mkF m 51 #[.val (.int p1), .val (.int p2), .val (.int p3), .val (.int d1), .val (.int d2), .val (.int v2), .val (.ref b1), .unset, .unset, .unset, .unset] [(.ref b3), (.ref b3)])) rfl (by rw [hml]; rfl) (argsL := []) (rest := [(.ref b3)]) (lenOf own_pd0 rfl) rfl rfl (by show 2 * 0 + _ ≤ _; exact Nat.le_of_eq rfl) (hb hby at_51) e3 (by decide) (by decide)
  obtain ⟨rfl, Nq, Kq, Fm, Fe, Fs⟩ := hQ4
  have O := O.keep Kq (allS g_b3 all0)
  have E_b1 := E_b1.keep Kq
  have F_modCount_b1 := F_modCount_b1.keep Kq (ninS ne_b1_b3 nin0)
  have F_elementData_b1 := F_elementData_b1.keep Kq (ninS ne_b1_b3 nin0)
  have F_size_b1 := F_size_b1.keep Kq (ninS ne_b1_b3 nin0)
  have E_b3 := E_b3.keep Kq
  have F_modCount_b3 := Fm
  have F_elementData_b3 := Fe
  have F_size_b3 := Fs
  have N4 := Fr.app N2 Nq
  refine own_go (U' := T4.setTop (mkF m 54 #[.val (.int p1), .val (.int p2), .val (.int p3), .val (.int d1), .val (.int d2), .val (.int v2), .val (.ref b1), .unset, .unset, .unset, .unset] [(.ref b3)])) st4 ?_
  refine own_go (U' := T4.setTop (mkF m 56 #[.val (.int p1), .val (.int p2), .val (.int p3), .val (.int d1), .val (.int d2), .val (.int v2), .val (.ref b1), .val (.ref b3), .unset, .unset, .unset] [])) (fun t k => XS.astore X4.here hx rfl (hb hby at_54) rfl rfl (l' := #[.val (.int p1), .val (.int p2), .val (.int p3), .val (.int d1), .val (.int d2), .val (.int v2), .val (.ref b1), .val (.ref b3), .unset, .unset, .unset]) rfl k) ?_
  refine own_go (U' := T4.setTop (mkF m 57 #[.val (.int p1), .val (.int p2), .val (.int p3), .val (.int d1), .val (.int d2), .val (.int v2), .val (.ref b1), .val (.ref b3), .unset, .unset, .unset] [(.int p3)])) (fun t k => XS.iloadN X4.here hx rfl (hb hby at_56) rfl k) ?_
  refine own_go (U' := T4.setTop (mkF m 59 #[.val (.int p1), .val (.int p2), .val (.int p3), .val (.int d1), .val (.int d2), .val (.int v2), .val (.ref b1), .val (.ref b3), .unset, .unset, .unset] [(.int (8 : Int32)), (.int p3)])) (fun t k => XS.bipush X4.here hx rfl (hb hby at_57) k) ?_
  refine own_go (U' := T4.setTop (mkF m 60 #[.val (.int p1), .val (.int p2), .val (.int p3), .val (.int d1), .val (.int d2), .val (.int v2), .val (.ref b1), .val (.ref b3), .unset, .unset, .unset] [(.int (p3 &&& (8 : Int32)))])) (fun t k => XS.iand X4.here hx rfl (hb hby at_59) rfl k) ?_
  by_cases h8 : (p3 &&& (8 : Int32)) = (0 : Int32)
  · refine own_go (U' := T4.setTop (mkF m 70 #[.val (.int p1), .val (.int p2), .val (.int p3), .val (.int d1), .val (.int d2), .val (.int v2), .val (.ref b1), .val (.ref b3), .unset, .unset, .unset] [])) (fun t k => XS.ifYes X4.here hx rfl (pc0 := 60) (pc' := 70) rfl (hb hby at_60) rfl ((if0 _ _).trans (teq h8).1) (by decide) (by decide) k) ?_
    obtain ⟨T5, h5, X5, e5, E5, A5, D5, -, st5⟩ := newO X4 hx hZ hown (hw _ (List.mem_of_getElem? (i := 26) rfl)) (hw _ (List.mem_of_getElem? (i := 27) rfl)) (hw _ (List.mem_of_getElem? (i := 28) rfl)) e4 (g := (mkF m 70 #[.val (.int p1), .val (.int p2), .val (.int p3), .val (.int d1), .val (.int d2), .val (.int v2), .val (.ref b1), .val (.ref b3), .unset, .unset, .unset] [])) rfl (hb hby at_70) (by decide) (by decide)
    obtain ⟨b5, g5⟩ : ∃ z, z = h4.size := ⟨_, rfl⟩
    rw [← g5] at A5 D5 st5
    have g_b5 : n0 ≤ b5 := Nat.le_trans (Nat.le_trans (Nat.le_of_eq O.1.symm) O.2.1) (Nat.le_of_eq g5.symm)
    have O := O.ext E5
    have E_b5 := A5
    have F_deny_b5 : Fld Z h5 b5 "com/example/keywright/keywright/Snapshot$Setting" "deny" "Z" (.int (0 : Int32)) := D5 (Or.inr (hw _ (List.mem_of_getElem? (i := 39) rfl))) (ty := .boolean) (by decide)
    have F_width_b5 : Fld Z h5 b5 "com/example/keywright/keywright/Snapshot$Setting" "width" "I" (.int (0 : Int32)) := D5 (Or.inr (hw _ (List.mem_of_getElem? (i := 41) rfl))) (ty := .int) (by decide)
    have F_lines_b5 : Fld Z h5 b5 "com/example/keywright/keywright/Snapshot$Setting" "lines" "Ljava/util/List;" .null := D5 (Or.inr (hw _ (List.mem_of_getElem? (i := 43) rfl))) (ty := (.object "java/util/List")) (by decide)
    refine own_go (U' := T5.setTop (mkF m 73 #[.val (.int p1), .val (.int p2), .val (.int p3), .val (.int d1), .val (.int d2), .val (.int v2), .val (.ref b1), .val (.ref b3), .unset, .unset, .unset] [(.ref b5)])) st5 ?_
    refine own_go (U' := T5.setTop (mkF m 74 #[.val (.int p1), .val (.int p2), .val (.int p3), .val (.int d1), .val (.int d2), .val (.int v2), .val (.ref b1), .val (.ref b3), .unset, .unset, .unset] [(.ref b5), (.ref b5)])) (fun t k => XS.dup X5.here hx rfl (hb hby at_73) rfl rfl k) ?_
    refine own_go (U' := T5.setTop (mkF m 75 #[.val (.int p1), .val (.int p2), .val (.int p3), .val (.int d1), .val (.int d2), .val (.int v2), .val (.ref b1), .val (.ref b3), .unset, .unset, .unset] [(.int d1), (.ref b5), (.ref b5)])) (fun t k => XS.iloadN X5.here hx rfl (hb hby at_74) rfl k) ?_
    refine own_go (U' := T5.setTop (mkF m 76 #[.val (.int p1), .val (.int p2), .val (.int p3), .val (.int d1), .val (.int d2), .val (.int v2), .val (.ref b1), .val (.ref b3), .unset, .unset, .unset] [(.int p1), (.int d1), (.ref b5), (.ref b5)])) (fun t k => XS.iloadN X5.here hx rfl (hb hby at_75) rfl k) ?_
    refine own_go (U' := T5.setTop (mkF m 78 #[.val (.int p1), .val (.int p2), .val (.int p3), .val (.int d1), .val (.int d2), .val (.int v2), .val (.ref b1), .val (.ref b3), .unset, .unset, .unset] [(.ref b1), (.int p1), (.int d1), (.ref b5), (.ref b5)])) (fun t k => XS.aload X5.here hx rfl (hb hby at_76) rfl rfl k) ?_
    obtain ⟨v6, T6, h6, L6, e6, X6, hQ6, st6⟩ := own_callC X5 hx hZ (y := (⟨"com/example/keywright/keywright/Snapshot$Setting", "<init>", "(ZILjava/util/List;)V"⟩ : MethodName)) rfl hown (hw _ (List.mem_of_getElem? (i := 29) rfl)) (hw _ (List.mem_of_getElem? (i := 30) rfl)) (hw _ (List.mem_of_getElem? (i := 28) rfl)) (hw _ (List.mem_of_getElem? (i := 31) rfl)) (by decide) (a := b5) (own_rmsi l Z a0 hw b5 d1 p1 b1 h5 n0 g_b5 _ _ _ (own_nar01 hb1) E_b5 F_deny_b5 F_width_b5 F_lines_b5) (W := 1) (by decide) (by decide) (g := (mkF m 78 #[.val (.int p1), .val (.int p2), .val (.int p3), .val (.int d1), .val (.int d2), .val (.int v2), .val (.ref b1), .val (.ref b3), .unset, .unset, .unset] [(.ref b1), (.int p1), (.int d1), (.ref b5), (.ref b5)])) rfl (by rw [hml]; rfl) (argsL := [(.int d1), (.int p1), (.ref b1)]) (rest := [(.ref b5)]) (lenOf own_pd6 rfl) rfl rfl (by show 2 * 0 + _ ≤ _; exact Nat.le_of_eq rfl) (hb hby at_78) e5 (by decide) (by decide)
    obtain ⟨rfl, Nq, Kq, Fd, Fw⟩ := hQ6
    have O := O.keep Kq (allS g_b5 all0)
    have E_b5 := E_b5.keep Kq
    have F_deny_b5 := Fd
    have F_width_b5 := Fw
    have N6 := Fr.app N4 Nq
    refine own_go (U' := T6.setTop (mkF m 81 #[.val (.int p1), .val (.int p2), .val (.int p3), .val (.int d1), .val (.int d2), .val (.int v2), .val (.ref b1), .val (.ref b3), .unset, .unset, .unset] [(.ref b5)])) st6 ?_
    refine own_go (U' := T6.setTop (mkF m 83 #[.val (.int p1), .val (.int p2), .val (.int p3), .val (.int d1), .val (.int d2), .val (.int v2), .val (.ref b1), .val (.ref b3), .val (.ref b5), .unset, .unset] [])) (fun t k => XS.astore X6.here hx rfl (hb hby at_81) rfl rfl (l' := #[.val (.int p1), .val (.int p2), .val (.int p3), .val (.int d1), .val (.int d2), .val (.int v2), .val (.ref b1), .val (.ref b3), .val (.ref b5), .unset, .unset]) rfl k) ?_
    obtain ⟨T7, h7, X7, e7, E7, A7, D7, -, st7⟩ := newO X6 hx hZ hown (hw _ (List.mem_of_getElem? (i := 26) rfl)) (hw _ (List.mem_of_getElem? (i := 27) rfl)) (hw _ (List.mem_of_getElem? (i := 28) rfl)) e6 (g := (mkF m 83 #[.val (.int p1), .val (.int p2), .val (.int p3), .val (.int d1), .val (.int d2), .val (.int v2), .val (.ref b1), .val (.ref b3), .val (.ref b5), .unset, .unset] [])) rfl (hb hby at_83) (by decide) (by decide)
    obtain ⟨b7, g7⟩ : ∃ z, z = h6.size := ⟨_, rfl⟩
    rw [← g7] at A7 D7 st7
    have ne_b5_b7 : b5 ≠ b7 := Nat.ne_of_lt (Nat.lt_of_lt_of_eq E_b5.lt g7.symm)
    have g_b7 : n0 ≤ b7 := Nat.le_trans (Nat.le_trans (Nat.le_of_eq O.1.symm) O.2.1) (Nat.le_of_eq g7.symm)
    have O := O.ext E7
    have E_b5 := E_b5.ext E7
    have F_deny_b5 := F_deny_b5.ext E7
    have F_width_b5 := F_width_b5.ext E7
    have E_b7 := A7
    have F_deny_b7 : Fld Z h7 b7 "com/example/keywright/keywright/Snapshot$Setting" "deny" "Z" (.int (0 : Int32)) := D7 (Or.inr (hw _ (List.mem_of_getElem? (i := 39) rfl))) (ty := .boolean) (by decide)
    have F_width_b7 : Fld Z h7 b7 "com/example/keywright/keywright/Snapshot$Setting" "width" "I" (.int (0 : Int32)) := D7 (Or.inr (hw _ (List.mem_of_getElem? (i := 41) rfl))) (ty := .int) (by decide)
    have F_lines_b7 : Fld Z h7 b7 "com/example/keywright/keywright/Snapshot$Setting" "lines" "Ljava/util/List;" .null := D7 (Or.inr (hw _ (List.mem_of_getElem? (i := 43) rfl))) (ty := (.object "java/util/List")) (by decide)
    refine own_go (U' := T7.setTop (mkF m 86 #[.val (.int p1), .val (.int p2), .val (.int p3), .val (.int d1), .val (.int d2), .val (.int v2), .val (.ref b1), .val (.ref b3), .val (.ref b5), .unset, .unset] [(.ref b7)])) st7 ?_
    refine own_go (U' := T7.setTop (mkF m 87 #[.val (.int p1), .val (.int p2), .val (.int p3), .val (.int d1), .val (.int d2), .val (.int v2), .val (.ref b1), .val (.ref b3), .val (.ref b5), .unset, .unset] [(.ref b7), (.ref b7)])) (fun t k => XS.dup X7.here hx rfl (hb hby at_86) rfl rfl k) ?_
    refine own_go (U' := T7.setTop (mkF m 89 #[.val (.int p1), .val (.int p2), .val (.int p3), .val (.int d1), .val (.int d2), .val (.int v2), .val (.ref b1), .val (.ref b3), .val (.ref b5), .unset, .unset] [(.int d2), (.ref b7), (.ref b7)])) (fun t k => XS.iload X7.here hx rfl (hb hby at_87) rfl k) ?_
    refine own_go (U' := T7.setTop (mkF m 91 #[.val (.int p1), .val (.int p2), .val (.int p3), .val (.int d1), .val (.int d2), .val (.int v2), .val (.ref b1), .val (.ref b3), .val (.ref b5), .unset, .unset] [(.int v2), (.int d2), (.ref b7), (.ref b7)])) (fun t k => XS.iload X7.here hx rfl (hb hby at_89) rfl k) ?_
    refine own_go (U' := T7.setTop (mkF m 93 #[.val (.int p1), .val (.int p2), .val (.int p3), .val (.int d1), .val (.int d2), .val (.int v2), .val (.ref b1), .val (.ref b3), .val (.ref b5), .unset, .unset] [(.ref b3), (.int v2), (.int d2), (.ref b7), (.ref b7)])) (fun t k => XS.aload X7.here hx rfl (hb hby at_91) rfl rfl k) ?_
    obtain ⟨v8, T8, h8, L8, e8, X8, hQ8, st8⟩ := own_callC X7 hx hZ (y := (⟨"com/example/keywright/keywright/Snapshot$Setting", "<init>", "(ZILjava/util/List;)V"⟩ : MethodName)) rfl hown (hw _ (List.mem_of_getElem? (i := 29) rfl)) (hw _ (List.mem_of_getElem? (i := 30) rfl)) (hw _ (List.mem_of_getElem? (i := 28) rfl)) (hw _ (List.mem_of_getElem? (i := 31) rfl)) (by decide) (a := b7) (own_rmsi l Z a0 hw b7 d2 v2 b3 h7 n0 g_b7 _ _ _ (own_nar01 hb2) E_b7 F_deny_b7 F_width_b7 F_lines_b7) (W := 1) (by decide) (by decide) (g := (mkF m 93 #[.val (.int p1), .val (.int p2), .val (.int p3), .val (.int d1), .val (.int d2), .val (.int v2), .val (.ref b1), .val (.ref b3), .val (.ref b5), .unset, .unset] [(.ref b3), (.int v2), (.int d2), (.ref b7), (.ref b7)])) rfl (by rw [hml]; rfl) (argsL := [(.int d2), (.int v2), (.ref b3)]) (rest := [(.ref b7)]) (lenOf own_pd6 rfl) rfl rfl (by show 2 * 0 + _ ≤ _; exact Nat.le_of_eq rfl) (hb hby at_93) e7 (by decide) (by decide)
    obtain ⟨rfl, Nq, Kq, Fd, Fw⟩ := hQ8
    have O := O.keep Kq (allS g_b7 all0)
    have E_b5 := E_b5.keep Kq
    have F_deny_b5 := F_deny_b5.keep Kq (ninS ne_b5_b7 nin0)
    have F_width_b5 := F_width_b5.keep Kq (ninS ne_b5_b7 nin0)
    have E_b7 := E_b7.keep Kq
    have F_deny_b7 := Fd
    have F_width_b7 := Fw
    have N8 := Fr.app N6 Nq
    refine own_go (U' := T8.setTop (mkF m 96 #[.val (.int p1), .val (.int p2), .val (.int p3), .val (.int d1), .val (.int d2), .val (.int v2), .val (.ref b1), .val (.ref b3), .val (.ref b5), .unset, .unset] [(.ref b7)])) st8 ?_
    refine own_go (U' := T8.setTop (mkF m 98 #[.val (.int p1), .val (.int p2), .val (.int p3), .val (.int d1), .val (.int d2), .val (.int v2), .val (.ref b1), .val (.ref b3), .val (.ref b5), .val (.ref b7), .unset] [])) (fun t k => XS.astore X8.here hx rfl (hb hby at_96) rfl rfl (l' := #[.val (.int p1), .val (.int p2), .val (.int p3), .val (.int d1), .val (.int d2), .val (.int v2), .val (.ref b1), .val (.ref b3), .val (.ref b5), .val (.ref b7), .unset]) rfl k) ?_
    refine own_go (U' := T8.setTop (mkF m 99 #[.val (.int p1), .val (.int p2), .val (.int p3), .val (.int d1), .val (.int d2), .val (.int v2), .val (.ref b1), .val (.ref b3), .val (.ref b5), .val (.ref b7), .unset] [(.int d1)])) (fun t k => XS.iloadN X8.here hx rfl (hb hby at_98) rfl k) ?_
    refine own_go (U' := T8.setTop (mkF m 100 #[.val (.int p1), .val (.int p2), .val (.int p3), .val (.int d1), .val (.int d2), .val (.int v2), .val (.ref b1), .val (.ref b3), .val (.ref b5), .val (.ref b7), .unset] [(.int p1), (.int d1)])) (fun t k => XS.iloadN X8.here hx rfl (hb hby at_99) rfl k) ?_
    obtain ⟨v9, T9, h9, L9, e9, X9, hQ9, st9⟩ := own_callS X8 hx hZ (y := (⟨"com/example/keywright/keywright/SettingRanksWithPinLaw", "key", "(ZI)J"⟩ : MethodName)) hown (hw _ (List.mem_of_getElem? (i := 44) rfl)) (hw _ (List.mem_of_getElem? (i := 45) rfl)) (hw _ (List.mem_of_getElem? (i := 46) rfl)) (hw _ (List.mem_of_getElem? (i := 47) rfl)) (by decide) (own_rmky l Z a0 hw d1 p1 h8) (W := 0) (by decide) (by decide) (g := (mkF m 100 #[.val (.int p1), .val (.int p2), .val (.int p3), .val (.int d1), .val (.int d2), .val (.int v2), .val (.ref b1), .val (.ref b3), .val (.ref b5), .val (.ref b7), .unset] [(.int p1), (.int d1)])) rfl (by rw [hml]; rfl) (argsL := [(.int d1), (.int p1)]) (rest := []) (lenOf own_pd7 rfl) rfl rfl (by show 2 * 0 + _ ≤ _; exact Nat.le_of_eq rfl) (hb hby at_100) e8 (by decide) (by decide)
    obtain ⟨rfl, rfl, eh9⟩ := hQ9
    have e9 := e9.trans eh9
    rw [List.append_nil] at X9
    refine own_go (U' := T9.setTop (mkF m 103 #[.val (.int p1), .val (.int p2), .val (.int p3), .val (.int d1), .val (.int d2), .val (.int v2), .val (.ref b1), .val (.ref b3), .val (.ref b5), .val (.ref b7), .unset] [(.long (own_key d1 p1))])) st9 ?_
    refine own_go (U' := T9.setTop (mkF m 105 #[.val (.int p1), .val (.int p2), .val (.int p3), .val (.int d1), .val (.int d2), .val (.int v2), .val (.ref b1), .val (.ref b3), .val (.ref b5), .val (.ref b7), .unset] [(.int d2), (.long (own_key d1 p1))])) (fun t k => XS.iload X9.here hx rfl (hb hby at_103) rfl k) ?_
    refine own_go (U' := T9.setTop (mkF m 107 #[.val (.int p1), .val (.int p2), .val (.int p3), .val (.int d1), .val (.int d2), .val (.int v2), .val (.ref b1), .val (.ref b3), .val (.ref b5), .val (.ref b7), .unset] [(.int v2), (.int d2), (.long (own_key d1 p1))])) (fun t k => XS.iload X9.here hx rfl (hb hby at_105) rfl k) ?_
    obtain ⟨v10, T10, h10, L10, e10, X10, hQ10, st10⟩ := own_callS X9 hx hZ (y := (⟨"com/example/keywright/keywright/SettingRanksWithPinLaw", "key", "(ZI)J"⟩ : MethodName)) hown (hw _ (List.mem_of_getElem? (i := 44) rfl)) (hw _ (List.mem_of_getElem? (i := 45) rfl)) (hw _ (List.mem_of_getElem? (i := 46) rfl)) (hw _ (List.mem_of_getElem? (i := 47) rfl)) (by decide) (own_rmky l Z a0 hw d2 v2 h8) (W := 2) (by decide) (by decide) (g := (mkF m 107 #[.val (.int p1), .val (.int p2), .val (.int p3), .val (.int d1), .val (.int d2), .val (.int v2), .val (.ref b1), .val (.ref b3), .val (.ref b5), .val (.ref b7), .unset] [(.int v2), (.int d2), (.long (own_key d1 p1))])) rfl (by rw [hml]; rfl) (argsL := [(.int d2), (.int v2)]) (rest := [(.long (own_key d1 p1))]) (lenOf own_pd7 rfl) rfl rfl (by show 2 * 0 + _ ≤ _; exact Nat.le_of_eq rfl) (hb hby at_107) e9 (by decide) (by decide)
    obtain ⟨rfl, rfl, eh10⟩ := hQ10
    have e10 := e10.trans eh10
    rw [List.append_nil] at X10
    refine own_go (U' := T10.setTop (mkF m 110 #[.val (.int p1), .val (.int p2), .val (.int p3), .val (.int d1), .val (.int d2), .val (.int v2), .val (.ref b1), .val (.ref b3), .val (.ref b5), .val (.ref b7), .unset] [(.long (own_key d2 v2)), (.long (own_key d1 p1))])) st10 ?_
    refine own_go (U' := T10.setTop (mkF m 111 #[.val (.int p1), .val (.int p2), .val (.int p3), .val (.int d1), .val (.int d2), .val (.int v2), .val (.ref b1), .val (.ref b3), .val (.ref b5), .val (.ref b7), .unset] [(.int (lcmpW (own_key d1 p1) (own_key d2 v2)))])) (fun t k => XS.lcmp X10.here hx rfl (hb hby at_110) rfl k) ?_
    refine own_go (U' := T10.setTop (mkF m 119 #[.val (.int p1), .val (.int p2), .val (.int p3), .val (.int d1), .val (.int d2), .val (.int v2), .val (.ref b1), .val (.ref b3), .val (.ref b5), .val (.ref b7), .unset] [(.int (if (own_key d1 p1) = (own_key d2 v2) then (1 : Int32) else (0 : Int32)))])) (fun t k => ?_) ?_
    · show Steps p.tables e below (T10.setTop (mkF m 111 #[.val (.int p1), .val (.int p2), .val (.int p3), .val (.int d1), .val (.int d2), .val (.int v2), .val (.ref b1), .val (.ref b3), .val (.ref b5), .val (.ref b7), .unset] [(.int (lcmpW (own_key d1 p1) (own_key d2 v2)))])) _
      by_cases hd111 : (own_key d1 p1) = (own_key d2 v2)
      · simp only [if_pos hd111] at k
        refine XS.ifNo X10.here hx rfl (hb hby at_111) rfl ((if0 _ _).trans (teq ((lw_eq (own_key d1 p1) (own_key d2 v2)).mpr hd111)).2) ?_
        show Steps p.tables e below (T10.setTop (mkF m 114 #[.val (.int p1), .val (.int p2), .val (.int p3), .val (.int d1), .val (.int d2), .val (.int v2), .val (.ref b1), .val (.ref b3), .val (.ref b5), .val (.ref b7), .unset] [])) _
        refine XS.iconst X10.here hx rfl (hb hby at_114) ?_
        show Steps p.tables e below (T10.setTop (mkF m 115 #[.val (.int p1), .val (.int p2), .val (.int p3), .val (.int d1), .val (.int d2), .val (.int v2), .val (.ref b1), .val (.ref b3), .val (.ref b5), .val (.ref b7), .unset] [(.int (1 : Int32))])) _
        refine XS.goto X10.here hx rfl (pc0 := 115) (pc' := 119) rfl (hb hby at_115) (by decide) (by decide) ?_
        show Steps p.tables e below (T10.setTop (mkF m 119 #[.val (.int p1), .val (.int p2), .val (.int p3), .val (.int d1), .val (.int d2), .val (.int v2), .val (.ref b1), .val (.ref b3), .val (.ref b5), .val (.ref b7), .unset] [(.int (1 : Int32))])) _
        exact k
      · simp only [if_neg hd111] at k
        refine XS.ifYes X10.here hx rfl (pc0 := 111) (pc' := 118) rfl (hb hby at_111) rfl ((if0 _ _).trans (feq (fun q => hd111 ((lw_eq (own_key d1 p1) (own_key d2 v2)).mp q))).2) (by decide) (by decide) ?_
        show Steps p.tables e below (T10.setTop (mkF m 118 #[.val (.int p1), .val (.int p2), .val (.int p3), .val (.int d1), .val (.int d2), .val (.int v2), .val (.ref b1), .val (.ref b3), .val (.ref b5), .val (.ref b7), .unset] [])) _
        refine XS.iconst X10.here hx rfl (hb hby at_118) ?_
        show Steps p.tables e below (T10.setTop (mkF m 119 #[.val (.int p1), .val (.int p2), .val (.int p3), .val (.int d1), .val (.int d2), .val (.int v2), .val (.ref b1), .val (.ref b3), .val (.ref b5), .val (.ref b7), .unset] [(.int (0 : Int32))])) _
        exact k
    refine own_go (U' := T10.setTop (mkF m 121 #[.val (.int p1), .val (.int p2), .val (.int p3), .val (.int d1), .val (.int d2), .val (.int v2), .val (.ref b1), .val (.ref b3), .val (.ref b5), .val (.ref b7), .val (.int (if (own_key d1 p1) = (own_key d2 v2) then (1 : Int32) else (0 : Int32)))] [])) (fun t k => XS.istore X10.here hx rfl (hb hby at_119) rfl (l' := #[.val (.int p1), .val (.int p2), .val (.int p3), .val (.int d1), .val (.int d2), .val (.int v2), .val (.ref b1), .val (.ref b3), .val (.ref b5), .val (.ref b7), .val (.int (if (own_key d1 p1) = (own_key d2 v2) then (1 : Int32) else (0 : Int32)))]) rfl k) ?_
    refine own_go (U' := T10.setTop (mkF m 123 #[.val (.int p1), .val (.int p2), .val (.int p3), .val (.int d1), .val (.int d2), .val (.int v2), .val (.ref b1), .val (.ref b3), .val (.ref b5), .val (.ref b7), .val (.int (if (own_key d1 p1) = (own_key d2 v2) then (1 : Int32) else (0 : Int32)))] [(.ref b5)])) (fun t k => XS.aload X10.here hx rfl (hb hby at_121) rfl rfl k) ?_
    refine own_go (U' := T10.setTop (mkF m 125 #[.val (.int p1), .val (.int p2), .val (.int p3), .val (.int d1), .val (.int d2), .val (.int v2), .val (.ref b1), .val (.ref b3), .val (.ref b5), .val (.ref b7), .val (.int (if (own_key d1 p1) = (own_key d2 v2) then (1 : Int32) else (0 : Int32)))] [(.ref b7), (.ref b5)])) (fun t k => XS.aload X10.here hx rfl (hb hby at_123) rfl rfl k) ?_
    obtain ⟨v11, T11, h11, L11, e11, X11, hQ11, st11⟩ := own_callV X10 hx hZ (y := (⟨"com/example/keywright/keywright/Snapshot$Setting", "ranksWith", "(Lcom/example/keywright/keywright/Snapshot$Setting;)Z"⟩ : MethodName)) (z := (⟨"com/example/keywright/keywright/Snapshot$Setting", "ranksWith", "(Lcom/example/keywright/keywright/Snapshot$Setting;)Z"⟩ : MethodName)) hown (hw _ (List.mem_of_getElem? (i := 49) rfl)) (hw _ (List.mem_of_getElem? (i := 50) rfl)) (notFace_of_selects (args := #[]) (mvT hZ (hw _ (List.mem_of_getElem? (i := 52) rfl)))) (hw _ (List.mem_of_getElem? (i := 52) rfl)) (hw _ (List.mem_of_getElem? (i := 51) rfl)) (hw _ (List.mem_of_getElem? (i := 28) rfl)) (hw _ (List.mem_of_getElem? (i := 53) rfl)) (by decide) E_b5 (own_rmrw l Z a0 hw b5 b7 h8 d1 d2 p1 v2 F_deny_b5 F_deny_b7 F_width_b5 F_width_b7) (W := 0) (by decide) (by decide) (g := (mkF m 125 #[.val (.int p1), .val (.int p2), .val (.int p3), .val (.int d1), .val (.int d2), .val (.int v2), .val (.ref b1), .val (.ref b3), .val (.ref b5), .val (.ref b7), .val (.int (if (own_key d1 p1) = (own_key d2 v2) then (1 : Int32) else (0 : Int32)))] [(.ref b7), (.ref b5)])) rfl (by rw [hml]; rfl) (argsL := [(.ref b7)]) (rest := []) (lenOf own_pd8 rfl) rfl rfl (by show 2 * 0 + _ ≤ _; exact Nat.le_of_eq rfl) (hb hby at_125) e10 (by decide) (by decide)
    obtain ⟨rfl, rfl, eh11⟩ := hQ11
    have e11 := e11.trans eh11
    rw [List.append_nil] at X11
    refine own_go (U' := T11.setTop (mkF m 128 #[.val (.int p1), .val (.int p2), .val (.int p3), .val (.int d1), .val (.int d2), .val (.int v2), .val (.ref b1), .val (.ref b3), .val (.ref b5), .val (.ref b7), .val (.int (if (own_key d1 p1) = (own_key d2 v2) then (1 : Int32) else (0 : Int32)))] [(.int (own_rw d1 d2 p1 v2))])) st11 ?_
    refine own_go (U' := T11.setTop (mkF m 130 #[.val (.int p1), .val (.int p2), .val (.int p3), .val (.int d1), .val (.int d2), .val (.int v2), .val (.ref b1), .val (.ref b3), .val (.ref b5), .val (.ref b7), .val (.int (if (own_key d1 p1) = (own_key d2 v2) then (1 : Int32) else (0 : Int32)))] [(.int (if (own_key d1 p1) = (own_key d2 v2) then (1 : Int32) else (0 : Int32))), (.int (own_rw d1 d2 p1 v2))])) (fun t k => XS.iload X11.here hx rfl (hb hby at_128) rfl k) ?_
    refine own_go (U' := T11.setTop (mkF m 133 #[.val (.int p1), .val (.int p2), .val (.int p3), .val (.int d1), .val (.int d2), .val (.int v2), .val (.ref b1), .val (.ref b3), .val (.ref b5), .val (.ref b7), .val (.int (if (own_key d1 p1) = (own_key d2 v2) then (1 : Int32) else (0 : Int32)))] [])) (fun t k => XS.icmpNo X11.here hx rfl (hb hby at_130) rfl (teq (own_p1 hb1 hb2)).2 k) ?_
    refine own_go (U' := T11.setTop (mkF m 135 #[.val (.int p1), .val (.int p2), .val (.int p3), .val (.int d1), .val (.int d2), .val (.int v2), .val (.ref b1), .val (.ref b3), .val (.ref b5), .val (.ref b7), .val (.int (if (own_key d1 p1) = (own_key d2 v2) then (1 : Int32) else (0 : Int32)))] [(.ref b7)])) (fun t k => XS.aload X11.here hx rfl (hb hby at_133) rfl rfl k) ?_
    refine own_go (U' := T11.setTop (mkF m 137 #[.val (.int p1), .val (.int p2), .val (.int p3), .val (.int d1), .val (.int d2), .val (.int v2), .val (.ref b1), .val (.ref b3), .val (.ref b5), .val (.ref b7), .val (.int (if (own_key d1 p1) = (own_key d2 v2) then (1 : Int32) else (0 : Int32)))] [(.ref b5), (.ref b7)])) (fun t k => XS.aload X11.here hx rfl (hb hby at_135) rfl rfl k) ?_
    obtain ⟨v12, T12, h12, L12, e12, X12, hQ12, st12⟩ := own_callV X11 hx hZ (y := (⟨"com/example/keywright/keywright/Snapshot$Setting", "ranksWith", "(Lcom/example/keywright/keywright/Snapshot$Setting;)Z"⟩ : MethodName)) (z := (⟨"com/example/keywright/keywright/Snapshot$Setting", "ranksWith", "(Lcom/example/keywright/keywright/Snapshot$Setting;)Z"⟩ : MethodName)) hown (hw _ (List.mem_of_getElem? (i := 49) rfl)) (hw _ (List.mem_of_getElem? (i := 50) rfl)) (notFace_of_selects (args := #[]) (mvT hZ (hw _ (List.mem_of_getElem? (i := 52) rfl)))) (hw _ (List.mem_of_getElem? (i := 52) rfl)) (hw _ (List.mem_of_getElem? (i := 51) rfl)) (hw _ (List.mem_of_getElem? (i := 28) rfl)) (hw _ (List.mem_of_getElem? (i := 53) rfl)) (by decide) E_b7 (own_rmrw l Z a0 hw b7 b5 h8 d2 d1 v2 p1 F_deny_b7 F_deny_b5 F_width_b7 F_width_b5) (W := 0) (by decide) (by decide) (g := (mkF m 137 #[.val (.int p1), .val (.int p2), .val (.int p3), .val (.int d1), .val (.int d2), .val (.int v2), .val (.ref b1), .val (.ref b3), .val (.ref b5), .val (.ref b7), .val (.int (if (own_key d1 p1) = (own_key d2 v2) then (1 : Int32) else (0 : Int32)))] [(.ref b5), (.ref b7)])) rfl (by rw [hml]; rfl) (argsL := [(.ref b5)]) (rest := []) (lenOf own_pd8 rfl) rfl rfl (by show 2 * 0 + _ ≤ _; exact Nat.le_of_eq rfl) (hb hby at_137) e11 (by decide) (by decide)
    obtain ⟨rfl, rfl, eh12⟩ := hQ12
    have e12 := e12.trans eh12
    rw [List.append_nil] at X12
    refine own_go (U' := T12.setTop (mkF m 140 #[.val (.int p1), .val (.int p2), .val (.int p3), .val (.int d1), .val (.int d2), .val (.int v2), .val (.ref b1), .val (.ref b3), .val (.ref b5), .val (.ref b7), .val (.int (if (own_key d1 p1) = (own_key d2 v2) then (1 : Int32) else (0 : Int32)))] [(.int (own_rw d2 d1 v2 p1))])) st12 ?_
    refine own_go (U' := T12.setTop (mkF m 142 #[.val (.int p1), .val (.int p2), .val (.int p3), .val (.int d1), .val (.int d2), .val (.int v2), .val (.ref b1), .val (.ref b3), .val (.ref b5), .val (.ref b7), .val (.int (if (own_key d1 p1) = (own_key d2 v2) then (1 : Int32) else (0 : Int32)))] [(.int (if (own_key d1 p1) = (own_key d2 v2) then (1 : Int32) else (0 : Int32))), (.int (own_rw d2 d1 v2 p1))])) (fun t k => XS.iload X12.here hx rfl (hb hby at_140) rfl k) ?_
    refine own_go (U' := T12.setTop (mkF m 145 #[.val (.int p1), .val (.int p2), .val (.int p3), .val (.int d1), .val (.int d2), .val (.int v2), .val (.ref b1), .val (.ref b3), .val (.ref b5), .val (.ref b7), .val (.int (if (own_key d1 p1) = (own_key d2 v2) then (1 : Int32) else (0 : Int32)))] [])) (fun t k => XS.icmpNo X12.here hx rfl (hb hby at_142) rfl (teq (own_p2.trans (own_p1 hb1 hb2))).2 k) ?_
    refine own_go (U' := T12.setTop (mkF m 147 #[.val (.int p1), .val (.int p2), .val (.int p3), .val (.int d1), .val (.int d2), .val (.int v2), .val (.ref b1), .val (.ref b3), .val (.ref b5), .val (.ref b7), .val (.int (if (own_key d1 p1) = (own_key d2 v2) then (1 : Int32) else (0 : Int32)))] [(.ref b5)])) (fun t k => XS.aload X12.here hx rfl (hb hby at_145) rfl rfl k) ?_
    refine own_go (U' := T12.setTop (mkF m 149 #[.val (.int p1), .val (.int p2), .val (.int p3), .val (.int d1), .val (.int d2), .val (.int v2), .val (.ref b1), .val (.ref b3), .val (.ref b5), .val (.ref b7), .val (.int (if (own_key d1 p1) = (own_key d2 v2) then (1 : Int32) else (0 : Int32)))] [(.ref b5), (.ref b5)])) (fun t k => XS.aload X12.here hx rfl (hb hby at_147) rfl rfl k) ?_
    obtain ⟨v13, T13, h13, L13, e13, X13, hQ13, st13⟩ := own_callV X12 hx hZ (y := (⟨"com/example/keywright/keywright/Snapshot$Setting", "ranksWith", "(Lcom/example/keywright/keywright/Snapshot$Setting;)Z"⟩ : MethodName)) (z := (⟨"com/example/keywright/keywright/Snapshot$Setting", "ranksWith", "(Lcom/example/keywright/keywright/Snapshot$Setting;)Z"⟩ : MethodName)) hown (hw _ (List.mem_of_getElem? (i := 49) rfl)) (hw _ (List.mem_of_getElem? (i := 50) rfl)) (notFace_of_selects (args := #[]) (mvT hZ (hw _ (List.mem_of_getElem? (i := 52) rfl)))) (hw _ (List.mem_of_getElem? (i := 52) rfl)) (hw _ (List.mem_of_getElem? (i := 51) rfl)) (hw _ (List.mem_of_getElem? (i := 28) rfl)) (hw _ (List.mem_of_getElem? (i := 53) rfl)) (by decide) E_b5 (own_rmrw l Z a0 hw b5 b5 h8 d1 d1 p1 p1 F_deny_b5 F_deny_b5 F_width_b5 F_width_b5) (W := 0) (by decide) (by decide) (g := (mkF m 149 #[.val (.int p1), .val (.int p2), .val (.int p3), .val (.int d1), .val (.int d2), .val (.int v2), .val (.ref b1), .val (.ref b3), .val (.ref b5), .val (.ref b7), .val (.int (if (own_key d1 p1) = (own_key d2 v2) then (1 : Int32) else (0 : Int32)))] [(.ref b5), (.ref b5)])) rfl (by rw [hml]; rfl) (argsL := [(.ref b5)]) (rest := []) (lenOf own_pd8 rfl) rfl rfl (by show 2 * 0 + _ ≤ _; exact Nat.le_of_eq rfl) (hb hby at_149) e12 (by decide) (by decide)
    obtain ⟨rfl, rfl, eh13⟩ := hQ13
    have e13 := e13.trans eh13
    rw [List.append_nil] at X13
    refine own_go (U' := T13.setTop (mkF m 152 #[.val (.int p1), .val (.int p2), .val (.int p3), .val (.int d1), .val (.int d2), .val (.int v2), .val (.ref b1), .val (.ref b3), .val (.ref b5), .val (.ref b7), .val (.int (if (own_key d1 p1) = (own_key d2 v2) then (1 : Int32) else (0 : Int32)))] [(.int (own_rw d1 d1 p1 p1))])) st13 ?_
    refine own_go (U' := T13.setTop (mkF m 155 #[.val (.int p1), .val (.int p2), .val (.int p3), .val (.int d1), .val (.int d2), .val (.int v2), .val (.ref b1), .val (.ref b3), .val (.ref b5), .val (.ref b7), .val (.int (if (own_key d1 p1) = (own_key d2 v2) then (1 : Int32) else (0 : Int32)))] [])) (fun t k => XS.ifNo X13.here hx rfl (hb hby at_152) rfl ((if0 _ _).trans (feq own_p3).1) k) ?_
    refine own_go (U' := T13.setTop (mkF m 156 #[.val (.int p1), .val (.int p2), .val (.int p3), .val (.int d1), .val (.int d2), .val (.int v2), .val (.ref b1), .val (.ref b3), .val (.ref b5), .val (.ref b7), .val (.int (if (own_key d1 p1) = (own_key d2 v2) then (1 : Int32) else (0 : Int32)))] [(.int (1 : Int32))])) (fun t k => XS.iconst X13.here hx rfl (hb hby at_155) k) ?_
    refine own_go (U' := T13.setTop (mkF m 160 #[.val (.int p1), .val (.int p2), .val (.int p3), .val (.int d1), .val (.int d2), .val (.int v2), .val (.ref b1), .val (.ref b3), .val (.ref b5), .val (.ref b7), .val (.int (if (own_key d1 p1) = (own_key d2 v2) then (1 : Int32) else (0 : Int32)))] [(.int (1 : Int32))])) (fun t k => XS.goto X13.here hx rfl (pc0 := 156) (pc' := 160) rfl (hb hby at_156) (by decide) (by decide) k) ?_
    refine own_retN X13 hx (t := .boolean) hret (by simp) hlk (hb hby at_160) ?_ (by decide) (by decide)
    exact ⟨rfl, N8⟩
  · refine own_go (U' := T4.setTop (mkF m 63 #[.val (.int p1), .val (.int p2), .val (.int p3), .val (.int d1), .val (.int d2), .val (.int v2), .val (.ref b1), .val (.ref b3), .unset, .unset, .unset] [])) (fun t k => XS.ifNo X4.here hx rfl (hb hby at_60) rfl ((if0 _ _).trans (feq h8).1) k) ?_
    refine own_go (U' := T4.setTop (mkF m 65 #[.val (.int p1), .val (.int p2), .val (.int p3), .val (.int d1), .val (.int d2), .val (.int v2), .val (.ref b1), .val (.ref b3), .unset, .unset, .unset] [(.ref b3)])) (fun t k => XS.aload X4.here hx rfl (hb hby at_63) rfl rfl k) ?_
    refine own_go (U' := T4.setTop (mkF m 66 #[.val (.int p1), .val (.int p2), .val (.int p3), .val (.int d1), .val (.int d2), .val (.int v2), .val (.ref b1), .val (.ref b3), .unset, .unset, .unset] [.null, (.ref b3)])) (fun t k => XS.aconstNull X4.here hx rfl (hb hby at_65) k) ?_
    obtain ⟨v14, T14, h14, L14, e14, X14, hQ14, st14⟩ := own_callV X4 hx hZ (y := (⟨"java/util/ArrayList", "add", "(Ljava/lang/Object;)Z"⟩ : MethodName)) (z := (⟨"java/util/ArrayList", "add", "(Ljava/lang/Object;)Z"⟩ : MethodName)) hown (hw _ (List.mem_of_getElem? (i := 54) rfl)) (hw _ (List.mem_of_getElem? (i := 55) rfl)) (notFace_of_selects (args := #[]) (mvT hZ (hw _ (List.mem_of_getElem? (i := 57) rfl)))) (hw _ (List.mem_of_getElem? (i := 57) rfl)) (hw _ (List.mem_of_getElem? (i := 56) rfl)) (hw _ (List.mem_of_getElem? (i := 2) rfl)) (hw _ (List.mem_of_getElem? (i := 58) rfl)) (by decide) E_b3 (own_rma1 l Z a0 hw b3 h4 n0 g_b3 _ dd cdd O S_dd A_dd hcdd E_b3 F_modCount_b3 F_elementData_b3 F_size_b3) (W := 0) (by decide) (by decide) (g := (mkF m 66 #[.val (.int p1), .val (.int p2), .val (.int p3), .val (.int d1), .val (.int d2), .val (.int v2), .val (.ref b1), .val (.ref b3), .unset, .unset, .unset] [.null, (.ref b3)])) rfl (by rw [hml]; rfl) (argsL := [.null]) (rest := []) (lenOf own_pd5 rfl) rfl rfl (by show 2 * 0 + _ ≤ _; exact Nat.le_of_eq rfl) (hb hby at_66) e4 (by decide) (by decide)
    obtain ⟨rfl, Nq, Kq, xa, ka, Fm, Fe, Fs, Va⟩ := hQ14
    have O := O.keep Kq (allS g_b3 all0)
    have E_b1 := E_b1.keep Kq
    have F_modCount_b1 := F_modCount_b1.keep Kq (ninS ne_b1_b3 nin0)
    have F_elementData_b1 := F_elementData_b1.keep Kq (ninS ne_b1_b3 nin0)
    have F_size_b1 := F_size_b1.keep Kq (ninS ne_b1_b3 nin0)
    have E_b3 := E_b3.keep Kq
    have N14 := Fr.app N4 Nq
    refine own_go (U' := T14.setTop (mkF m 69 #[.val (.int p1), .val (.int p2), .val (.int p3), .val (.int d1), .val (.int d2), .val (.int v2), .val (.ref b1), .val (.ref b3), .unset, .unset, .unset] [(.int (1 : Int32))])) st14 ?_
    refine own_go (U' := T14.setTop (mkF m 70 #[.val (.int p1), .val (.int p2), .val (.int p3), .val (.int d1), .val (.int d2), .val (.int v2), .val (.ref b1), .val (.ref b3), .unset, .unset, .unset] [])) (fun t k => XS.pop X14.here hx rfl (hb hby at_69) rfl rfl k) ?_
    obtain ⟨T15, h15, X15, e15, E15, A15, D15, -, st15⟩ := newO X14 hx hZ hown (hw _ (List.mem_of_getElem? (i := 26) rfl)) (hw _ (List.mem_of_getElem? (i := 27) rfl)) (hw _ (List.mem_of_getElem? (i := 28) rfl)) e14 (g := (mkF m 70 #[.val (.int p1), .val (.int p2), .val (.int p3), .val (.int d1), .val (.int d2), .val (.int v2), .val (.ref b1), .val (.ref b3), .unset, .unset, .unset] [])) rfl (hb hby at_70) (by decide) (by decide)
    obtain ⟨b15, g15⟩ : ∃ z, z = h14.size := ⟨_, rfl⟩
    rw [← g15] at A15 D15 st15
    have g_b15 : n0 ≤ b15 := Nat.le_trans (Nat.le_trans (Nat.le_of_eq O.1.symm) O.2.1) (Nat.le_of_eq g15.symm)
    have O := O.ext E15
    have E_b15 := A15
    have F_deny_b15 : Fld Z h15 b15 "com/example/keywright/keywright/Snapshot$Setting" "deny" "Z" (.int (0 : Int32)) := D15 (Or.inr (hw _ (List.mem_of_getElem? (i := 39) rfl))) (ty := .boolean) (by decide)
    have F_width_b15 : Fld Z h15 b15 "com/example/keywright/keywright/Snapshot$Setting" "width" "I" (.int (0 : Int32)) := D15 (Or.inr (hw _ (List.mem_of_getElem? (i := 41) rfl))) (ty := .int) (by decide)
    have F_lines_b15 : Fld Z h15 b15 "com/example/keywright/keywright/Snapshot$Setting" "lines" "Ljava/util/List;" .null := D15 (Or.inr (hw _ (List.mem_of_getElem? (i := 43) rfl))) (ty := (.object "java/util/List")) (by decide)
    refine own_go (U' := T15.setTop (mkF m 73 #[.val (.int p1), .val (.int p2), .val (.int p3), .val (.int d1), .val (.int d2), .val (.int v2), .val (.ref b1), .val (.ref b3), .unset, .unset, .unset] [(.ref b15)])) st15 ?_
    refine own_go (U' := T15.setTop (mkF m 74 #[.val (.int p1), .val (.int p2), .val (.int p3), .val (.int d1), .val (.int d2), .val (.int v2), .val (.ref b1), .val (.ref b3), .unset, .unset, .unset] [(.ref b15), (.ref b15)])) (fun t k => XS.dup X15.here hx rfl (hb hby at_73) rfl rfl k) ?_
    refine own_go (U' := T15.setTop (mkF m 75 #[.val (.int p1), .val (.int p2), .val (.int p3), .val (.int d1), .val (.int d2), .val (.int v2), .val (.ref b1), .val (.ref b3), .unset, .unset, .unset] [(.int d1), (.ref b15), (.ref b15)])) (fun t k => XS.iloadN X15.here hx rfl (hb hby at_74) rfl k) ?_
    refine own_go (U' := T15.setTop (mkF m 76 #[.val (.int p1), .val (.int p2), .val (.int p3), .val (.int d1), .val (.int d2), .val (.int v2), .val (.ref b1), .val (.ref b3), .unset, .unset, .unset] [(.int p1), (.int d1), (.ref b15), (.ref b15)])) (fun t k => XS.iloadN X15.here hx rfl (hb hby at_75) rfl k) ?_
    refine own_go (U' := T15.setTop (mkF m 78 #[.val (.int p1), .val (.int p2), .val (.int p3), .val (.int d1), .val (.int d2), .val (.int v2), .val (.ref b1), .val (.ref b3), .unset, .unset, .unset] [(.ref b1), (.int p1), (.int d1), (.ref b15), (.ref b15)])) (fun t k => XS.aload X15.here hx rfl (hb hby at_76) rfl rfl k) ?_
    obtain ⟨v16, T16, h16, L16, e16, X16, hQ16, st16⟩ := own_callC X15 hx hZ (y := (⟨"com/example/keywright/keywright/Snapshot$Setting", "<init>", "(ZILjava/util/List;)V"⟩ : MethodName)) rfl hown (hw _ (List.mem_of_getElem? (i := 29) rfl)) (hw _ (List.mem_of_getElem? (i := 30) rfl)) (hw _ (List.mem_of_getElem? (i := 28) rfl)) (hw _ (List.mem_of_getElem? (i := 31) rfl)) (by decide) (a := b15) (own_rmsi l Z a0 hw b15 d1 p1 b1 h15 n0 g_b15 _ _ _ (own_nar01 hb1) E_b15 F_deny_b15 F_width_b15 F_lines_b15) (W := 1) (by decide) (by decide) (g := (mkF m 78 #[.val (.int p1), .val (.int p2), .val (.int p3), .val (.int d1), .val (.int d2), .val (.int v2), .val (.ref b1), .val (.ref b3), .unset, .unset, .unset] [(.ref b1), (.int p1), (.int d1), (.ref b15), (.ref b15)])) rfl (by rw [hml]; rfl) (argsL := [(.int d1), (.int p1), (.ref b1)]) (rest := [(.ref b15)]) (lenOf own_pd6 rfl) rfl rfl (by show 2 * 0 + _ ≤ _; exact Nat.le_of_eq rfl) (hb hby at_78) e15 (by decide) (by decide)
    obtain ⟨rfl, Nq, Kq, Fd, Fw⟩ := hQ16
    have O := O.keep Kq (allS g_b15 all0)
    have E_b15 := E_b15.keep Kq
    have F_deny_b15 := Fd
    have F_width_b15 := Fw
    have N16 := Fr.app N14 Nq
    refine own_go (U' := T16.setTop (mkF m 81 #[.val (.int p1), .val (.int p2), .val (.int p3), .val (.int d1), .val (.int d2), .val (.int v2), .val (.ref b1), .val (.ref b3), .unset, .unset, .unset] [(.ref b15)])) st16 ?_
    refine own_go (U' := T16.setTop (mkF m 83 #[.val (.int p1), .val (.int p2), .val (.int p3), .val (.int d1), .val (.int d2), .val (.int v2), .val (.ref b1), .val (.ref b3), .val (.ref b15), .unset, .unset] [])) (fun t k => XS.astore X16.here hx rfl (hb hby at_81) rfl rfl (l' := #[.val (.int p1), .val (.int p2), .val (.int p3), .val (.int d1), .val (.int d2), .val (.int v2), .val (.ref b1), .val (.ref b3), .val (.ref b15), .unset, .unset]) rfl k) ?_
    obtain ⟨T17, h17, X17, e17, E17, A17, D17, -, st17⟩ := newO X16 hx hZ hown (hw _ (List.mem_of_getElem? (i := 26) rfl)) (hw _ (List.mem_of_getElem? (i := 27) rfl)) (hw _ (List.mem_of_getElem? (i := 28) rfl)) e16 (g := (mkF m 83 #[.val (.int p1), .val (.int p2), .val (.int p3), .val (.int d1), .val (.int d2), .val (.int v2), .val (.ref b1), .val (.ref b3), .val (.ref b15), .unset, .unset] [])) rfl (hb hby at_83) (by decide) (by decide)
    obtain ⟨b17, g17⟩ : ∃ z, z = h16.size := ⟨_, rfl⟩
    rw [← g17] at A17 D17 st17
    have ne_b15_b17 : b15 ≠ b17 := Nat.ne_of_lt (Nat.lt_of_lt_of_eq E_b15.lt g17.symm)
    have g_b17 : n0 ≤ b17 := Nat.le_trans (Nat.le_trans (Nat.le_of_eq O.1.symm) O.2.1) (Nat.le_of_eq g17.symm)
    have O := O.ext E17
    have E_b15 := E_b15.ext E17
    have F_deny_b15 := F_deny_b15.ext E17
    have F_width_b15 := F_width_b15.ext E17
    have E_b17 := A17
    have F_deny_b17 : Fld Z h17 b17 "com/example/keywright/keywright/Snapshot$Setting" "deny" "Z" (.int (0 : Int32)) := D17 (Or.inr (hw _ (List.mem_of_getElem? (i := 39) rfl))) (ty := .boolean) (by decide)
    have F_width_b17 : Fld Z h17 b17 "com/example/keywright/keywright/Snapshot$Setting" "width" "I" (.int (0 : Int32)) := D17 (Or.inr (hw _ (List.mem_of_getElem? (i := 41) rfl))) (ty := .int) (by decide)
    have F_lines_b17 : Fld Z h17 b17 "com/example/keywright/keywright/Snapshot$Setting" "lines" "Ljava/util/List;" .null := D17 (Or.inr (hw _ (List.mem_of_getElem? (i := 43) rfl))) (ty := (.object "java/util/List")) (by decide)
    refine own_go (U' := T17.setTop (mkF m 86 #[.val (.int p1), .val (.int p2), .val (.int p3), .val (.int d1), .val (.int d2), .val (.int v2), .val (.ref b1), .val (.ref b3), .val (.ref b15), .unset, .unset] [(.ref b17)])) st17 ?_
    refine own_go (U' := T17.setTop (mkF m 87 #[.val (.int p1), .val (.int p2), .val (.int p3), .val (.int d1), .val (.int d2), .val (.int v2), .val (.ref b1), .val (.ref b3), .val (.ref b15), .unset, .unset] [(.ref b17), (.ref b17)])) (fun t k => XS.dup X17.here hx rfl (hb hby at_86) rfl rfl k) ?_
    refine own_go (U' := T17.setTop (mkF m 89 #[.val (.int p1), .val (.int p2), .val (.int p3), .val (.int d1), .val (.int d2), .val (.int v2), .val (.ref b1), .val (.ref b3), .val (.ref b15), .unset, .unset] [(.int d2), (.ref b17), (.ref b17)])) (fun t k => XS.iload X17.here hx rfl (hb hby at_87) rfl k) ?_
    refine own_go (U' := T17.setTop (mkF m 91 #[.val (.int p1), .val (.int p2), .val (.int p3), .val (.int d1), .val (.int d2), .val (.int v2), .val (.ref b1), .val (.ref b3), .val (.ref b15), .unset, .unset] [(.int v2), (.int d2), (.ref b17), (.ref b17)])) (fun t k => XS.iload X17.here hx rfl (hb hby at_89) rfl k) ?_
    refine own_go (U' := T17.setTop (mkF m 93 #[.val (.int p1), .val (.int p2), .val (.int p3), .val (.int d1), .val (.int d2), .val (.int v2), .val (.ref b1), .val (.ref b3), .val (.ref b15), .unset, .unset] [(.ref b3), (.int v2), (.int d2), (.ref b17), (.ref b17)])) (fun t k => XS.aload X17.here hx rfl (hb hby at_91) rfl rfl k) ?_
    obtain ⟨v18, T18, h18, L18, e18, X18, hQ18, st18⟩ := own_callC X17 hx hZ (y := (⟨"com/example/keywright/keywright/Snapshot$Setting", "<init>", "(ZILjava/util/List;)V"⟩ : MethodName)) rfl hown (hw _ (List.mem_of_getElem? (i := 29) rfl)) (hw _ (List.mem_of_getElem? (i := 30) rfl)) (hw _ (List.mem_of_getElem? (i := 28) rfl)) (hw _ (List.mem_of_getElem? (i := 31) rfl)) (by decide) (a := b17) (own_rmsi l Z a0 hw b17 d2 v2 b3 h17 n0 g_b17 _ _ _ (own_nar01 hb2) E_b17 F_deny_b17 F_width_b17 F_lines_b17) (W := 1) (by decide) (by decide) (g := (mkF m 93 #[.val (.int p1), .val (.int p2), .val (.int p3), .val (.int d1), .val (.int d2), .val (.int v2), .val (.ref b1), .val (.ref b3), .val (.ref b15), .unset, .unset] [(.ref b3), (.int v2), (.int d2), (.ref b17), (.ref b17)])) rfl (by rw [hml]; rfl) (argsL := [(.int d2), (.int v2), (.ref b3)]) (rest := [(.ref b17)]) (lenOf own_pd6 rfl) rfl rfl (by show 2 * 0 + _ ≤ _; exact Nat.le_of_eq rfl) (hb hby at_93) e17 (by decide) (by decide)
    obtain ⟨rfl, Nq, Kq, Fd, Fw⟩ := hQ18
    have O := O.keep Kq (allS g_b17 all0)
    have E_b15 := E_b15.keep Kq
    have F_deny_b15 := F_deny_b15.keep Kq (ninS ne_b15_b17 nin0)
    have F_width_b15 := F_width_b15.keep Kq (ninS ne_b15_b17 nin0)
    have E_b17 := E_b17.keep Kq
    have F_deny_b17 := Fd
    have F_width_b17 := Fw
    have N18 := Fr.app N16 Nq
    refine own_go (U' := T18.setTop (mkF m 96 #[.val (.int p1), .val (.int p2), .val (.int p3), .val (.int d1), .val (.int d2), .val (.int v2), .val (.ref b1), .val (.ref b3), .val (.ref b15), .unset, .unset] [(.ref b17)])) st18 ?_
    refine own_go (U' := T18.setTop (mkF m 98 #[.val (.int p1), .val (.int p2), .val (.int p3), .val (.int d1), .val (.int d2), .val (.int v2), .val (.ref b1), .val (.ref b3), .val (.ref b15), .val (.ref b17), .unset] [])) (fun t k => XS.astore X18.here hx rfl (hb hby at_96) rfl rfl (l' := #[.val (.int p1), .val (.int p2), .val (.int p3), .val (.int d1), .val (.int d2), .val (.int v2), .val (.ref b1), .val (.ref b3), .val (.ref b15), .val (.ref b17), .unset]) rfl k) ?_
    refine own_go (U' := T18.setTop (mkF m 99 #[.val (.int p1), .val (.int p2), .val (.int p3), .val (.int d1), .val (.int d2), .val (.int v2), .val (.ref b1), .val (.ref b3), .val (.ref b15), .val (.ref b17), .unset] [(.int d1)])) (fun t k => XS.iloadN X18.here hx rfl (hb hby at_98) rfl k) ?_
    refine own_go (U' := T18.setTop (mkF m 100 #[.val (.int p1), .val (.int p2), .val (.int p3), .val (.int d1), .val (.int d2), .val (.int v2), .val (.ref b1), .val (.ref b3), .val (.ref b15), .val (.ref b17), .unset] [(.int p1), (.int d1)])) (fun t k => XS.iloadN X18.here hx rfl (hb hby at_99) rfl k) ?_
    obtain ⟨v19, T19, h19, L19, e19, X19, hQ19, st19⟩ := own_callS X18 hx hZ (y := (⟨"com/example/keywright/keywright/SettingRanksWithPinLaw", "key", "(ZI)J"⟩ : MethodName)) hown (hw _ (List.mem_of_getElem? (i := 44) rfl)) (hw _ (List.mem_of_getElem? (i := 45) rfl)) (hw _ (List.mem_of_getElem? (i := 46) rfl)) (hw _ (List.mem_of_getElem? (i := 47) rfl)) (by decide) (own_rmky l Z a0 hw d1 p1 h18) (W := 0) (by decide) (by decide) (g := (mkF m 100 #[.val (.int p1), .val (.int p2), .val (.int p3), .val (.int d1), .val (.int d2), .val (.int v2), .val (.ref b1), .val (.ref b3), .val (.ref b15), .val (.ref b17), .unset] [(.int p1), (.int d1)])) rfl (by rw [hml]; rfl) (argsL := [(.int d1), (.int p1)]) (rest := []) (lenOf own_pd7 rfl) rfl rfl (by show 2 * 0 + _ ≤ _; exact Nat.le_of_eq rfl) (hb hby at_100) e18 (by decide) (by decide)
    obtain ⟨rfl, rfl, eh19⟩ := hQ19
    have e19 := e19.trans eh19
    rw [List.append_nil] at X19
    refine own_go (U' := T19.setTop (mkF m 103 #[.val (.int p1), .val (.int p2), .val (.int p3), .val (.int d1), .val (.int d2), .val (.int v2), .val (.ref b1), .val (.ref b3), .val (.ref b15), .val (.ref b17), .unset] [(.long (own_key d1 p1))])) st19 ?_
    refine own_go (U' := T19.setTop (mkF m 105 #[.val (.int p1), .val (.int p2), .val (.int p3), .val (.int d1), .val (.int d2), .val (.int v2), .val (.ref b1), .val (.ref b3), .val (.ref b15), .val (.ref b17), .unset] [(.int d2), (.long (own_key d1 p1))])) (fun t k => XS.iload X19.here hx rfl (hb hby at_103) rfl k) ?_
    refine own_go (U' := T19.setTop (mkF m 107 #[.val (.int p1), .val (.int p2), .val (.int p3), .val (.int d1), .val (.int d2), .val (.int v2), .val (.ref b1), .val (.ref b3), .val (.ref b15), .val (.ref b17), .unset] [(.int v2), (.int d2), (.long (own_key d1 p1))])) (fun t k => XS.iload X19.here hx rfl (hb hby at_105) rfl k) ?_
    obtain ⟨v20, T20, h20, L20, e20, X20, hQ20, st20⟩ := own_callS X19 hx hZ (y := (⟨"com/example/keywright/keywright/SettingRanksWithPinLaw", "key", "(ZI)J"⟩ : MethodName)) hown (hw _ (List.mem_of_getElem? (i := 44) rfl)) (hw _ (List.mem_of_getElem? (i := 45) rfl)) (hw _ (List.mem_of_getElem? (i := 46) rfl)) (hw _ (List.mem_of_getElem? (i := 47) rfl)) (by decide) (own_rmky l Z a0 hw d2 v2 h18) (W := 2) (by decide) (by decide) (g := (mkF m 107 #[.val (.int p1), .val (.int p2), .val (.int p3), .val (.int d1), .val (.int d2), .val (.int v2), .val (.ref b1), .val (.ref b3), .val (.ref b15), .val (.ref b17), .unset] [(.int v2), (.int d2), (.long (own_key d1 p1))])) rfl (by rw [hml]; rfl) (argsL := [(.int d2), (.int v2)]) (rest := [(.long (own_key d1 p1))]) (lenOf own_pd7 rfl) rfl rfl (by show 2 * 0 + _ ≤ _; exact Nat.le_of_eq rfl) (hb hby at_107) e19 (by decide) (by decide)
    obtain ⟨rfl, rfl, eh20⟩ := hQ20
    have e20 := e20.trans eh20
    rw [List.append_nil] at X20
    refine own_go (U' := T20.setTop (mkF m 110 #[.val (.int p1), .val (.int p2), .val (.int p3), .val (.int d1), .val (.int d2), .val (.int v2), .val (.ref b1), .val (.ref b3), .val (.ref b15), .val (.ref b17), .unset] [(.long (own_key d2 v2)), (.long (own_key d1 p1))])) st20 ?_
    refine own_go (U' := T20.setTop (mkF m 111 #[.val (.int p1), .val (.int p2), .val (.int p3), .val (.int d1), .val (.int d2), .val (.int v2), .val (.ref b1), .val (.ref b3), .val (.ref b15), .val (.ref b17), .unset] [(.int (lcmpW (own_key d1 p1) (own_key d2 v2)))])) (fun t k => XS.lcmp X20.here hx rfl (hb hby at_110) rfl k) ?_
    refine own_go (U' := T20.setTop (mkF m 119 #[.val (.int p1), .val (.int p2), .val (.int p3), .val (.int d1), .val (.int d2), .val (.int v2), .val (.ref b1), .val (.ref b3), .val (.ref b15), .val (.ref b17), .unset] [(.int (if (own_key d1 p1) = (own_key d2 v2) then (1 : Int32) else (0 : Int32)))])) (fun t k => ?_) ?_
    · show Steps p.tables e below (T20.setTop (mkF m 111 #[.val (.int p1), .val (.int p2), .val (.int p3), .val (.int d1), .val (.int d2), .val (.int v2), .val (.ref b1), .val (.ref b3), .val (.ref b15), .val (.ref b17), .unset] [(.int (lcmpW (own_key d1 p1) (own_key d2 v2)))])) _
      by_cases hd111 : (own_key d1 p1) = (own_key d2 v2)
      · simp only [if_pos hd111] at k
        refine XS.ifNo X20.here hx rfl (hb hby at_111) rfl ((if0 _ _).trans (teq ((lw_eq (own_key d1 p1) (own_key d2 v2)).mpr hd111)).2) ?_
        show Steps p.tables e below (T20.setTop (mkF m 114 #[.val (.int p1), .val (.int p2), .val (.int p3), .val (.int d1), .val (.int d2), .val (.int v2), .val (.ref b1), .val (.ref b3), .val (.ref b15), .val (.ref b17), .unset] [])) _
        refine XS.iconst X20.here hx rfl (hb hby at_114) ?_
        show Steps p.tables e below (T20.setTop (mkF m 115 #[.val (.int p1), .val (.int p2), .val (.int p3), .val (.int d1), .val (.int d2), .val (.int v2), .val (.ref b1), .val (.ref b3), .val (.ref b15), .val (.ref b17), .unset] [(.int (1 : Int32))])) _
        refine XS.goto X20.here hx rfl (pc0 := 115) (pc' := 119) rfl (hb hby at_115) (by decide) (by decide) ?_
        show Steps p.tables e below (T20.setTop (mkF m 119 #[.val (.int p1), .val (.int p2), .val (.int p3), .val (.int d1), .val (.int d2), .val (.int v2), .val (.ref b1), .val (.ref b3), .val (.ref b15), .val (.ref b17), .unset] [(.int (1 : Int32))])) _
        exact k
      · simp only [if_neg hd111] at k
        refine XS.ifYes X20.here hx rfl (pc0 := 111) (pc' := 118) rfl (hb hby at_111) rfl ((if0 _ _).trans (feq (fun q => hd111 ((lw_eq (own_key d1 p1) (own_key d2 v2)).mp q))).2) (by decide) (by decide) ?_
        show Steps p.tables e below (T20.setTop (mkF m 118 #[.val (.int p1), .val (.int p2), .val (.int p3), .val (.int d1), .val (.int d2), .val (.int v2), .val (.ref b1), .val (.ref b3), .val (.ref b15), .val (.ref b17), .unset] [])) _
        refine XS.iconst X20.here hx rfl (hb hby at_118) ?_
        show Steps p.tables e below (T20.setTop (mkF m 119 #[.val (.int p1), .val (.int p2), .val (.int p3), .val (.int d1), .val (.int d2), .val (.int v2), .val (.ref b1), .val (.ref b3), .val (.ref b15), .val (.ref b17), .unset] [(.int (0 : Int32))])) _
        exact k
    refine own_go (U' := T20.setTop (mkF m 121 #[.val (.int p1), .val (.int p2), .val (.int p3), .val (.int d1), .val (.int d2), .val (.int v2), .val (.ref b1), .val (.ref b3), .val (.ref b15), .val (.ref b17), .val (.int (if (own_key d1 p1) = (own_key d2 v2) then (1 : Int32) else (0 : Int32)))] [])) (fun t k => XS.istore X20.here hx rfl (hb hby at_119) rfl (l' := #[.val (.int p1), .val (.int p2), .val (.int p3), .val (.int d1), .val (.int d2), .val (.int v2), .val (.ref b1), .val (.ref b3), .val (.ref b15), .val (.ref b17), .val (.int (if (own_key d1 p1) = (own_key d2 v2) then (1 : Int32) else (0 : Int32)))]) rfl k) ?_
    refine own_go (U' := T20.setTop (mkF m 123 #[.val (.int p1), .val (.int p2), .val (.int p3), .val (.int d1), .val (.int d2), .val (.int v2), .val (.ref b1), .val (.ref b3), .val (.ref b15), .val (.ref b17), .val (.int (if (own_key d1 p1) = (own_key d2 v2) then (1 : Int32) else (0 : Int32)))] [(.ref b15)])) (fun t k => XS.aload X20.here hx rfl (hb hby at_121) rfl rfl k) ?_
    refine own_go (U' := T20.setTop (mkF m 125 #[.val (.int p1), .val (.int p2), .val (.int p3), .val (.int d1), .val (.int d2), .val (.int v2), .val (.ref b1), .val (.ref b3), .val (.ref b15), .val (.ref b17), .val (.int (if (own_key d1 p1) = (own_key d2 v2) then (1 : Int32) else (0 : Int32)))] [(.ref b17), (.ref b15)])) (fun t k => XS.aload X20.here hx rfl (hb hby at_123) rfl rfl k) ?_
    obtain ⟨v21, T21, h21, L21, e21, X21, hQ21, st21⟩ := own_callV X20 hx hZ (y := (⟨"com/example/keywright/keywright/Snapshot$Setting", "ranksWith", "(Lcom/example/keywright/keywright/Snapshot$Setting;)Z"⟩ : MethodName)) (z := (⟨"com/example/keywright/keywright/Snapshot$Setting", "ranksWith", "(Lcom/example/keywright/keywright/Snapshot$Setting;)Z"⟩ : MethodName)) hown (hw _ (List.mem_of_getElem? (i := 49) rfl)) (hw _ (List.mem_of_getElem? (i := 50) rfl)) (notFace_of_selects (args := #[]) (mvT hZ (hw _ (List.mem_of_getElem? (i := 52) rfl)))) (hw _ (List.mem_of_getElem? (i := 52) rfl)) (hw _ (List.mem_of_getElem? (i := 51) rfl)) (hw _ (List.mem_of_getElem? (i := 28) rfl)) (hw _ (List.mem_of_getElem? (i := 53) rfl)) (by decide) E_b15 (own_rmrw l Z a0 hw b15 b17 h18 d1 d2 p1 v2 F_deny_b15 F_deny_b17 F_width_b15 F_width_b17) (W := 0) (by decide) (by decide) (g := (mkF m 125 #[.val (.int p1), .val (.int p2), .val (.int p3), .val (.int d1), .val (.int d2), .val (.int v2), .val (.ref b1), .val (.ref b3), .val (.ref b15), .val (.ref b17), .val (.int (if (own_key d1 p1) = (own_key d2 v2) then (1 : Int32) else (0 : Int32)))] [(.ref b17), (.ref b15)])) rfl (by rw [hml]; rfl) (argsL := [(.ref b17)]) (rest := []) (lenOf own_pd8 rfl) rfl rfl (by show 2 * 0 + _ ≤ _; exact Nat.le_of_eq rfl) (hb hby at_125) e20 (by decide) (by decide)
    obtain ⟨rfl, rfl, eh21⟩ := hQ21
    have e21 := e21.trans eh21
    rw [List.append_nil] at X21
    refine own_go (U' := T21.setTop (mkF m 128 #[.val (.int p1), .val (.int p2), .val (.int p3), .val (.int d1), .val (.int d2), .val (.int v2), .val (.ref b1), .val (.ref b3), .val (.ref b15), .val (.ref b17), .val (.int (if (own_key d1 p1) = (own_key d2 v2) then (1 : Int32) else (0 : Int32)))] [(.int (own_rw d1 d2 p1 v2))])) st21 ?_
    refine own_go (U' := T21.setTop (mkF m 130 #[.val (.int p1), .val (.int p2), .val (.int p3), .val (.int d1), .val (.int d2), .val (.int v2), .val (.ref b1), .val (.ref b3), .val (.ref b15), .val (.ref b17), .val (.int (if (own_key d1 p1) = (own_key d2 v2) then (1 : Int32) else (0 : Int32)))] [(.int (if (own_key d1 p1) = (own_key d2 v2) then (1 : Int32) else (0 : Int32))), (.int (own_rw d1 d2 p1 v2))])) (fun t k => XS.iload X21.here hx rfl (hb hby at_128) rfl k) ?_
    refine own_go (U' := T21.setTop (mkF m 133 #[.val (.int p1), .val (.int p2), .val (.int p3), .val (.int d1), .val (.int d2), .val (.int v2), .val (.ref b1), .val (.ref b3), .val (.ref b15), .val (.ref b17), .val (.int (if (own_key d1 p1) = (own_key d2 v2) then (1 : Int32) else (0 : Int32)))] [])) (fun t k => XS.icmpNo X21.here hx rfl (hb hby at_130) rfl (teq (own_p1 hb1 hb2)).2 k) ?_
    refine own_go (U' := T21.setTop (mkF m 135 #[.val (.int p1), .val (.int p2), .val (.int p3), .val (.int d1), .val (.int d2), .val (.int v2), .val (.ref b1), .val (.ref b3), .val (.ref b15), .val (.ref b17), .val (.int (if (own_key d1 p1) = (own_key d2 v2) then (1 : Int32) else (0 : Int32)))] [(.ref b17)])) (fun t k => XS.aload X21.here hx rfl (hb hby at_133) rfl rfl k) ?_
    refine own_go (U' := T21.setTop (mkF m 137 #[.val (.int p1), .val (.int p2), .val (.int p3), .val (.int d1), .val (.int d2), .val (.int v2), .val (.ref b1), .val (.ref b3), .val (.ref b15), .val (.ref b17), .val (.int (if (own_key d1 p1) = (own_key d2 v2) then (1 : Int32) else (0 : Int32)))] [(.ref b15), (.ref b17)])) (fun t k => XS.aload X21.here hx rfl (hb hby at_135) rfl rfl k) ?_
    obtain ⟨v22, T22, h22, L22, e22, X22, hQ22, st22⟩ := own_callV X21 hx hZ (y := (⟨"com/example/keywright/keywright/Snapshot$Setting", "ranksWith", "(Lcom/example/keywright/keywright/Snapshot$Setting;)Z"⟩ : MethodName)) (z := (⟨"com/example/keywright/keywright/Snapshot$Setting", "ranksWith", "(Lcom/example/keywright/keywright/Snapshot$Setting;)Z"⟩ : MethodName)) hown (hw _ (List.mem_of_getElem? (i := 49) rfl)) (hw _ (List.mem_of_getElem? (i := 50) rfl)) (notFace_of_selects (args := #[]) (mvT hZ (hw _ (List.mem_of_getElem? (i := 52) rfl)))) (hw _ (List.mem_of_getElem? (i := 52) rfl)) (hw _ (List.mem_of_getElem? (i := 51) rfl)) (hw _ (List.mem_of_getElem? (i := 28) rfl)) (hw _ (List.mem_of_getElem? (i := 53) rfl)) (by decide) E_b17 (own_rmrw l Z a0 hw b17 b15 h18 d2 d1 v2 p1 F_deny_b17 F_deny_b15 F_width_b17 F_width_b15) (W := 0) (by decide) (by decide) (g := (mkF m 137 #[.val (.int p1), .val (.int p2), .val (.int p3), .val (.int d1), .val (.int d2), .val (.int v2), .val (.ref b1), .val (.ref b3), .val (.ref b15), .val (.ref b17), .val (.int (if (own_key d1 p1) = (own_key d2 v2) then (1 : Int32) else (0 : Int32)))] [(.ref b15), (.ref b17)])) rfl (by rw [hml]; rfl) (argsL := [(.ref b15)]) (rest := []) (lenOf own_pd8 rfl) rfl rfl (by show 2 * 0 + _ ≤ _; exact Nat.le_of_eq rfl) (hb hby at_137) e21 (by decide) (by decide)
    obtain ⟨rfl, rfl, eh22⟩ := hQ22
    have e22 := e22.trans eh22
    rw [List.append_nil] at X22
    refine own_go (U' := T22.setTop (mkF m 140 #[.val (.int p1), .val (.int p2), .val (.int p3), .val (.int d1), .val (.int d2), .val (.int v2), .val (.ref b1), .val (.ref b3), .val (.ref b15), .val (.ref b17), .val (.int (if (own_key d1 p1) = (own_key d2 v2) then (1 : Int32) else (0 : Int32)))] [(.int (own_rw d2 d1 v2 p1))])) st22 ?_
    refine own_go (U' := T22.setTop (mkF m 142 #[.val (.int p1), .val (.int p2), .val (.int p3), .val (.int d1), .val (.int d2), .val (.int v2), .val (.ref b1), .val (.ref b3), .val (.ref b15), .val (.ref b17), .val (.int (if (own_key d1 p1) = (own_key d2 v2) then (1 : Int32) else (0 : Int32)))] [(.int (if (own_key d1 p1) = (own_key d2 v2) then (1 : Int32) else (0 : Int32))), (.int (own_rw d2 d1 v2 p1))])) (fun t k => XS.iload X22.here hx rfl (hb hby at_140) rfl k) ?_
    refine own_go (U' := T22.setTop (mkF m 145 #[.val (.int p1), .val (.int p2), .val (.int p3), .val (.int d1), .val (.int d2), .val (.int v2), .val (.ref b1), .val (.ref b3), .val (.ref b15), .val (.ref b17), .val (.int (if (own_key d1 p1) = (own_key d2 v2) then (1 : Int32) else (0 : Int32)))] [])) (fun t k => XS.icmpNo X22.here hx rfl (hb hby at_142) rfl (teq (own_p2.trans (own_p1 hb1 hb2))).2 k) ?_
    refine own_go (U' := T22.setTop (mkF m 147 #[.val (.int p1), .val (.int p2), .val (.int p3), .val (.int d1), .val (.int d2), .val (.int v2), .val (.ref b1), .val (.ref b3), .val (.ref b15), .val (.ref b17), .val (.int (if (own_key d1 p1) = (own_key d2 v2) then (1 : Int32) else (0 : Int32)))] [(.ref b15)])) (fun t k => XS.aload X22.here hx rfl (hb hby at_145) rfl rfl k) ?_
    refine own_go (U' := T22.setTop (mkF m 149 #[.val (.int p1), .val (.int p2), .val (.int p3), .val (.int d1), .val (.int d2), .val (.int v2), .val (.ref b1), .val (.ref b3), .val (.ref b15), .val (.ref b17), .val (.int (if (own_key d1 p1) = (own_key d2 v2) then (1 : Int32) else (0 : Int32)))] [(.ref b15), (.ref b15)])) (fun t k => XS.aload X22.here hx rfl (hb hby at_147) rfl rfl k) ?_
    obtain ⟨v23, T23, h23, L23, e23, X23, hQ23, st23⟩ := own_callV X22 hx hZ (y := (⟨"com/example/keywright/keywright/Snapshot$Setting", "ranksWith", "(Lcom/example/keywright/keywright/Snapshot$Setting;)Z"⟩ : MethodName)) (z := (⟨"com/example/keywright/keywright/Snapshot$Setting", "ranksWith", "(Lcom/example/keywright/keywright/Snapshot$Setting;)Z"⟩ : MethodName)) hown (hw _ (List.mem_of_getElem? (i := 49) rfl)) (hw _ (List.mem_of_getElem? (i := 50) rfl)) (notFace_of_selects (args := #[]) (mvT hZ (hw _ (List.mem_of_getElem? (i := 52) rfl)))) (hw _ (List.mem_of_getElem? (i := 52) rfl)) (hw _ (List.mem_of_getElem? (i := 51) rfl)) (hw _ (List.mem_of_getElem? (i := 28) rfl)) (hw _ (List.mem_of_getElem? (i := 53) rfl)) (by decide) E_b15 (own_rmrw l Z a0 hw b15 b15 h18 d1 d1 p1 p1 F_deny_b15 F_deny_b15 F_width_b15 F_width_b15) (W := 0) (by decide) (by decide) (g := (mkF m 149 #[.val (.int p1), .val (.int p2), .val (.int p3), .val (.int d1), .val (.int d2), .val (.int v2), .val (.ref b1), .val (.ref b3), .val (.ref b15), .val (.ref b17), .val (.int (if (own_key d1 p1) = (own_key d2 v2) then (1 : Int32) else (0 : Int32)))] [(.ref b15), (.ref b15)])) rfl (by rw [hml]; rfl) (argsL := [(.ref b15)]) (rest := []) (lenOf own_pd8 rfl) rfl rfl (by show 2 * 0 + _ ≤ _; exact Nat.le_of_eq rfl) (hb hby at_149) e22 (by decide) (by decide)
    obtain ⟨rfl, rfl, eh23⟩ := hQ23
    have e23 := e23.trans eh23
    rw [List.append_nil] at X23
    refine own_go (U' := T23.setTop (mkF m 152 #[.val (.int p1), .val (.int p2), .val (.int p3), .val (.int d1), .val (.int d2), .val (.int v2), .val (.ref b1), .val (.ref b3), .val (.ref b15), .val (.ref b17), .val (.int (if (own_key d1 p1) = (own_key d2 v2) then (1 : Int32) else (0 : Int32)))] [(.int (own_rw d1 d1 p1 p1))])) st23 ?_
    refine own_go (U' := T23.setTop (mkF m 155 #[.val (.int p1), .val (.int p2), .val (.int p3), .val (.int d1), .val (.int d2), .val (.int v2), .val (.ref b1), .val (.ref b3), .val (.ref b15), .val (.ref b17), .val (.int (if (own_key d1 p1) = (own_key d2 v2) then (1 : Int32) else (0 : Int32)))] [])) (fun t k => XS.ifNo X23.here hx rfl (hb hby at_152) rfl ((if0 _ _).trans (feq own_p3).1) k) ?_
    refine own_go (U' := T23.setTop (mkF m 156 #[.val (.int p1), .val (.int p2), .val (.int p3), .val (.int d1), .val (.int d2), .val (.int v2), .val (.ref b1), .val (.ref b3), .val (.ref b15), .val (.ref b17), .val (.int (if (own_key d1 p1) = (own_key d2 v2) then (1 : Int32) else (0 : Int32)))] [(.int (1 : Int32))])) (fun t k => XS.iconst X23.here hx rfl (hb hby at_155) k) ?_
    refine own_go (U' := T23.setTop (mkF m 160 #[.val (.int p1), .val (.int p2), .val (.int p3), .val (.int d1), .val (.int d2), .val (.int v2), .val (.ref b1), .val (.ref b3), .val (.ref b15), .val (.ref b17), .val (.int (if (own_key d1 p1) = (own_key d2 v2) then (1 : Int32) else (0 : Int32)))] [(.int (1 : Int32))])) (fun t k => XS.goto X23.here hx rfl (pc0 := 156) (pc' := 160) rfl (hb hby at_156) (by decide) (by decide) k) ?_
    refine own_retN X23 hx (t := .boolean) hret (by simp) hlk (hb hby at_160) ?_ (by decide) (by decide)
    exact ⟨rfl, N18⟩
set_option maxRecDepth 65536 in
set_option maxHeartbeats 40000000 in
theorem comes_1 {Post : Tables → Env → Array Value → State → Outcome → State → Prop} (hpost : ∀ tb e args s v u, (limb_1_1.after args s (.returned v) u = true ∧ limb_1_2.after args s (.returned v) u = true) → FrameEnd s (.returned v) u (Jvm.fieldLocs frame_1_writes args s ++ Jvm.arrayLocs frame_1_arrays args s ++ Jvm.staticLocs frame_1_statics s) 24 128 → Post tb e args s (.returned v) u) :
    ArmFor flags0 classFile x code maxLocals ret World_1 tables_1 room_1 Calls_1 rest_1 Pre_1 Post := by
  intro l hfl _ _ p e ha hc hk s m args below hf hA hF happ hP
  obtain ⟨hcalls, hrest, hpre⟩ := hP
  obtain ⟨-, -, -, hnamed, -, -, -, hat⟩ := (Spec.applies_iff hf).mp happ
  obtain ⟨hg, hn⟩ := and_e (Cond.before_iff.mp (show (Jvm.Cond.and given_1 narrow_1).before args s = true from hpre))
  obtain ⟨hcount, r0⟩ := and_e hg
  obtain ⟨g0, r1⟩ := and_e r0
  obtain ⟨g1, g2⟩ := and_e r1
  obtain ⟨w0, w1, w2, rfl⟩ : ∃ w0 w1 w2 : Value, args = #[w0, w1, w2] := by
    have hs : args.size = 3 := by simpa [Cond.value, given_1] using hcount
    obtain ⟨L⟩ := args
    match L, hs with
    | [w0, w1, w2], _ => exact ⟨w0, w1, w2, rfl⟩
  have hw := fun d (hd : d ∈ tables_1) => atoms_spec (ws := Jvm.Cond.code x code maxLocals ret :: tables_1) hat d (List.mem_cons_of_mem _ hd)
  have hfit : Fit s := fun {y c} hc i hi => by
    obtain ⟨ha, rfl⟩ := Array.getElem?_eq_some_iff.mp hc
    have q := List.all_eq_true.mp ((Array.all_eq_true_iff_forall_mem.mp hF) _ (Array.getElem_mem ha)) i (List.mem_range.mpr hi)
    simpa [Array.getElem?_eq_getElem hi] using q
  obtain ⟨hsets, hown0⟩ := atoms_of _ (rest_1_c_eq ▸ (show rest_1_c.before _ s = true from hrest))
  have hr0 := Cond.before_iff.mp hown0
  obtain ⟨i0, ei0⟩ := is_v g0
  obtain rfl : w0 = (.int i0) := Option.some.inj ei0
  obtain ⟨i1, ei1⟩ := is_v g1
  obtain rfl : w1 = (.int i1) := Option.some.inj ei1
  obtain ⟨i2, ei2⟩ := is_v g2
  obtain rfl : w2 = (.int i2) := Option.some.inj ei2
  obtain ⟨dd, evdd⟩ := exa_v (Cond.before_iff.mp (hsets _ (List.mem_of_getElem? (i := 7) rfl)))
  have S_dd := Sta.start evdd (Or.inr ⟨hw _ (List.mem_of_getElem? (i := 2) rfl), hsets _ (List.mem_of_getElem? (i := 2) rfl)⟩)
  obtain ⟨cdd, A_dd, hcdd⟩ := own_len0 evdd (hsets _ (List.mem_of_getElem? (i := 6) rfl)) (hsets _ (List.mem_of_getElem? (i := 8) rfl))
  obtain ⟨n, o, h1, h2, h3, _, L, rfl, ⟨rfl, N⟩, hq⟩ := own_rm0 l s _ hw tables_1 i0 i1 i2 s.heap s.heap.size dd cdd (Old.start s) S_dd A_dd hcdd p e ha hc hk s m _ below hf ((Spec.applies_iff_loose hf).mp happ).1 ⟨rfl, State.Warmed39.refl s, rfl⟩ trivial
  refine ⟨n, _, h1, h2, h3, hpost _ _ _ _ _ _ ⟨Cond.after_iff.mpr rfl, Cond.after_iff.mpr (eq_i res_at (Term.int_eval (1)) rfl)⟩ ⟨hq.1, hq.2.1, (hq.2.2.sift fun y hy => Or.inr (N y hy)).mono (by decide) (by decide)⟩⟩
theorem main_1_1 : Claimed_1_1 := comes_1 fun _ _ _ _ _ _ h hF => ⟨h.1, hF⟩
theorem main_1_2 : Claimed_1_2 := comes_1 fun _ _ _ _ _ _ h hF => ⟨h.2, hF⟩
end Jvm.Pilot.@@N@@
namespace Jvm.Pilot.@@N@@
open Jvm Jvm.ClassFile Sem Op Lib Jvm.Free Jvm.Stand Jvm.Pilot.@@N@@.Jvm.D
/-! MADE BY PROGRAM (witnessworld.py) out of the Statement's table words and the real class files: 20 classes; the members and pool entries that the words name. The judged class is class 1, her method 2. -/
namespace start1
open Jvm.ClassFile
def u (s : String) : CpInfo := .utf8 (stringToUtf16 s)
/-- a pool by its gaps: so many unusable entries, then the entry; so many at the end -/
def gap : Nat → List CpInfo → List CpInfo
  | 0, r => r
  | n + 1, r => .unusable :: gap n r
def poolList (es : List (Nat × CpInfo)) (last : Nat) : List CpInfo := es.foldr (fun e r => gap e.1 (e.2 :: r)) (gap last [])
def pool (es : List (Nat × CpInfo)) (last : Nat) : Array CpInfo := ⟨poolList es last⟩
def fileOf (pool : Array CpInfo) (this : Nat) (attrs : Array Attribute := #[]) (ms : Array MethodInfo := #[]) (fl : Nat := 33) (sup : Nat := 0) (ifs : Array Nat := #[]) (fds : Array FieldInfo := #[]) : ClassFile where
  minorVersion := 0
  majorVersion := 65
  constantPool := pool
  accessFlags := fl
  thisClass := this
  superClass := sup
  interfaces := ifs
  fields := fds
  methods := ms
  attributes := attrs
def plain (name : String) (sup : Option ClassId) : Class where
  name := name
  kind := .ordinary
  loader := none
  accessFlags := 33
  super := sup
  interfaces := #[]
  cf := none
  fields := #[]
  methods := #[]
  instanceTypes := #[]
  staticTypes := #[]
  resolved := #[]
  callSites := []
  init := .initialized
  statics := none
  mirror := none

def pool0 : Array CpInfo := pool [(5, u "<init>"), (0, u "()V"), (1, .class_ 10), (1, u "java/lang/Object")] 113

def k0c0 : Code := { maxStack := 0, maxLocals := 1, code := object_method_1_code, exceptionTable := #[], attributes := #[] }
def k0m0 : Method := { name := "<init>", desc := "()V", sig := { parameters := [], returnType := none }, accessFlags := 1, code := some k0c0 }
/-- java/lang/Object -/
def k0 : Class := { plain "java/lang/Object" none with
  accessFlags := 33
  interfaces := #[]
  cf := some (fileOf pool0 8 #[] #[{ accessFlags := 1, nameIndex := 5, descriptorIndex := 6, attributes := #[] }] 33 0 #[] #[])
  fields := #[]
  methods := #[k0m0]
  instanceTypes := #[]
  staticTypes := #[]
  resolved := Array.replicate 124 none
  statics := none }

def pool1 : Array CpInfo := pool [(2, .class_ 4), (0, .nameAndType 5 6), (0, u "java/lang/Object"), (0, u "<init>"), (0, u "()V"), (0, .long 2), (1, .class_ 10), (0, u "java/util/ArrayList"), (0, .methodref 9 3), (0, .methodref 9 13), (0, .nameAndType 14 15), (0, u "add"), (0, u "(Ljava/lang/Object;)Z"), (0, .class_ 17), (0, u "com/example/keywright/keywright/Snapshot$Setting"), (0, .methodref 16 19), (0, .nameAndType 5 20), (0, u "(ZILjava/util/List;)V"), (0, .methodref 22 23), (0, .class_ 24), (0, .nameAndType 25 26), (0, u "com/example/keywright/keywright/SettingRanksWithPinLaw"), (0, u "key"), (0, u "(ZI)J"), (0, .methodref 16 28), (0, .nameAndType 29 30), (0, u "ranksWith"), (0, u "(Lcom/example/keywright/keywright/Snapshot$Setting;)Z"), (3, u "law"), (0, u "(III)Z")] 6

def k1m0 : Method := { name := "<init>", desc := "()V", sig := { parameters := [], returnType := none }, accessFlags := 2, code := none }
def k1c1 : Code := { maxStack := 4, maxLocals := 2, code := method_2_code, exceptionTable := #[], attributes := #[] }
def k1m1 : Method := { name := "key", desc := "(ZI)J", sig := { parameters := [.boolean, .int], returnType := some .long }, accessFlags := 10, code := some k1c1 }
def k1c2 : Code := { maxStack := 5, maxLocals := 11, code := code, exceptionTable := #[], attributes := #[] }
def k1m2 : Method := { name := "law", desc := "(III)Z", sig := { parameters := [.int, .int, .int], returnType := some .boolean }, accessFlags := 9, code := some k1c2 }
/-- com/example/keywright/keywright/SettingRanksWithPinLaw -/
def k1 : Class := { plain "com/example/keywright/keywright/SettingRanksWithPinLaw" (some 0) with
  accessFlags := 49
  interfaces := #[]
  cf := some (fileOf pool1 22 #[] #[{ accessFlags := 2, nameIndex := 5, descriptorIndex := 6, attributes := #[] }, { accessFlags := 10, nameIndex := 25, descriptorIndex := 26, attributes := #[] }, { accessFlags := 9, nameIndex := 34, descriptorIndex := 35, attributes := #[] }] 49 2 #[] #[])
  fields := #[]
  methods := #[k1m0, k1m1, k1m2]
  instanceTypes := #[]
  staticTypes := #[]
  resolved := Array.replicate 42 none
  statics := none }

def pool2 : Array CpInfo := pool [(8, .class_ 10), (1, u "java/lang/Iterable"), (24, .class_ 36), (0, u "java/lang/Object")] 25

/-- java/lang/Iterable -/
def k2 : Class := { plain "java/lang/Iterable" (some 0) with
  accessFlags := 1537
  interfaces := #[]
  cf := some (fileOf pool2 8 #[] #[] 1537 35 #[] #[])
  fields := #[]
  methods := #[]
  instanceTypes := #[]
  staticTypes := #[]
  resolved := Array.replicate 62 none
  statics := none }

def pool3 : Array CpInfo := pool [(10, .class_ 12), (1, u "java/util/Collection"), (47, .class_ 61), (0, u "java/lang/Object"), (0, .class_ 63), (0, u "java/lang/Iterable")] 51

/-- java/util/Collection -/
def k3 : Class := { plain "java/util/Collection" (some 0) with
  accessFlags := 1537
  interfaces := #[2]
  cf := some (fileOf pool3 10 #[] #[] 1537 60 #[62] #[])
  fields := #[]
  methods := #[]
  instanceTypes := #[]
  staticTypes := #[]
  resolved := Array.replicate 115 none
  statics := none }

def pool4 : Array CpInfo := pool [(1, .methodref 2 3), (0, .class_ 4), (0, .nameAndType 5 6), (0, u "java/lang/Object"), (0, u "<init>"), (0, u "()V"), (1, .class_ 10), (1, u "java/util/AbstractCollection"), (66, .class_ 78), (0, u "java/util/Collection")] 81

def k4c0 : Code := { maxStack := 1, maxLocals := 1, code := jdk_22_method_1_code, exceptionTable := #[], attributes := #[] }
def k4m0 : Method := { name := "<init>", desc := "()V", sig := { parameters := [], returnType := none }, accessFlags := 4, code := some k4c0 }
/-- java/util/AbstractCollection -/
def k4 : Class := { plain "java/util/AbstractCollection" (some 0) with
  accessFlags := 1057
  interfaces := #[3]
  cf := some (fileOf pool4 8 #[] #[{ accessFlags := 4, nameIndex := 5, descriptorIndex := 6, attributes := #[] }] 1057 2 #[77] #[])
  fields := #[]
  methods := #[k4m0]
  instanceTypes := #[]
  staticTypes := #[]
  resolved := Array.replicate 160 none
  statics := none }

def pool5 : Array CpInfo := pool [(8, .class_ 10), (1, u "java/util/SequencedCollection"), (15, .class_ 27), (0, u "java/lang/Object"), (0, .class_ 29), (0, u "java/util/Collection")] 27

/-- java/util/SequencedCollection -/
def k5 : Class := { plain "java/util/SequencedCollection" (some 0) with
  accessFlags := 1537
  interfaces := #[3]
  cf := some (fileOf pool5 8 #[] #[] 1537 26 #[28] #[])
  fields := #[]
  methods := #[]
  instanceTypes := #[]
  staticTypes := #[]
  resolved := Array.replicate 57 none
  statics := none }

def pool6 : Array CpInfo := pool [(8, .class_ 10), (1, u "java/util/List"), (92, .class_ 104), (0, u "java/lang/Object"), (15, .class_ 121), (0, u "java/util/SequencedCollection")] 129

/-- java/util/List -/
def k6 : Class := { plain "java/util/List" (some 0) with
  accessFlags := 1537
  interfaces := #[5]
  cf := some (fileOf pool6 8 #[] #[] 1537 103 #[120] #[])
  fields := #[]
  methods := #[]
  instanceTypes := #[]
  staticTypes := #[]
  resolved := Array.replicate 251 none
  statics := none }

def pool7 : Array CpInfo := pool [(1, .methodref 2 3), (0, .class_ 4), (0, .nameAndType 5 6), (0, u "java/util/AbstractCollection"), (0, u "<init>"), (0, u "()V"), (0, .fieldref 8 9), (0, .class_ 10), (0, .nameAndType 11 12), (0, u "java/util/AbstractList"), (0, u "modCount"), (0, u "I"), (64, .class_ 78), (0, u "java/util/AbstractList$Itr"), (3, .class_ 83), (0, u "java/util/AbstractList$ListItr"), (9, .class_ 94), (0, u "java/util/AbstractList$RandomAccessSubList"), (3, .class_ 99), (0, u "java/util/AbstractList$SubList"), (33, .class_ 134), (0, u "java/util/List"), (73, .class_ 209), (0, u "java/util/AbstractList$SubList$1"), (0, .class_ 211), (0, u "java/util/AbstractList$RandomAccessSpliterator")] 6

def k7c0 : Code := { maxStack := 2, maxLocals := 1, code := jdk_39_method_1_code, exceptionTable := #[], attributes := #[] }
def k7m0 : Method := { name := "<init>", desc := "()V", sig := { parameters := [], returnType := none }, accessFlags := 4, code := some k7c0 }
/-- java/util/AbstractList -/
def k7 : Class := { plain "java/util/AbstractList" (some 4) with
  accessFlags := 1057
  interfaces := #[6]
  cf := some (fileOf pool7 8 #[.nestMembers #[93, 98, 208, 210, 82, 77]] #[{ accessFlags := 4, nameIndex := 5, descriptorIndex := 6, attributes := #[] }] 1057 2 #[133] #[{ accessFlags := 132, nameIndex := 11, descriptorIndex := 12, attributes := #[] }])
  fields := #[{ name := "modCount", type := .int, accessFlags := 132, slot := 0, constantValue := 0 }]
  methods := #[k7m0]
  instanceTypes := #[.int]
  staticTypes := #[]
  resolved := Array.replicate 218 none
  statics := none }

def pool8 : Array CpInfo := pool [(1, .class_ 2), (0, u "java/util/RandomAccess"), (0, .class_ 4), (0, u "java/lang/Object")] 2

/-- java/util/RandomAccess -/
def k8 : Class := { plain "java/util/RandomAccess" (some 0) with
  accessFlags := 1537
  interfaces := #[]
  cf := some (fileOf pool8 1 #[] #[] 1537 3 #[] #[])
  fields := #[]
  methods := #[]
  instanceTypes := #[]
  staticTypes := #[]
  resolved := Array.replicate 7 none
  statics := none }

def pool9 : Array CpInfo := pool [(1, .class_ 2), (0, u "java/lang/Cloneable"), (0, .class_ 4), (0, u "java/lang/Object")] 2

/-- java/lang/Cloneable -/
def k9 : Class := { plain "java/lang/Cloneable" (some 0) with
  accessFlags := 1537
  interfaces := #[]
  cf := some (fileOf pool9 1 #[] #[] 1537 3 #[] #[])
  fields := #[]
  methods := #[]
  instanceTypes := #[]
  staticTypes := #[]
  resolved := Array.replicate 7 none
  statics := none }

def pool10 : Array CpInfo := pool [(1, .class_ 2), (0, u "java/io/Serializable"), (0, .class_ 4), (0, u "java/lang/Object")] 2

/-- java/io/Serializable -/
def k10 : Class := { plain "java/io/Serializable" (some 0) with
  accessFlags := 1537
  interfaces := #[]
  cf := some (fileOf pool10 1 #[] #[] 1537 3 #[] #[])
  fields := #[]
  methods := #[]
  instanceTypes := #[]
  staticTypes := #[]
  resolved := Array.replicate 7 none
  statics := none }

def pool11 : Array CpInfo := pool [(1, .methodref 2 3), (0, .class_ 4), (0, .nameAndType 5 6), (0, u "java/util/AbstractList"), (0, u "<init>"), (0, u "()V"), (0, .class_ 8), (0, u "java/lang/Object"), (0, .fieldref 10 11), (0, .class_ 12), (0, .nameAndType 13 14), (0, u "java/util/ArrayList"), (0, u "elementData"), (0, u "[Ljava/lang/Object;"), (2, u "EMPTY_ELEMENTDATA"), (21, .fieldref 10 40), (0, .nameAndType 41 14), (0, u "DEFAULTCAPACITY_EMPTY_ELEMENTDATA"), (5, u "()[Ljava/lang/Object;"), (0, .fieldref 10 49), (0, .nameAndType 50 51), (0, u "size"), (0, u "I"), (11, .fieldref 10 64), (0, .nameAndType 65 51), (0, u "modCount"), (3, .methodref 10 70), (0, .nameAndType 71 72), (0, u "grow"), (0, u "(I)[Ljava/lang/Object;"), (6, .methodref 80 81), (0, .class_ 82), (0, .nameAndType 83 84), (0, u "java/lang/Math"), (0, u "max"), (0, u "(II)I"), (11, u "(Ljava/lang/Object;)Z"), (32, .methodref 10 130), (0, .nameAndType 71 47), (0, .methodref 10 132), (0, .nameAndType 133 134), (0, u "add"), (0, u "(Ljava/lang/Object;[Ljava/lang/Object;I)V"), (13, .class_ 149), (0, u "java/util/List"), (112, .class_ 263), (0, u "java/util/ArrayList$ListItr"), (3, .class_ 268), (0, u "java/util/ArrayList$Itr"), (7, .class_ 277), (0, u "java/util/ArrayList$SubList"), (12, .class_ 291), (0, u "java/util/ArrayList$ArrayListSpliterator"), (37, .class_ 330), (0, u "java/util/RandomAccess"), (0, .class_ 332), (0, u "java/lang/Cloneable"), (0, .class_ 334), (0, u "java/io/Serializable"), (0, u "serialVersionUID"), (0, u "J"), (3, u "DEFAULT_CAPACITY"), (159, .class_ 501), (0, u "java/util/ArrayList$SubList$2"), (0, .class_ 503), (0, u "java/util/ArrayList$SubList$1")] 5

def k11c0 : Code := { maxStack := 2, maxLocals := 1, code := jdk_38_method_2_code, exceptionTable := #[], attributes := #[] }
def k11m0 : Method := { name := "<init>", desc := "()V", sig := { parameters := [], returnType := none }, accessFlags := 1, code := some k11c0 }
def k11c1 : Code := { maxStack := 4, maxLocals := 4, code := jdk_38_method_6_code, exceptionTable := #[], attributes := #[] }
def k11m1 : Method := { name := "grow", desc := "(I)[Ljava/lang/Object;", sig := { parameters := [.int], returnType := some (.array (.object "java/lang/Object")) }, accessFlags := 2, code := some k11c1 }
def k11c2 : Code := { maxStack := 3, maxLocals := 1, code := jdk_38_method_7_code, exceptionTable := #[], attributes := #[] }
def k11m2 : Method := { name := "grow", desc := "()[Ljava/lang/Object;", sig := { parameters := [], returnType := some (.array (.object "java/lang/Object")) }, accessFlags := 2, code := some k11c2 }
def k11c3 : Code := { maxStack := 3, maxLocals := 4, code := jdk_38_method_24_code, exceptionTable := #[], attributes := #[] }
def k11m3 : Method := { name := "add", desc := "(Ljava/lang/Object;[Ljava/lang/Object;I)V", sig := { parameters := [(.object "java/lang/Object"), (.array (.object "java/lang/Object")), .int], returnType := none }, accessFlags := 2, code := some k11c3 }
def k11c4 : Code := { maxStack := 4, maxLocals := 2, code := jdk_38_method_25_code, exceptionTable := #[], attributes := #[] }
def k11m4 : Method := { name := "add", desc := "(Ljava/lang/Object;)Z", sig := { parameters := [(.object "java/lang/Object")], returnType := some .boolean }, accessFlags := 1, code := some k11c4 }
/-- java/util/ArrayList -/
def k11 : Class := { plain "java/util/ArrayList" (some 7) with
  accessFlags := 33
  interfaces := #[6, 8, 9, 10]
  cf := some (fileOf pool11 10 #[.nestMembers #[290, 276, 500, 502, 262, 267]] #[{ accessFlags := 1, nameIndex := 5, descriptorIndex := 6, attributes := #[] }, { accessFlags := 2, nameIndex := 71, descriptorIndex := 72, attributes := #[] }, { accessFlags := 2, nameIndex := 71, descriptorIndex := 47, attributes := #[] }, { accessFlags := 2, nameIndex := 133, descriptorIndex := 134, attributes := #[] }, { accessFlags := 1, nameIndex := 133, descriptorIndex := 96, attributes := #[] }] 33 2 #[148, 329, 331, 333] #[{ accessFlags := 26, nameIndex := 335, descriptorIndex := 336, attributes := #[] }, { accessFlags := 26, nameIndex := 340, descriptorIndex := 51, attributes := #[] }, { accessFlags := 26, nameIndex := 17, descriptorIndex := 14, attributes := #[] }, { accessFlags := 26, nameIndex := 41, descriptorIndex := 14, attributes := #[] }, { accessFlags := 128, nameIndex := 13, descriptorIndex := 14, attributes := #[] }, { accessFlags := 2, nameIndex := 50, descriptorIndex := 51, attributes := #[] }])
  fields := #[{ name := "serialVersionUID", type := .long, accessFlags := 26, slot := 0, constantValue := 0 }, { name := "DEFAULT_CAPACITY", type := .int, accessFlags := 26, slot := 1, constantValue := 0 }, { name := "EMPTY_ELEMENTDATA", type := (.array (.object "java/lang/Object")), accessFlags := 26, slot := 2, constantValue := 0 }, { name := "DEFAULTCAPACITY_EMPTY_ELEMENTDATA", type := (.array (.object "java/lang/Object")), accessFlags := 26, slot := 3, constantValue := 0 }, { name := "elementData", type := (.array (.object "java/lang/Object")), accessFlags := 128, slot := 1, constantValue := 0 }, { name := "size", type := .int, accessFlags := 2, slot := 2, constantValue := 0 }]
  methods := #[k11m0, k11m1, k11m2, k11m3, k11m4]
  instanceTypes := #[.int, (.array (.object "java/lang/Object")), .int]
  staticTypes := #[.long, .int, (.array (.object "java/lang/Object")), (.array (.object "java/lang/Object"))]
  resolved := Array.replicate 509 none
  statics := some 0 }

def pool12 : Array CpInfo := pool [(1, .methodref 2 3), (0, .class_ 4), (0, .nameAndType 5 6), (0, u "java/lang/Object"), (0, u "<init>"), (0, u "()V"), (0, .class_ 8), (0, u "java/lang/Record")] 13

def k12c0 : Code := { maxStack := 1, maxLocals := 1, code := jdk_30_method_1_code, exceptionTable := #[], attributes := #[] }
def k12m0 : Method := { name := "<init>", desc := "()V", sig := { parameters := [], returnType := none }, accessFlags := 4, code := some k12c0 }
/-- java/lang/Record -/
def k12 : Class := { plain "java/lang/Record" (some 0) with
  accessFlags := 1057
  interfaces := #[]
  cf := some (fileOf pool12 7 #[] #[{ accessFlags := 4, nameIndex := 5, descriptorIndex := 6, attributes := #[] }] 1057 2 #[] #[])
  fields := #[]
  methods := #[k12m0]
  instanceTypes := #[]
  staticTypes := #[]
  resolved := Array.replicate 22 none
  statics := none }

def pool13 : Array CpInfo := pool [(1, .methodref 2 3), (0, .class_ 4), (0, .nameAndType 5 6), (0, u "java/lang/Record"), (0, u "<init>"), (0, u "()V"), (0, .fieldref 8 9), (0, .class_ 10), (0, .nameAndType 11 12), (0, u "com/example/keywright/keywright/Snapshot$Setting"), (0, u "deny"), (0, u "Z"), (0, .fieldref 8 14), (0, .nameAndType 15 16), (0, u "width"), (0, u "I"), (0, .fieldref 8 18), (0, .nameAndType 19 20), (0, u "lines"), (0, u "Ljava/util/List;"), (2, u "ranksWith"), (0, u "(Lcom/example/keywright/keywright/Snapshot$Setting;)Z"), (17, u "(ZILjava/util/List;)V"), (14, u "NAMED"), (17, .class_ 76), (0, u "com/example/keywright/keywright/Snapshot")] 26

def k13c0 : Code := { maxStack := 2, maxLocals := 4, code := prog_29_method_1_code, exceptionTable := #[], attributes := #[] }
def k13m0 : Method := { name := "<init>", desc := "(ZILjava/util/List;)V", sig := { parameters := [.boolean, .int, (.object "java/util/List")], returnType := none }, accessFlags := 0, code := some k13c0 }
def k13c1 : Code := { maxStack := 2, maxLocals := 2, code := prog_29_method_4_code, exceptionTable := #[], attributes := #[] }
def k13m1 : Method := { name := "ranksWith", desc := "(Lcom/example/keywright/keywright/Snapshot$Setting;)Z", sig := { parameters := [(.object "com/example/keywright/keywright/Snapshot$Setting")], returnType := some .boolean }, accessFlags := 0, code := some k13c1 }
/-- com/example/keywright/keywright/Snapshot$Setting -/
def k13 : Class := { plain "com/example/keywright/keywright/Snapshot$Setting" (some 12) with
  accessFlags := 48
  interfaces := #[]
  cf := some (fileOf pool13 8 #[.nestHost 75] #[{ accessFlags := 0, nameIndex := 5, descriptorIndex := 42, attributes := #[] }, { accessFlags := 0, nameIndex := 23, descriptorIndex := 24, attributes := #[] }] 48 2 #[] #[{ accessFlags := 18, nameIndex := 11, descriptorIndex := 12, attributes := #[] }, { accessFlags := 18, nameIndex := 15, descriptorIndex := 16, attributes := #[] }, { accessFlags := 18, nameIndex := 19, descriptorIndex := 20, attributes := #[] }, { accessFlags := 24, nameIndex := 57, descriptorIndex := 16, attributes := #[] }])
  fields := #[{ name := "deny", type := .boolean, accessFlags := 18, slot := 0, constantValue := 0 }, { name := "width", type := .int, accessFlags := 18, slot := 1, constantValue := 0 }, { name := "lines", type := (.object "java/util/List"), accessFlags := 18, slot := 2, constantValue := 0 }, { name := "NAMED", type := .int, accessFlags := 24, slot := 0, constantValue := 0 }]
  methods := #[k13m0, k13m1]
  instanceTypes := #[.boolean, .int, (.object "java/util/List")]
  staticTypes := #[.int]
  resolved := Array.replicate 103 none
  statics := none }

def pool14 : Array CpInfo := pool [(1, .class_ 2), (0, u "java/lang/Math"), (1, .class_ 6), (1, u "java/lang/Object"), (0, u "<init>"), (0, u "()V"), (89, .class_ 100), (1, u "java/lang/Math$RandomNumberGeneratorHolder"), (71, u "negativeZeroFloatBits"), (0, u "J"), (2, u "negativeZeroDoubleBits"), (21, u "max"), (46, u "$assertionsDisabled"), (0, u "Z"), (88, u "(II)I"), (2, u "twoToTheDoubleScaleDown"), (0, u "D"), (4, u "twoToTheDoubleScaleUp"), (9, u "E"), (3, u "PI"), (2, u "TAU"), (2, u "DEGREES_TO_RADIANS"), (0, u "RADIANS_TO_DEGREES")] 94

def k14m0 : Method := { name := "<init>", desc := "()V", sig := { parameters := [], returnType := none }, accessFlags := 2, code := none }
def k14c1 : Code := { maxStack := 2, maxLocals := 2, code := jdk_29_method_65_code, exceptionTable := #[], attributes := #[] }
def k14m1 : Method := { name := "max", desc := "(II)I", sig := { parameters := [.int, .int], returnType := some .int }, accessFlags := 9, code := some k14c1 }
/-- java/lang/Math -/
def k14 : Class := { plain "java/lang/Math" (some 0) with
  accessFlags := 49
  interfaces := #[]
  cf := some (fileOf pool14 1 #[.nestMembers #[98]] #[{ accessFlags := 2, nameIndex := 7, descriptorIndex := 8, attributes := #[] }, { accessFlags := 9, nameIndex := 198, descriptorIndex := 335, attributes := #[] }] 49 4 #[] #[{ accessFlags := 25, nameIndex := 354, descriptorIndex := 339, attributes := #[] }, { accessFlags := 25, nameIndex := 358, descriptorIndex := 339, attributes := #[] }, { accessFlags := 25, nameIndex := 361, descriptorIndex := 339, attributes := #[] }, { accessFlags := 26, nameIndex := 364, descriptorIndex := 339, attributes := #[] }, { accessFlags := 26, nameIndex := 365, descriptorIndex := 339, attributes := #[] }, { accessFlags := 26, nameIndex := 172, descriptorIndex := 173, attributes := #[] }, { accessFlags := 26, nameIndex := 176, descriptorIndex := 173, attributes := #[] }, { accessFlags := 8, nameIndex := 344, descriptorIndex := 339, attributes := #[] }, { accessFlags := 8, nameIndex := 338, descriptorIndex := 339, attributes := #[] }, { accessFlags := 4120, nameIndex := 245, descriptorIndex := 246, attributes := #[] }])
  fields := #[{ name := "E", type := .double, accessFlags := 25, slot := 0, constantValue := 0 }, { name := "PI", type := .double, accessFlags := 25, slot := 1, constantValue := 0 }, { name := "TAU", type := .double, accessFlags := 25, slot := 2, constantValue := 0 }, { name := "DEGREES_TO_RADIANS", type := .double, accessFlags := 26, slot := 3, constantValue := 0 }, { name := "RADIANS_TO_DEGREES", type := .double, accessFlags := 26, slot := 4, constantValue := 0 }, { name := "negativeZeroFloatBits", type := .long, accessFlags := 26, slot := 5, constantValue := 0 }, { name := "negativeZeroDoubleBits", type := .long, accessFlags := 26, slot := 6, constantValue := 0 }, { name := "twoToTheDoubleScaleUp", type := .double, accessFlags := 8, slot := 7, constantValue := 0 }, { name := "twoToTheDoubleScaleDown", type := .double, accessFlags := 8, slot := 8, constantValue := 0 }, { name := "$assertionsDisabled", type := .boolean, accessFlags := 4120, slot := 9, constantValue := 0 }]
  methods := #[k14m0, k14m1]
  instanceTypes := #[]
  staticTypes := #[.double, .double, .double, .double, .double, .long, .long, .double, .double, .boolean]
  resolved := Array.replicate 460 none
  statics := none }

/-- the primitive byte -/
def k15 : Class := { plain "byte" none with kind := .primitive 'B', accessFlags := 0x411 }
/-- [B -/
def k16 : Class := { plain "[B" (some 0) with kind := .array 15 .byte, interfaces := #[9, 10], accessFlags := 1041 }

/-- the primitive int -/
def k17 : Class := { plain "int" none with kind := .primitive 'I', accessFlags := 0x411 }
/-- [I -/
def k18 : Class := { plain "[I" (some 0) with kind := .array 17 .int, interfaces := #[9, 10], accessFlags := 1041 }

/-- [Ljava/lang/Object; -/
def k19 : Class := { plain "[Ljava/lang/Object;" (some 0) with kind := .array 0 (.object "java/lang/Object"), interfaces := #[9, 10], accessFlags := 1041 }

def heap : Heap := #[{ cls := 11, slots := #[.long 0, .int 0, .ref 1, .ref 2], vm := .statics 11 },
  { cls := 19, slots := #[], vm := .none },
  { cls := 19, slots := #[], vm := .none }]
def classes : Array Class := #[k0, k1, k2, k3, k4, k5, k6, k7, k8, k9, k10, k11, k12, k13, k14, k15, k16, k17, k18, k19]
def interned : List (Array UInt16 × Addr) := []
def slotsUsed : Nat := 4
def theMethod : MethodId := ⟨1, 2⟩
def args0 : Array Value := #[.int 5, .int 7, .int 11]
def aboutOver (below : List Frame) : State where
  vm := { classes := classes, interned := interned.toArray }
  heap := heap
  slotsUsed := slotsUsed
  threads := #[{ frames := .invoking theMethod args0 :: below }]
def below0 : List Frame := [.native { method := ⟨0, 0⟩, args := #[] }]
def about1 : State := aboutOver below0
def p0 : Program := .bare "" "" ""
def e0 : Env := launch0.env 0 0 0
theorem w_frames : about1.frames = Frame.invoking theMethod args0 :: below0 := rfl
set_option maxRecDepth 65536 in
theorem w_args : argsFit about1.vm theMethod args0 = true := by decide +kernel
set_option maxRecDepth 65536 in
theorem w_heap : heapFits about1 = true := by decide +kernel
set_option maxRecDepth 65536 in
theorem w_runnable : about1.curStatus? = some .runnable := by decide +kernel
set_option maxRecDepth 65536 in
theorem w_alone : about1.alone = true := by decide +kernel
set_option maxRecDepth 65536 in
theorem w_named : about1.methodNamed? x = some theMethod := by decide +kernel
set_option maxRecDepth 65536 in
theorem w_hears : about1.hears theMethod below0 = true := by decide +kernel
set_option maxRecDepth 65536 in
theorem w_ripe : about1.ripe theMethod args0 below0 = true := by decide +kernel
theorem w_running : about1.status = .running := rfl
set_option maxRecDepth 65536 in
theorem w_room : about1.hasRoom e0.platform room_1 = true :=
  launch0.hasRoom_least _ room_1 (by decide +kernel) (by decide +kernel) (by decide +kernel) (by decide +kernel) (by decide +kernel) (by decide +kernel)
theorem allAtoms_all (ts : List Jvm.Cond) (a : Array Jvm.Value) (st : Jvm.State) : (allAtoms ts).before a st = ts.all (fun c => c.before a st) := by
  induction ts with
  | nil => rfl
  | cons c t ih =>
    show (Jvm.Cond.and c (allAtoms t)).before a st = _
    rw [Jvm.Cond.before_and, ih, List.all_cons]
def words1 : List Jvm.Cond := Jvm.Cond.code x code maxLocals ret :: tables_1
/-- a 'code' word, met by the world's own term for the bytes: nothing is compared byte by byte -/
theorem code_word {y : MethodName} {bytes : ByteArray} {mx : Nat} {rt : Option FieldType} {a : Array Value} {s : State} {m : MethodId} {meth : Method} {c : Code} (h1 : s.methodNamed? y = some m) (h2 : s.vm.method? m = some meth) (h3 : meth.code = some c) (h4 : c.code = bytes)
    (h5 : (c.maxLocals == mx && c.exceptionTable.isEmpty && decide (c.maxStack ≤ mostOperands) && decide (meth.sig.returnType = rt) && !meth.locks && decide (parseMethodDescriptor y.desc = some meth.sig)) = true) : (Jvm.Cond.code y bytes mx rt).before a s = true := by
  simp only [Bool.and_eq_true, beq_iff_eq, Bool.not_eq_true', decide_eq_true_eq] at h5
  obtain ⟨⟨⟨⟨⟨g1, g2⟩, g3⟩, g4⟩, g5⟩, g6⟩ := h5
  simp [Cond.before, Cond.holds, Cond.value, h1, h2, h3, h4, g1, g2, g3, g4, g5, g6]
def isCode : Jvm.Cond → Bool
  | .code _ _ _ _ => true
  | _ => false
theorem all_split {L : List Jvm.Cond} {P : Jvm.Cond → Bool} (h1 : L.all (fun c => isCode c || P c) = true) (h2 : ∀ c ∈ L.filter isCode, P c = true) : L.all P = true := by
  refine List.all_eq_true.mpr fun c hc => ?_
  have h := List.all_eq_true.mp h1 c hc
  rcases Bool.eq_false_or_eq_true (isCode c) with hi | hi
  · exact h2 c (List.mem_filter.mpr ⟨hc, hi⟩)
  · simpa [hi] using h
set_option maxRecDepth 65536 in
theorem w_c0 : (Jvm.Cond.code x code maxLocals ret).before args0 about1 = true := code_word (m := ⟨1, 2⟩) (meth := k1m2) (c := k1c2) (by decide +kernel) rfl rfl rfl (by decide +kernel)
set_option maxRecDepth 65536 in
theorem w_c1 : (Jvm.Cond.code ({ cls := "java/util/ArrayList", name := "<init>", desc := "()V" } : Jvm.MethodName) jdk_38_method_2_code (1 : Nat) (Option.none : Option Jvm.ClassFile.FieldType)).before args0 about1 = true := code_word (m := ⟨11, 0⟩) (meth := k11m0) (c := k11c0) (by decide +kernel) rfl rfl rfl (by decide +kernel)
set_option maxRecDepth 65536 in
theorem w_c2 : (Jvm.Cond.code ({ cls := "java/util/AbstractList", name := "<init>", desc := "()V" } : Jvm.MethodName) jdk_39_method_1_code (1 : Nat) (Option.none : Option Jvm.ClassFile.FieldType)).before args0 about1 = true := code_word (m := ⟨7, 0⟩) (meth := k7m0) (c := k7c0) (by decide +kernel) rfl rfl rfl (by decide +kernel)
set_option maxRecDepth 65536 in
theorem w_c3 : (Jvm.Cond.code ({ cls := "java/util/AbstractCollection", name := "<init>", desc := "()V" } : Jvm.MethodName) jdk_22_method_1_code (1 : Nat) (Option.none : Option Jvm.ClassFile.FieldType)).before args0 about1 = true := code_word (m := ⟨4, 0⟩) (meth := k4m0) (c := k4c0) (by decide +kernel) rfl rfl rfl (by decide +kernel)
set_option maxRecDepth 65536 in
theorem w_c4 : (Jvm.Cond.code ({ cls := "java/lang/Object", name := "<init>", desc := "()V" } : Jvm.MethodName) object_method_1_code (1 : Nat) (Option.none : Option Jvm.ClassFile.FieldType)).before args0 about1 = true := code_word (m := ⟨0, 0⟩) (meth := k0m0) (c := k0c0) (by decide +kernel) rfl rfl rfl (by decide +kernel)
set_option maxRecDepth 65536 in
theorem w_c5 : (Jvm.Cond.code ({ cls := "com/example/keywright/keywright/Snapshot$Setting", name := "<init>", desc := "(ZILjava/util/List;)V" } : Jvm.MethodName) prog_29_method_1_code (4 : Nat) (Option.none : Option Jvm.ClassFile.FieldType)).before args0 about1 = true := code_word (m := ⟨13, 0⟩) (meth := k13m0) (c := k13c0) (by decide +kernel) rfl rfl rfl (by decide +kernel)
set_option maxRecDepth 65536 in
theorem w_c6 : (Jvm.Cond.code ({ cls := "java/lang/Record", name := "<init>", desc := "()V" } : Jvm.MethodName) jdk_30_method_1_code (1 : Nat) (Option.none : Option Jvm.ClassFile.FieldType)).before args0 about1 = true := code_word (m := ⟨12, 0⟩) (meth := k12m0) (c := k12c0) (by decide +kernel) rfl rfl rfl (by decide +kernel)
set_option maxRecDepth 65536 in
theorem w_c7 : (Jvm.Cond.code ({ cls := "com/example/keywright/keywright/SettingRanksWithPinLaw", name := "key", desc := "(ZI)J" } : Jvm.MethodName) method_2_code (2 : Nat) (Option.some Jvm.ClassFile.FieldType.long)).before args0 about1 = true := code_word (m := ⟨1, 1⟩) (meth := k1m1) (c := k1c1) (by decide +kernel) rfl rfl rfl (by decide +kernel)
set_option maxRecDepth 65536 in
theorem w_c8 : (Jvm.Cond.code ({ cls := "com/example/keywright/keywright/Snapshot$Setting", name := "ranksWith", desc := "(Lcom/example/keywright/keywright/Snapshot$Setting;)Z" } : Jvm.MethodName) prog_29_method_4_code (2 : Nat) (Option.some Jvm.ClassFile.FieldType.boolean)).before args0 about1 = true := code_word (m := ⟨13, 1⟩) (meth := k13m1) (c := k13c1) (by decide +kernel) rfl rfl rfl (by decide +kernel)
set_option maxRecDepth 65536 in
theorem w_c9 : (Jvm.Cond.code ({ cls := "java/util/ArrayList", name := "add", desc := "(Ljava/lang/Object;)Z" } : Jvm.MethodName) jdk_38_method_25_code (2 : Nat) (Option.some Jvm.ClassFile.FieldType.boolean)).before args0 about1 = true := code_word (m := ⟨11, 4⟩) (meth := k11m4) (c := k11c4) (by decide +kernel) rfl rfl rfl (by decide +kernel)
set_option maxRecDepth 65536 in
theorem w_c10 : (Jvm.Cond.code ({ cls := "java/util/ArrayList", name := "add", desc := "(Ljava/lang/Object;[Ljava/lang/Object;I)V" } : Jvm.MethodName) jdk_38_method_24_code (4 : Nat) (Option.none : Option Jvm.ClassFile.FieldType)).before args0 about1 = true := code_word (m := ⟨11, 3⟩) (meth := k11m3) (c := k11c3) (by decide +kernel) rfl rfl rfl (by decide +kernel)
set_option maxRecDepth 65536 in
theorem w_c11 : (Jvm.Cond.code ({ cls := "java/util/ArrayList", name := "grow", desc := "()[Ljava/lang/Object;" } : Jvm.MethodName) jdk_38_method_7_code (1 : Nat) (Option.some (Jvm.ClassFile.FieldType.array (Jvm.ClassFile.FieldType.object "java/lang/Object")))).before args0 about1 = true := code_word (m := ⟨11, 2⟩) (meth := k11m2) (c := k11c2) (by decide +kernel) rfl rfl rfl (by decide +kernel)
set_option maxRecDepth 65536 in
theorem w_c12 : (Jvm.Cond.code ({ cls := "java/util/ArrayList", name := "grow", desc := "(I)[Ljava/lang/Object;" } : Jvm.MethodName) jdk_38_method_6_code (4 : Nat) (Option.some (Jvm.ClassFile.FieldType.array (Jvm.ClassFile.FieldType.object "java/lang/Object")))).before args0 about1 = true := code_word (m := ⟨11, 1⟩) (meth := k11m1) (c := k11c1) (by decide +kernel) rfl rfl rfl (by decide +kernel)
set_option maxRecDepth 65536 in
theorem w_c13 : (Jvm.Cond.code ({ cls := "java/lang/Math", name := "max", desc := "(II)I" } : Jvm.MethodName) jdk_29_method_65_code (2 : Nat) (Option.some Jvm.ClassFile.FieldType.int)).before args0 about1 = true := code_word (m := ⟨14, 1⟩) (meth := k14m1) (c := k14c1) (by decide +kernel) rfl rfl rfl (by decide +kernel)
def codes1 : List Jvm.Cond := [Jvm.Cond.code x code maxLocals ret, Jvm.Cond.code ({ cls := "java/util/ArrayList", name := "<init>", desc := "()V" } : Jvm.MethodName) jdk_38_method_2_code (1 : Nat) (Option.none : Option Jvm.ClassFile.FieldType), Jvm.Cond.code ({ cls := "java/util/AbstractList", name := "<init>", desc := "()V" } : Jvm.MethodName) jdk_39_method_1_code (1 : Nat) (Option.none : Option Jvm.ClassFile.FieldType), Jvm.Cond.code ({ cls := "java/util/AbstractCollection", name := "<init>", desc := "()V" } : Jvm.MethodName) jdk_22_method_1_code (1 : Nat) (Option.none : Option Jvm.ClassFile.FieldType), Jvm.Cond.code ({ cls := "java/lang/Object", name := "<init>", desc := "()V" } : Jvm.MethodName) object_method_1_code (1 : Nat) (Option.none : Option Jvm.ClassFile.FieldType), Jvm.Cond.code ({ cls := "com/example/keywright/keywright/Snapshot$Setting", name := "<init>", desc := "(ZILjava/util/List;)V" } : Jvm.MethodName) prog_29_method_1_code (4 : Nat) (Option.none : Option Jvm.ClassFile.FieldType), Jvm.Cond.code ({ cls := "java/lang/Record", name := "<init>", desc := "()V" } : Jvm.MethodName) jdk_30_method_1_code (1 : Nat) (Option.none : Option Jvm.ClassFile.FieldType), Jvm.Cond.code ({ cls := "com/example/keywright/keywright/SettingRanksWithPinLaw", name := "key", desc := "(ZI)J" } : Jvm.MethodName) method_2_code (2 : Nat) (Option.some Jvm.ClassFile.FieldType.long), Jvm.Cond.code ({ cls := "com/example/keywright/keywright/Snapshot$Setting", name := "ranksWith", desc := "(Lcom/example/keywright/keywright/Snapshot$Setting;)Z" } : Jvm.MethodName) prog_29_method_4_code (2 : Nat) (Option.some Jvm.ClassFile.FieldType.boolean), Jvm.Cond.code ({ cls := "java/util/ArrayList", name := "add", desc := "(Ljava/lang/Object;)Z" } : Jvm.MethodName) jdk_38_method_25_code (2 : Nat) (Option.some Jvm.ClassFile.FieldType.boolean), Jvm.Cond.code ({ cls := "java/util/ArrayList", name := "add", desc := "(Ljava/lang/Object;[Ljava/lang/Object;I)V" } : Jvm.MethodName) jdk_38_method_24_code (4 : Nat) (Option.none : Option Jvm.ClassFile.FieldType), Jvm.Cond.code ({ cls := "java/util/ArrayList", name := "grow", desc := "()[Ljava/lang/Object;" } : Jvm.MethodName) jdk_38_method_7_code (1 : Nat) (Option.some (Jvm.ClassFile.FieldType.array (Jvm.ClassFile.FieldType.object "java/lang/Object"))), Jvm.Cond.code ({ cls := "java/util/ArrayList", name := "grow", desc := "(I)[Ljava/lang/Object;" } : Jvm.MethodName) jdk_38_method_6_code (4 : Nat) (Option.some (Jvm.ClassFile.FieldType.array (Jvm.ClassFile.FieldType.object "java/lang/Object"))), Jvm.Cond.code ({ cls := "java/lang/Math", name := "max", desc := "(II)I" } : Jvm.MethodName) jdk_29_method_65_code (2 : Nat) (Option.some Jvm.ClassFile.FieldType.int)]
set_option maxRecDepth 65536 in
theorem codes_eq : words1.filter isCode = codes1 := rfl
theorem w_codes : ∀ c ∈ words1.filter isCode, c.before args0 about1 = true := by
  rw [codes_eq]
  intro c hc
  simp only [codes1, List.mem_cons, List.not_mem_nil, or_false] at hc
  rcases hc with rfl | rfl | rfl | rfl | rfl | rfl | rfl | rfl | rfl | rfl | rfl | rfl | rfl | rfl
  · exact w_c0
  · exact w_c1
  · exact w_c2
  · exact w_c3
  · exact w_c4
  · exact w_c5
  · exact w_c6
  · exact w_c7
  · exact w_c8
  · exact w_c9
  · exact w_c10
  · exact w_c11
  · exact w_c12
  · exact w_c13
set_option maxRecDepth 65536 in
theorem w_t1 : (words1.take 24).all (fun c => isCode c || c.before args0 about1) = true := by decide +kernel
set_option maxRecDepth 65536 in
theorem w_t2 : ((words1.drop 24).take 24).all (fun c => isCode c || c.before args0 about1) = true := by decide +kernel
set_option maxRecDepth 65536 in
theorem w_t3 : (((words1.drop 24).drop 24).take 24).all (fun c => isCode c || c.before args0 about1) = true := by decide +kernel
set_option maxRecDepth 65536 in
theorem w_t4 : (((words1.drop 24).drop 24).drop 24).all (fun c => isCode c || c.before args0 about1) = true := by decide +kernel
theorem w_tables : (allAtoms (Jvm.Cond.code x code maxLocals ret :: tables_1)).before args0 about1 = true := by
  rw [allAtoms_all]
  show words1.all (fun c => c.before args0 about1) = true
  refine all_split ?_ w_codes
  rw [← List.take_append_drop 24 words1, List.all_append, w_t1, ← List.take_append_drop 24 (words1.drop 24), List.all_append, w_t2, ← List.take_append_drop 24 ((words1.drop 24).drop 24), List.all_append, w_t3, w_t4]
  rfl
set_option maxRecDepth 65536 in
theorem w_rest : rest_1_c.before args0 about1 = true := by decide +kernel
set_option maxRecDepth 65536 in
theorem w_case : (Jvm.Cond.and given_1 narrow_1).before args0 about1 = true := by decide +kernel
theorem w_applies : (headSpec (Jvm.Cond.code x code maxLocals ret :: tables_1) room_1).applies x e0.platform about1 = true :=
  (Spec.applies_iff w_frames).mpr ⟨w_running, w_runnable, w_alone, w_named, w_hears, w_ripe, w_room, w_tables⟩
theorem atStart : AtStart classFile x code maxLocals ret World_1 tables_1 room_1 Calls_1 rest_1 Pre_1 launch0 p0 e0 about1 theMethod args0 below0 :=
  ⟨lists_1, trivial, launch0.admits_env _ _ _, launch0.least_env, fairChoices_fair.cas, fairChoices_fair.clock, w_frames, w_args, w_heap, w_applies, trivial, w_rest, w_case⟩
end start1
theorem witness_1 : WitnessClaimed_1 := ⟨start1.p0, start1.e0, start1.about1, start1.theMethod, start1.args0, start1.below0, start1.atStart⟩
end Jvm.Pilot.@@N@@
