import JvmDerived
import JvmDerived.Pilot.@@N@@Statement
import JvmDerived.Pilot.@@N@@Code
set_option linter.unusedVariables false
set_option linter.unusedSimpArgs false
namespace Jvm.Pilot.@@N@@
open Jvm Jvm.ClassFile Sem Op Lib Jvm.Free Jvm.Stand Jvm.LawKit Jvm.RoadKit Bundle Jvm.Pilot.@@N@@.Jvm.D
/-! own_: the walk's goal in one piece (from this state on the body returns, and what it leaves says Q), its steps, its ends, its calls -/
theorem own_succ (k : Nat) : Int32.ofNat (k + 1) = Int32.ofNat k + 1 := (Int32.ofNat_succ k).symm
theorem own_catR {v : Value} (h : v.isRef = true) : v.category = 1 := by rcases ref_cases h with rfl | ⟨a, rfl⟩ <;> rfl
theorem own_narR {v : Value} {t : FieldType} (h : v.isRef = true) : narrow t v = v := by rcases ref_cases h with rfl | ⟨a, rfl⟩ <;> cases t <;> rfl
theorem own_fitR {v : Value} {t : FieldType} (h : v.isRef = true) (ht : t.isReference = true) : fits t v = true := by rcases ref_cases h with rfl | ⟨a, rfl⟩ <;> cases t <;> first | rfl | cases ht
section OwnKit
variable {p : Program} {l : Launch} {e : Env} {R : Room} {s : State} {m : MethodId} {args : Array Value} {below : List Frame} {meth : Method} {c : Code} {T : State} {locs : List Loc} {cells slots : Nat} {Z : State} {a0 : Array Value} {h : Heap}
def own_Fin (p : Program) (e : Env) (below : List Frame) (s : State) (Q : Option Value → Heap → List Loc → Prop) (k n : Nat) (U : State) : Prop :=
  ∃ (s₂ : State) (o : Outcome), Steps p.tables e below U s₂ ∧ s₂.status = .running ∧ Ended s₂ below o ∧ ∃ v L, o = .returned v ∧ Q v s₂.heap L ∧ FrameEnd s o s₂ L k n
variable {Q : Option Value → Heap → List Loc → Prop} {k n : Nat}
theorem own_go {U U' : State} (st : ∀ t, Steps p.tables e below U' t → Steps p.tables e below U t) (F : own_Fin p e below s Q k n U') : own_Fin p e below s Q k n U := by
  obtain ⟨s2, o, h1, h2⟩ := F
  exact ⟨s2, o, st _ h1, h2⟩
theorem own_ret (X : Stand p l e R s m args below meth c T locs cells slots) (hx : p.tables.exec = Jvm.exec) {t : FieldType} (hret : meth.sig.returnType = some t) (hlk : meth.locks = false) {pc : Nat} {Ls : Array Slot} {w : Value} {i : Instr} {rest : List Value} (hn : narrow t w = w)
    (hi : (i = .ireturn ∧ (t = .int ∨ t = .boolean ∨ t = .byte ∨ t = .char ∨ t = .short) ∧ ∃ z, w = .int z) ∨ (i = .lreturn ∧ t = .long ∧ ∃ z, w = .long z) ∨ (i = .dreturn ∧ t = .double ∧ ∃ z, w = .double z) ∨ (i = .freturn ∧ t = .float ∧ ∃ z, w = .float z) ∨ (i = .areturn ∧ t.isReference = true ∧ w.isRef = true))
    (hd : decode c.code pc = .ok (i, 1)) (hQ : Q (some w) T.heap locs) (hc : cells ≤ k) (hs : slots ≤ n) : own_Fin p e below s Q k n (T.setTop (mkF m pc Ls (w :: rest))) := by
  obtain ⟨fs, hr, hrun, hended, hW, hsame⟩ := X.leave (v := some w) (fun h => by rw [hret] at h; cases h) hlk
  exact ⟨_, _, retOut X hx hret hn hi hd hr, hrun, hended, _, _, rfl, hQ, ⟨_, rfl⟩, hW, hsame.mono hc hs⟩
theorem own_retI (X : Stand p l e R s m args below meth c T locs cells slots) (hx : p.tables.exec = Jvm.exec) (hret : meth.sig.returnType = some .int) (hlk : meth.locks = false) {pc : Nat} {Ls : Array Slot} {z : Int32} {rest : List Value}
    (hd : decode c.code pc = .ok (.ireturn, 1)) (hQ : Q (some (.int z)) T.heap locs) (hc : cells ≤ k) (hs : slots ≤ n) : own_Fin p e below s Q k n (T.setTop (mkF m pc Ls (.int z :: rest))) :=
  own_ret X hx hret hlk rfl (Or.inl ⟨rfl, Or.inl rfl, z, rfl⟩) hd hQ hc hs
theorem own_retN (X : Stand p l e R s m args below meth c T locs cells slots) (hx : p.tables.exec = Jvm.exec) {t : FieldType} (hret : meth.sig.returnType = some t) (ht : t = .boolean ∨ t = .byte ∨ t = .char ∨ t = .short) (hlk : meth.locks = false) {pc : Nat} {Ls : Array Slot} {z : Int32} {rest : List Value}
    (hd : decode c.code pc = .ok (.ireturn, 1)) (hQ : Q (some (.int (nar t z))) T.heap locs) (hc : cells ≤ k) (hs : slots ≤ n) : own_Fin p e below s Q k n (T.setTop (mkF m pc Ls (.int z :: rest))) := by
  obtain ⟨fs, hr, hrun, hended, hW, hsame⟩ := X.leave (v := some (.int (nar t z))) (fun h => by rw [hret] at h; cases h) hlk
  exact ⟨_, _, retN X hx hret ht hd hr, hrun, hended, _, _, rfl, hQ, ⟨_, rfl⟩, hW, hsame.mono hc hs⟩
theorem own_retL (X : Stand p l e R s m args below meth c T locs cells slots) (hx : p.tables.exec = Jvm.exec) (hret : meth.sig.returnType = some .long) (hlk : meth.locks = false) {pc : Nat} {Ls : Array Slot} {z : Int64} {rest : List Value}
    (hd : decode c.code pc = .ok (.lreturn, 1)) (hQ : Q (some (.long z)) T.heap locs) (hc : cells ≤ k) (hs : slots ≤ n) : own_Fin p e below s Q k n (T.setTop (mkF m pc Ls (.long z :: rest))) :=
  own_ret X hx hret hlk rfl (Or.inr (Or.inl ⟨rfl, rfl, z, rfl⟩)) hd hQ hc hs
theorem own_retA (X : Stand p l e R s m args below meth c T locs cells slots) (hx : p.tables.exec = Jvm.exec) {t : FieldType} (hret : meth.sig.returnType = some t) (ht : t.isReference = true) (hlk : meth.locks = false) {pc : Nat} {Ls : Array Slot} {w : Value} {rest : List Value} (hw : w.isRef = true)
    (hd : decode c.code pc = .ok (.areturn, 1)) (hQ : Q (some w) T.heap locs) (hc : cells ≤ k) (hs : slots ≤ n) : own_Fin p e below s Q k n (T.setTop (mkF m pc Ls (w :: rest))) :=
  own_ret X hx hret hlk (by rcases ref_cases hw with rfl | ⟨z, rfl⟩ <;> cases t <;> rfl) (Or.inr (Or.inr (Or.inr (Or.inr ⟨rfl, ht, hw⟩)))) hd hQ hc hs
theorem own_retV (X : Stand p l e R s m args below meth c T locs cells slots) (hx : p.tables.exec = Jvm.exec) (hret : meth.sig.returnType = none) (hlk : meth.locks = false) {pc : Nat} {Ls : Array Slot}
    (hd : decode c.code pc = .ok (.return_, 1)) (hQ : Q none T.heap locs) (hc : cells ≤ k) (hs : slots ≤ n) : own_Fin p e below s Q k n (T.setTop (mkF m pc Ls [])) := by
  obtain ⟨fs, hr, hrun, hended, hW, hsame⟩ := X.leave (v := none) (fun _ => rfl) hlk
  exact ⟨_, _, X.returnOut hx hret hd hr, hrun, hended, _, _, rfl, hQ, ⟨_, rfl⟩, hW, hsame.mono hc hs⟩
/-- a body's contract: called with these arguments at this heap it returns, and what it leaves says Q -/
abbrev own_C (l : Launch) (Z : State) (y : MethodName) (bytes : ByteArray) (maxL : Nat) (ret : Option FieldType) (ws : List Jvm.Cond) (rm : Room) (as' : Array Value) (h0 : Heap) (Q : Option Value → Heap → List Loc → Prop) : Prop :=
  MetFree l y (head1 (Jvm.Cond.code y bytes maxL ret :: ws) rm) (fun a U => a = as' ∧ Z.Warmed39 U.vm ∧ U.heap = h0) (fun _ _ _ _ _ => True) (fun _ U o U' => ∃ v L, o = .returned v ∧ Q v U'.heap L ∧ FrameEnd U o U' L rm.cells rm.slots)
theorem own_body {y : MethodName} {bytes : ByteArray} {maxL : Nat} {ret : Option FieldType} {ws : List Jvm.Cond} {rm : Room} {as' : Array Value} {h0 : Heap} (hpn : plainFor y = true)
    (body : ∀ (p : Program) (e : Env) (s : State) (m : MethodId) (below : List Frame) (meth : Method) (c : Code) (s₁ : State), p.tables.exec = Jvm.exec → c.code = bytes → c.maxLocals = maxL → meth.sig.returnType = ret → meth.locks = false → s.vm.findClass y.cls = some m.cls → meth.name = y.name → Z.Warmed39 s.vm →
      Stand p l e rm s m as' below meth c s₁ [] 0 0 → s₁.heap = h0 → own_Fin p e below s Q rm.cells rm.slots (s₁.setTop (entryFrame m as' maxL))) : own_C l Z y bytes maxL ret ws rm as' h0 Q := by
  refine MetFree.of_bodySF hpn hisR ?_
  intro p e s m args below meth c s₁ Bd hml0 hP hK
  obtain ⟨rfl, hZ, hh⟩ := hP
  exact body p e s m below meth c s₁ Bd.exec Bd.bytes hml0 Bd.returns Bd.notSynchronized (findClass_of_methodNamed Bd.named) (name_of_methodNamed Bd.named Bd.method).1 hZ (Stand.of_body Bd) (by rw [← hh, Bd.state]; rfl)
theorem own_callS (X : Stand p l e R s m args below meth c T locs cells slots) (hx : p.tables.exec = Jvm.exec) (hZ : Z.Warmed39 s.vm) {own : String} {index : Nat} {y : MethodName} {bytes : ByteArray} {maxL : Nat} {ret : Option FieldType} (hown : s.vm.findClass own = some m.cls)
    (w1 : (Cond.methodLink own index y).before a0 Z = true) (w2 : (Cond.static y).before a0 Z = true) (w3 : (Cond.initialized y.cls).before a0 Z = true) (w4 : (Cond.code y bytes maxL ret).before a0 Z = true) (hy : y.cls ≠ "java/lang/invoke/MethodHandle" ∧ y.cls ≠ "java/lang/invoke/VarHandle")
    {rm : Room} {argsL rest : List Value} {as' : Array Value} (hM : own_C l Z y bytes maxL ret [] rm as' h Q) {W : Nat} (hf : rm.frames + 1 ≤ R.frames) (hl : W + (maxL + 11) + rm.locals ≤ R.locals) {g : JFrame} (hg : g.method = m) (hsize : g.locals.size = c.maxLocals)
    (hlen : ∀ sig, parseMethodDescriptor y.desc = some sig → argsL.length = sig.parameters.length) (hstack : g.stack = argsL.reverse ++ rest) (has : argsL.toArray = as') (hW : 2 * g.monitorRoom + (rest.map fun v => v.category).sum ≤ W) (hdg : decode c.code g.pc = .ok (.invokestatic index, 3)) (eT : T.heap = h)
    (hc : cells + rm.cells ≤ R.cells) (hs : slots + rm.slots ≤ R.slots) :
    ∃ (v : Option Value) (T' : State) (h' : Heap) (L : List Loc), T'.heap = h' ∧ Stand p l e R s m args below meth c T' (locs ++ L) (cells + rm.cells) (slots + rm.slots) ∧ Q v h' L ∧ ∀ target, Steps p.tables e below (T'.setTop { g with pc := g.pc + 3, stack := v.toList ++ rest }) target → Steps p.tables e below (T.setTop g) target := by
  obtain ⟨v, vm, ⟨T', L', k', n'⟩, -, X', ⟨Lc, hQ, l1, y1, z1⟩, st⟩ := Jvm.LawKit.callS X hx (y := y) hown (mvT hZ w1) (mvT hZ w2) (mvT hZ w3) (mvT hZ w4) hy (backOf (W := W) hM hZ w4 w3 hf hl) hg hsize hlen hstack hW hdg (fun _ _ => ⟨has, eT, hc, hs⟩)
  dsimp only [Pt.U, Pt.locs, Pt.cells, Pt.slots] at X' l1 y1 z1 st hQ
  subst l1 y1 z1
  exact ⟨v, T', _, Lc, rfl, X', hQ, st⟩
theorem own_callC (X : Stand p l e R s m args below meth c T locs cells slots) (hx : p.tables.exec = Jvm.exec) (hZ : Z.Warmed39 s.vm) {own : String} {index : Nat} {y : MethodName} {bytes : ByteArray} {maxL : Nat} (hy1 : y.name = "<init>") (hown : s.vm.findClass own = some m.cls)
    (w1 : (Cond.methodLink own index y).before a0 Z = true) (w2 : (Cond.instanceMethod y).before a0 Z = true) (w3 : (Cond.initialized y.cls).before a0 Z = true) (w4 : (Cond.code y bytes maxL none).before a0 Z = true) (hy : y.cls ≠ "java/lang/invoke/MethodHandle" ∧ y.cls ≠ "java/lang/invoke/VarHandle")
    {rm : Room} {a : Addr} {argsL rest : List Value} {as' : Array Value} (hM : own_C l Z y bytes maxL none [] rm as' h Q) {W : Nat} (hf : rm.frames + 1 ≤ R.frames) (hl : W + (maxL + 11) + rm.locals ≤ R.locals) {g : JFrame} (hg : g.method = m) (hsize : g.locals.size = c.maxLocals)
    (hlen : ∀ sig, parseMethodDescriptor y.desc = some sig → argsL.length = sig.parameters.length) (hstack : g.stack = argsL.reverse ++ .ref a :: rest) (has : (.ref a :: argsL).toArray = as') (hW : 2 * g.monitorRoom + (rest.map fun v => v.category).sum ≤ W) (hdg : decode c.code g.pc = .ok (.invokespecial index, 3)) (eT : T.heap = h)
    (hc : cells + rm.cells ≤ R.cells) (hs : slots + rm.slots ≤ R.slots) :
    ∃ (v : Option Value) (T' : State) (h' : Heap) (L : List Loc), T'.heap = h' ∧ Stand p l e R s m args below meth c T' (locs ++ L) (cells + rm.cells) (slots + rm.slots) ∧ Q v h' L ∧ ∀ target, Steps p.tables e below (T'.setTop { g with pc := g.pc + 3, stack := v.toList ++ rest }) target → Steps p.tables e below (T.setTop g) target := by
  obtain ⟨v, vm, ⟨T', L', k', n'⟩, -, X', ⟨Lc, hQ, l1, y1, z1⟩, st⟩ := X.specialBack hx (y := y) hy1 hown (mvT hZ w1) (mvT hZ w2) (mvT hZ w4) hy (backOf (W := W) hM hZ w4 w3 hf hl) hg hsize (Steps.refl _) hlen hstack hW hdg (fun _ _ => ⟨has, eT, hc, hs⟩)
  dsimp only [Pt.U, Pt.locs, Pt.cells, Pt.slots] at X' l1 y1 z1 st hQ
  subst l1 y1 z1
  exact ⟨v, T', _, Lc, rfl, X', hQ, fun _ k => st.trans k⟩
theorem own_callV (X : Stand p l e R s m args below meth c T locs cells slots) (hx : p.tables.exec = Jvm.exec) (hZ : Z.Warmed39 s.vm) {own C : String} {index : Nat} {y z : MethodName} {bytes : ByteArray} {maxL : Nat} {ret : Option FieldType} (hown : s.vm.findClass own = some m.cls)
    (w1 : (Cond.methodLink own index y).before a0 Z = true) (w2 : (Cond.declares y).before a0 Z = true) (hnf : NotFace s y) (w5 : (Cond.selects C y z).before a0 Z = true) (w6 : (Cond.instanceMethod z).before a0 Z = true) (w3 : (Cond.initialized z.cls).before a0 Z = true) (w4 : (Cond.code z bytes maxL ret).before a0 Z = true) (hy : y.cls ≠ "java/lang/invoke/MethodHandle" ∧ y.cls ≠ "java/lang/invoke/VarHandle")
    {rm : Room} {a : Addr} (E : Exa Z h a C) {argsL rest : List Value} {as' : Array Value} (hM : own_C l Z z bytes maxL ret [] rm as' h Q) {W : Nat} (hf : rm.frames + 1 ≤ R.frames) (hl : W + (maxL + 11) + rm.locals ≤ R.locals) {g : JFrame} (hg : g.method = m) (hsize : g.locals.size = c.maxLocals)
    (hlen : ∀ sig, parseMethodDescriptor y.desc = some sig → argsL.length = sig.parameters.length) (hstack : g.stack = argsL.reverse ++ .ref a :: rest) (has : (.ref a :: argsL).toArray = as') (hW : 2 * g.monitorRoom + (rest.map fun v => v.category).sum ≤ W) (hdg : decode c.code g.pc = .ok (.invokevirtual index, 3)) (eT : T.heap = h)
    (hc : cells + rm.cells ≤ R.cells) (hs : slots + rm.slots ≤ R.slots) :
    ∃ (v : Option Value) (T' : State) (h' : Heap) (L : List Loc), T'.heap = h' ∧ Stand p l e R s m args below meth c T' (locs ++ L) (cells + rm.cells) (slots + rm.slots) ∧ Q v h' L ∧ ∀ target, Steps p.tables e below (T'.setTop { g with pc := g.pc + 3, stack := v.toList ++ rest }) target → Steps p.tables e below (T.setTop g) target := by
  obtain ⟨cq, kq, qa, qb, qc⟩ := isOf hZ eT E
  obtain ⟨v, vm, ⟨T', L', k', n'⟩, -, X', ⟨Lc, hQ, l1, y1, z1⟩, st⟩ := X.virtualBack hx (y := y) (z := z) hown (mvT hZ w1) (mvT hZ w2) hnf (mvT hZ w5) (mvT hZ w6) hy (backOf (W := W) hM hZ w4 w3 hf hl) qa qc hg hsize (Steps.refl _) hlen hstack hW hdg (fun _ _ => ⟨has, eT, hc, hs⟩)
  dsimp only [Pt.U, Pt.locs, Pt.cells, Pt.slots] at X' l1 y1 z1 st hQ
  subst l1 y1 z1
  exact ⟨v, T', _, Lc, rfl, X', hQ, fun _ k => st.trans k⟩
theorem own_callI (X : Stand p l e R s m args below meth c T locs cells slots) (hx : p.tables.exec = Jvm.exec) (hZ : Z.Warmed39 s.vm) {own C : String} {index count : Nat} {y z : MethodName} {bytes : ByteArray} {maxL : Nat} {ret : Option FieldType} (hown : s.vm.findClass own = some m.cls)
    (w1 : (Cond.methodLink own index y).before a0 Z = true) (w2 : (Cond.declares y).before a0 Z = true) (w7 : (Cond.interfaceMethod y.cls y.cls y.name y.desc).before args s = true) (w5 : (Cond.selects C y z).before a0 Z = true) (w6 : (Cond.instanceMethod z).before a0 Z = true) (w8 : (Cond.publicMethod z).before a0 Z = true)
    (w9 : (Cond.unhidden C y.name y.desc).before a0 Z = true) (w10 : (Cond.castable C y.cls).before a0 Z = true) (w3 : (Cond.initialized z.cls).before a0 Z = true) (w4 : (Cond.code z bytes maxL ret).before a0 Z = true) (hy : y.cls ≠ "java/lang/invoke/MethodHandle" ∧ y.cls ≠ "java/lang/invoke/VarHandle")
    {rm : Room} {a : Addr} (E : Exa Z h a C) {argsL rest : List Value} {as' : Array Value} (hM : own_C l Z z bytes maxL ret [] rm as' h Q) {W : Nat} (hf : rm.frames + 1 ≤ R.frames) (hl : W + (maxL + 11) + rm.locals ≤ R.locals) {g : JFrame} (hg : g.method = m) (hsize : g.locals.size = c.maxLocals)
    (hlen : ∀ sig, parseMethodDescriptor y.desc = some sig → argsL.length = sig.parameters.length) (hstack : g.stack = argsL.reverse ++ .ref a :: rest) (has : (.ref a :: argsL).toArray = as') (hW : 2 * g.monitorRoom + (rest.map fun v => v.category).sum ≤ W) (hdg : decode c.code g.pc = .ok (.invokeinterface index count, 5)) (eT : T.heap = h)
    (hc : cells + rm.cells ≤ R.cells) (hs : slots + rm.slots ≤ R.slots) :
    ∃ (v : Option Value) (T' : State) (h' : Heap) (L : List Loc), T'.heap = h' ∧ Stand p l e R s m args below meth c T' (locs ++ L) (cells + rm.cells) (slots + rm.slots) ∧ Q v h' L ∧ ∀ target, Steps p.tables e below (T'.setTop { g with pc := g.pc + 5, stack := v.toList ++ rest }) target → Steps p.tables e below (T.setTop g) target := by
  obtain ⟨cq, kq, qa, qb, qc⟩ := isOf hZ eT E
  obtain ⟨v, vm, ⟨T', L', k', n'⟩, -, X', ⟨Lc, hQ, l1, y1, z1⟩, st⟩ := X.interfaceBack hx (xi := y) (y := z) hown (mvT hZ w1) (mvT hZ w2) w7 (mvT hZ w5) (mvT hZ w6) (mvT hZ w8) (mvT hZ w9) (mvT hZ w10) hy (backOf (W := W) hM hZ w4 w3 hf hl) qa qb qc hg hsize (Steps.refl _) hlen hstack hW hdg (fun _ _ => ⟨has, eT, hc, hs⟩)
  dsimp only [Pt.U, Pt.locs, Pt.cells, Pt.slots] at X' l1 y1 z1 st hQ
  subst l1 y1 z1
  exact ⟨v, T', _, Lc, rfl, X', hQ, fun _ k => st.trans k⟩
theorem own_callP (X : Stand p l e R s m args below meth c T locs cells slots) (hx : p.tables.exec = Jvm.exec) (hZ : Z.Warmed39 s.vm) {own C : String} {index : Nat} {y : MethodName} {bytes : ByteArray} {maxL : Nat} {ret : Option FieldType} (hown : s.vm.findClass own = some m.cls)
    (w1 : (Cond.methodLink own index y).before a0 Z = true) (w6 : (Cond.instanceMethod y).before a0 Z = true) (w5 : (Cond.selects y.cls y y).before a0 Z = true) (w7 : (Cond.privateMethod y).before a0 Z = true) (w3 : (Cond.initialized y.cls).before a0 Z = true) (w4 : (Cond.code y bytes maxL ret).before a0 Z = true) (hy : y.cls ≠ "java/lang/invoke/MethodHandle" ∧ y.cls ≠ "java/lang/invoke/VarHandle")
    {rm : Room} {a : Addr} (E : Exa Z h a C) {argsL rest : List Value} {as' : Array Value} (hM : own_C l Z y bytes maxL ret [] rm as' h Q) {W : Nat} (hf : rm.frames + 1 ≤ R.frames) (hl : W + (maxL + 11) + rm.locals ≤ R.locals) {g : JFrame} (hg : g.method = m) (hsize : g.locals.size = c.maxLocals)
    (hlen : ∀ sig, parseMethodDescriptor y.desc = some sig → argsL.length = sig.parameters.length) (hstack : g.stack = argsL.reverse ++ .ref a :: rest) (has : (.ref a :: argsL).toArray = as') (hW : 2 * g.monitorRoom + (rest.map fun v => v.category).sum ≤ W) (hdg : decode c.code g.pc = .ok (.invokevirtual index, 3)) (eT : T.heap = h)
    (hc : cells + rm.cells ≤ R.cells) (hs : slots + rm.slots ≤ R.slots) :
    ∃ (v : Option Value) (T' : State) (h' : Heap) (L : List Loc), T'.heap = h' ∧ Stand p l e R s m args below meth c T' (locs ++ L) (cells + rm.cells) (slots + rm.slots) ∧ Q v h' L ∧ ∀ target, Steps p.tables e below (T'.setTop { g with pc := g.pc + 3, stack := v.toList ++ rest }) target → Steps p.tables e below (T.setTop g) target := by
  obtain ⟨cq, q, q'⟩ := E.cell
  obtain ⟨v, vm, ⟨T', L', k', n'⟩, -, X', ⟨Lc, hQ, l1, y1, z1⟩, st⟩ := X.privateBack hx (y := y) hown (mvT hZ w1) (mvT hZ w6) (mvT hZ w5) (Cond.privateMethod_at (mvP hZ w7 (args := #[]))) (mvT hZ w4) hy (backOf (W := W) hM hZ w4 w3 hf hl) hg hsize (Steps.refl _) (a := a) (by rw [eT]; exact q) q' hlen hstack hW hdg (fun _ _ => ⟨has, eT, hc, hs⟩)
  dsimp only [Pt.U, Pt.locs, Pt.cells, Pt.slots] at X' l1 y1 z1 st hQ
  subst l1 y1 z1
  exact ⟨v, T', _, Lc, rfl, X', hQ, fun _ k => st.trans k⟩
theorem own_lremM {g : JFrame} {target : State} (X : Stand p l e R s m args below meth c T locs cells slots) (hx : p.tables.exec = Jvm.exec) (hg : g.method = m) {x y : Int64} {rest : List Value} (hd : decode c.code g.pc = .ok (.lrem, 1)) (hs : g.stack = .long y :: .long x :: rest) (hy : y ≠ 0)
    (hr : Steps p.tables e below (T.setTop { g with pc := g.pc + 1, stack := .long (x % y) :: rest }) target) : Steps p.tables e below (T.setTop g) target :=
  XS.lrem X.here hx hg hd hs hy (by rw [lrem_mod]; exact hr)
theorem own_mono (X : Stand p l e R s m args below meth c T locs cells slots) {cells' slots' : Nat} (hc : cells ≤ cells') (hs : slots ≤ slots') : Stand p l e R s m args below meth c T locs cells' slots' :=
  ⟨X.admits, X.cas, X.clock, X.frames, X.room, X.hears, X.method, X.code, X.here, X.tail, X.warmed, X.limits, X.bytes, X.same.mono hc hs⟩
end OwnKit
section OwnFp
open Jvm.FP Jvm.FP.Core
/-- the unit: 1 is so many of the format's least numbers -/
def own_P : Nat := 2 ^ 1074
theorem own_P_pos : 0 < own_P := Nat.two_pow_pos _
theorem own_qmin : b64.qmin = -1074 := by decide
theorem own_pow (a b : Nat) : 2 ^ a * 2 ^ b = 2 ^ (a + b) := (Nat.pow_add 2 a b).symm
/-- a rounded ratio, its error relative to it -/
theorem own_rel {s t : Bool} {A B c : Nat} {e q e0 : Int} (hA : 0 < A) (hB : 0 < B) (h0 : e0 ≤ b64.qmin) (h0e : e0 ≤ e) (hbig : 2 ^ 52 * (B * 2 ^ (b64.qmin - e0).toNat) ≤ A * 2 ^ (e - e0).toNat) (h : roundRatio b64 s A B e = .fin t c q) :
    2 ^ 53 * (inUnits c q e0 * B) ≤ (2 ^ 53 + 1) * inUnits A e e0 ∧ 2 ^ 53 * inUnits A e e0 ≤ 2 ^ 53 * (inUnits c q e0 * B) + inUnits A e e0 := by
  unfold roundRatio at h
  rw [if_neg (by omega)] at h
  have g1 := quantum_ge b64 A B e
  have g2 := nearest_units_le (f := b64) hA hB e
  have g3 := quantum_not_below (f := b64) hA hB e
  unfold roundAt at h
  generalize quantum b64 A B e = r at h g1 g2 g3
  have hsv := (settle_value good_b64 g2 h (e0 := e0) (by omega)).2
  have hN : inUnits A e e0 = unitsNum A e r * 2 ^ (min e r - e0).toNat := by
    unfold inUnits unitsNum
    rw [Nat.mul_assoc, own_pow, show (e - r).toNat + (min e r - e0).toNat = (e - e0).toNat by omega]
  have hD : B * 2 ^ (r - e0).toNat = unitsDen B e r * 2 ^ (min e r - e0).toNat := by
    unfold unitsDen
    rw [Nat.mul_assoc, own_pow, show (r - e).toNat + (min e r - e0).toNat = (r - e0).toNat by omega]
  have hden := unitsDen_pos hB e r
  have hup := Nat.two_pow_pos (min e r - e0).toNat
  have h3 : 2 ^ 52 * unitsDen B e r ≤ unitsNum A e r := by
    rcases g3 with g3 | g3
    · have hb : 2 ^ 52 * (unitsDen B e r * 2 ^ (min e r - e0).toNat) ≤ unitsNum A e r * 2 ^ (min e r - e0).toNat := by
        rw [← hN, ← hD, g3]; exact hbig
      rw [← Nat.mul_assoc] at hb
      exact Nat.le_of_mul_le_mul_right hb hup
    · rw [show ((b64.p : Int) - 1) = ((52 : Nat) : Int) from by decide] at g3
      exact Nat.le_of_not_lt fun q => g3 ((units_below A B e r 52).mp q)
  obtain ⟨n1, n2, -⟩ := nearest_spec (unitsNum A e r) (unitsDen B e r) hden
  generalize nearest (unitsNum A e r) (unitsDen B e r) = k at *
  have hZ : inUnits c q e0 * B = k * unitsDen B e r * 2 ^ (min e r - e0).toNat := by
    rw [hsv]
    show k * 2 ^ (r - e0).toNat * B = _
    rw [Nat.mul_assoc, Nat.mul_comm (2 ^ (r - e0).toNat) B, hD, Nat.mul_assoc]
  rw [hZ, hN]
  generalize 2 ^ (min e r - e0).toNat = u at hup
  generalize unitsNum A e r = num at *
  generalize unitsDen B e r = den at *
  have e1 : 2 * k * den = 2 * (k * den) := Nat.mul_assoc ..
  have e2 : (2 * k + 1) * den = 2 * (k * den) + den := by rw [Nat.add_mul, e1, Nat.one_mul]
  rw [e2] at n1
  rw [e1] at n2
  generalize k * den = x at *
  constructor
  · rw [← Nat.mul_assoc, ← Nat.mul_assoc]
    exact Nat.mul_le_mul_right u (by omega)
  · rw [← Nat.mul_assoc, ← Nat.mul_assoc, ← Nat.add_mul]
    exact Nat.mul_le_mul_right u (by omega)
theorem own_one : zmag b64 (.fin false (2 ^ 52) (-52)) = own_P := by decide +kernel
/-- a whole number as a double -/
theorem own_i2d {i : Int32} {n : Nat} (h : i.toInt = n) : ∃ c q, val64 (FP.i2d i) = .fin false c q ∧ Core.fits b64 (.fin false c q) ∧ inUnits c q b64.qmin = n * own_P := by
  have hw : Whole i.toInt (val64 (FP.i2d i)) := i2d_int i
  have hv : val64 (FP.i2d i) = roundRatio b64 false n 1 0 := by
    have : val64 (FP.i2d i) = round b64 (ofInt i.toInt) := val64_i2d i
    rw [this, h]
    show roundRatio b64 (decide ((n : Int) < 0)) (n : Int).natAbs 1 0 = _
    rw [decide_eq_false (by omega), Int.natAbs_natCast]
  have hf : Core.fits b64 (val64 (FP.i2d i)) := val64_fits _
  rcases roundRatio_cases b64 false n 1 0 with ⟨c, q, hc⟩ | hc
  · rw [hv, hc] at hw hf
    refine ⟨c, q, by rw [hv, hc], hf, ?_⟩
    have := whole_units hw hf.2.1
    rw [own_qmin] at this ⊢
    rw [h] at this
    have e1 : ((2 ^ ((-1074 : Int)).toNat : Nat) : Int) = 1 := by decide
    have e2 : (2 ^ (- (-1074 : Int)).toNat : Nat) = own_P := by rfl
    rw [e1, e2, Int.mul_one] at this
    have e3 : signed false (inUnits c q (-1074)) = (inUnits c q (-1074) : Int) := rfl
    rw [e3, ← Int.natCast_mul] at this
    exact Int.ofNat.inj this
  · rw [hv, hc] at hw; exact hw.elim
/-- the quotient of two whole numbers -/
theorem own_quo {i u : Int32} {n m : Nat} (hi : i.toInt = n) (hu : u.toInt = m) (hm : 0 < m) : val64 (FP.ddiv (FP.i2d i) (FP.i2d u)) = roundRatio b64 false n m 0 := by
  obtain ⟨c, q, e1, f1, z1⟩ := own_i2d hi
  obtain ⟨d, r, e2, f2, z2⟩ := own_i2d hu
  have hd : d ≠ 0 := fun z => by
    rw [z] at z2
    unfold inUnits at z2
    rw [Nat.zero_mul] at z2
    have := Nat.mul_pos hm own_P_pos
    omega
  have hq : val64 (FP.ddiv (FP.i2d i) (FP.i2d u)) = quotient b64 (val64 (FP.i2d i)) (val64 (FP.i2d u)) := val64_ddiv _ _
  rw [hq, e1, e2]
  show (if d = 0 then _ else roundRatio b64 (false != false) c d (q - r)) = _
  rw [if_neg hd]
  refine roundRatio_congr (Nat.pos_of_ne_zero hd) hm ?_
  have g1 := f1.2.1
  have g2 := f2.2.1
  rw [own_qmin] at g1 g2 z1 z2
  unfold inUnits at z1 z2
  have hP := own_P_pos
  have key : ∀ {c' d' n' m' P' X Y W : Nat}, 0 < P' → 0 < Y → X * Y = W → c' * W = n' * P' → d' * Y = m' * P' → c' * m' * X = n' * d' := by
    intro c' d' n' m' P' X Y W p1 p2 e z z'
    refine Nat.eq_of_mul_eq_mul_right (Nat.mul_pos p1 p2) ?_
    calc c' * m' * X * (P' * Y) = (c' * (X * Y)) * (m' * P') := by ac_rfl
      _ = (n' * P') * (d' * Y) := by rw [e, z, z']
      _ = n' * d' * (P' * Y) := by ac_rfl
  by_cases h : r ≤ q
  · rw [show (q - r - 0).toNat = (q - -1074).toNat - (r - -1074).toNat by omega, show (0 - (q - r)).toNat = 0 by omega, Nat.pow_zero, Nat.mul_one]
    exact key hP (Nat.two_pow_pos (r - -1074).toNat) (by rw [own_pow]; congr 1; omega) z1 z2
  · rw [show (q - r - 0).toNat = 0 by omega, show (0 - (q - r)).toNat = (r - -1074).toNat - (q - -1074).toNat by omega, Nat.pow_zero, Nat.mul_one]
    have := key (c' := d) (d' := c) (n' := m) (m' := n) hP (Nat.two_pow_pos (q - -1074).toNat) (X := 2 ^ ((r - -1074).toNat - (q - -1074).toNat)) (by rw [own_pow]; congr 1; omega) z2 z1
    rw [Nat.mul_comm c m, Nat.mul_comm n d]
    exact this.symm
def own_z (n m : Nat) : Nat := zmag b64 (roundRatio b64 false n m 0)
theorem own_le {n m : Nat} (hm : 0 < m) {V : Datum} (hV : Core.fits b64 V) (hn : V ≠ .nan) (h : n * own_P ≤ zmag b64 V * m) : own_z n m ≤ zmag b64 V := by
  refine zmag_roundRatio_le good_b64 hm hV hn (e0 := b64.qmin) (Int.le_refl _) (by decide) ?_
  rw [Int.sub_self, show (0 : Int).toNat = 0 from rfl, Nat.pow_zero, Nat.mul_one]
  exact h
theorem own_ge {n m : Nat} (hm : 0 < m) {V : Datum} (hV : Core.fits b64 V) (h : zmag b64 V * m ≤ n * own_P) : zmag b64 V ≤ own_z n m := by
  refine zmag_roundRatio_ge good_b64 hm hV (e0 := b64.qmin) (Int.le_refl _) (by decide) ?_
  rw [Int.sub_self, show (0 : Int).toNat = 0 from rfl, Nat.pow_zero, Nat.mul_one]
  exact h
def own_H : Nat := 2 ^ 1043
theorem own_PH : own_P = 2147483648 * own_H := by decide +kernel
theorem own_H_big : 9007199254740992 ≤ own_H := by decide +kernel
theorem own_inf : own_P * 4294967296 ≤ zmag b64 (.inf false) := by decide +kernel
theorem own_h1 {H m n : Nat} (h : m ≤ 2147483648 * n) : H * m ≤ n * (2147483648 * H) := by
  calc H * m ≤ H * (2147483648 * n) := Nat.mul_le_mul_left _ h
    _ = n * (2147483648 * H) := by ac_rfl
theorem own_h2 {H m n : Nat} (h : n * 2147483648 ≤ 2147483647 * m) : n * (2147483648 * H) ≤ 2147483647 * H * m := by
  calc n * (2147483648 * H) = (n * 2147483648) * H := by ac_rfl
    _ ≤ (2147483647 * m) * H := Nat.mul_le_mul_right _ h
    _ = 2147483647 * H * m := by ac_rfl
theorem own_zb {n m : Nat} (hn : 0 < n) (hnm : n < m) (hm : m ≤ 2147483648) : own_H ≤ own_z n m ∧ own_z n m < own_P := by
  have e1 : zmag b64 (.fin false (2 ^ 53 - 2 ^ 22) (-53)) = 2147483647 * own_H := by decide +kernel
  have e2 : zmag b64 (.fin false (2 ^ 52) (-83)) = own_H := by decide +kernel
  have f1 : Core.fits b64 (.fin false (2 ^ 53 - 2 ^ 22) (-53)) := by unfold Core.fits; decide
  have f2 : Core.fits b64 (.fin false (2 ^ 52) (-83)) := by unfold Core.fits; decide
  have hH : 0 < own_H := Nat.two_pow_pos _
  have eP := own_PH
  constructor
  · have := own_ge (n := n) (m := m) (by omega) f2 (by rw [e2, eP]; exact own_h1 (by omega))
    rwa [e2] at this
  · have := own_le (n := n) (m := m) (by omega) f1 Datum.noConfusion (by rw [e1, eP]; exact own_h2 (by omega))
    rw [e1] at this
    have : 2147483647 * own_H < 2147483648 * own_H := Nat.mul_lt_mul_of_pos_right (by decide) hH
    omega
theorem own_fin {n m : Nat} (hn : 0 < n) (hnm : n < m) (hm : m ≤ 2147483648) : ∃ c q, roundRatio b64 false n m 0 = .fin false c q := by
  rcases roundRatio_cases b64 false n m 0 with h | h
  · exact h
  · have h1 := (own_zb hn hnm hm).2
    unfold own_z at h1
    rw [h] at h1
    have := own_inf
    omega
theorem own_cmp {x y : UInt64} (hx : val64 x ≠ .nan) (hy : val64 y ≠ .nan) : FP.dcmp x y = some (compare (zval b64 (val64 x)) (zval b64 (val64 y))) := order_zval good_b64 (val64_fits x) (val64_fits y) hx hy
theorem own_cle {x y : UInt64} (hx : val64 x ≠ .nan) (hy : val64 y ≠ .nan) (h : zval b64 (val64 x) ≤ zval b64 (val64 y)) (o : CmpOp) : ¬ (0 : Int32) < cmpValue (FP.dcmp x y) o := by
  rw [own_cmp hx hy, compare_ite]
  split
  · cases o <;> decide
  · rw [if_pos (by omega)]; cases o <;> decide
theorem own_cge {x y : UInt64} (hx : val64 x ≠ .nan) (hy : val64 y ≠ .nan) (h : zval b64 (val64 y) ≤ zval b64 (val64 x)) (o : CmpOp) : ¬ cmpValue (FP.dcmp x y) o < (0 : Int32) := by
  rw [own_cmp hx hy, compare_ite, if_neg (by omega)]
  split <;> cases o <;> decide
theorem own_clt {x y : UInt64} (hx : val64 x ≠ .nan) (hy : val64 y ≠ .nan) (h : zval b64 (val64 x) < zval b64 (val64 y)) (o : CmpOp) : cmpValue (FP.dcmp x y) o < (0 : Int32) := by
  rw [own_cmp hx hy, compare_ite, if_pos h]
  cases o <;> decide
theorem own_ceq {x y : UInt64} (hx : val64 x ≠ .nan) (hy : val64 y ≠ .nan) (h : zval b64 (val64 x) = zval b64 (val64 y)) (o : CmpOp) : cmpValue (FP.dcmp x y) o = (0 : Int32) := by
  rw [own_cmp hx hy, compare_ite, if_neg (by omega), if_pos h]
  cases o <;> decide
theorem own_nn {x : UInt64} (h : val64 x ≠ .nan) : Jvm.Free.Fl.NoNaN64 x := Jvm.Free.Fl.noNaN64_no.mpr ((notNaN_iff x).mpr h)
theorem own_2q : 2 ^ (b64.qmin - 2 * b64.qmin).toNat = own_P := by rw [show (b64.qmin - 2 * b64.qmin).toNat = 1074 from by decide]; rfl
theorem own_K : val64 4382002437431492608 = .fin false (2 ^ 52) (-102) := by decide +kernel
theorem own_big {c e n : Nat} (hc : c < 2 ^ 53) (hn : 0 < n) (h : c * 2 ^ e = n * own_P) : 1022 ≤ e := by
  refine Nat.le_of_not_lt fun q => ?_
  have h1 : 2 ^ e ≤ 2 ^ 1021 := Nat.pow_le_pow_right (by decide) (by omega)
  have h2 : c * 2 ^ e < 2 ^ 53 * 2 ^ 1021 := Nat.mul_lt_mul_of_lt_of_le hc h1 (Nat.two_pow_pos _)
  have h3 : own_P ≤ n * own_P := Nat.le_mul_of_pos_left _ hn
  have h4 : 2 ^ 53 * 2 ^ 1021 = own_P := by decide +kernel
  omega
/-- i times 2 to the -50 -/
theorem own_t {i : Int32} {n : Nat} (hi : i.toInt = n) (hn : 0 < n) : ∃ c q, val64 (FP.dmul (FP.i2d i) 4382002437431492608) = .fin false c q ∧ Core.fits b64 (.fin false c q) ∧ zmag b64 (.fin false c q) * 1125899906842624 = n * own_P := by
  obtain ⟨c, q, e, f, z⟩ := own_i2d hi
  obtain ⟨f1, f2, f3, f4⟩ := f
  have f1' : c < 2 ^ 53 := f1
  rw [own_qmin] at f2 f4 z
  have z' : c * 2 ^ (q - -1074).toNat = n * own_P := z
  have hb := own_big f1' hn z'
  have hf : Core.fits b64 (.fin false c (q - 50)) := by
    refine ⟨f1, by rw [own_qmin]; omega, by omega, Or.inr ?_⟩
    rcases f4 with f4 | f4
    · omega
    · exact f4
  refine ⟨c, q - 50, ?_, hf, ?_⟩
  · have hv : val64 (FP.dmul (FP.i2d i) 4382002437431492608) = round b64 (exactProduct (val64 (FP.i2d i)) (val64 4382002437431492608)) := val64_dmul _ _
    rw [hv, e, own_K]
    show roundRatio b64 false (c * 2 ^ 52) 1 (q + -102) = _
    refine roundRatio_exact good_b64 (by decide) hf ?_
    rw [show (q + -102 - (q - 50)).toNat = 0 by omega, show (q - 50 - (q + -102)).toNat = 52 by omega, Nat.pow_zero, Nat.mul_one, Nat.mul_one]
  · show c * 2 ^ (q - 50 - b64.qmin).toNat * 2 ^ 50 = _
    rw [Nat.mul_assoc, own_pow, own_qmin, show (q - 50 - -1074).toNat + 50 = (q - -1074).toNat by omega]
    exact z'
theorem own_k1 {z m P : Nat} (h : z < P) : z * (m * P) ≤ m * P * P * 1 := by
  calc z * (m * P) ≤ P * (m * P) := Nat.mul_le_mul_right _ (Nat.le_of_lt h)
    _ = m * P * P * 1 := by rw [Nat.mul_one]; ac_rfl
theorem own_k2 {z m P : Nat} (h : 9007199254740992 ≤ z) (hm : 0 < m) : 2 ^ 52 * (1 * P) ≤ z * (m * P) := by
  have h1 : 2 ^ 52 ≤ z * m := Nat.le_trans (by omega) (Nat.le_mul_of_pos_right z hm)
  calc 2 ^ 52 * (1 * P) = 2 ^ 52 * P := by rw [Nat.one_mul]
    _ ≤ z * m * P := Nat.mul_le_mul_right _ h1
    _ = z * (m * P) := Nat.mul_assoc ..
theorem own_k3 {w P z m : Nat} (hP : 0 < P) (h : 2 ^ 53 * (w * P * 1) ≤ (2 ^ 53 + 1) * (z * (m * P)) ∧ 2 ^ 53 * (z * (m * P)) ≤ 2 ^ 53 * (w * P * 1) + z * (m * P)) : 2 ^ 53 * w ≤ (2 ^ 53 + 1) * (z * m) ∧ 2 ^ 53 * (z * m) ≤ 2 ^ 53 * w + z * m := by
  obtain ⟨h1, h2⟩ := h
  rw [Nat.mul_one, ← Nat.mul_assoc z m P] at h1 h2
  constructor
  · refine Nat.le_of_mul_le_mul_right (c := P) ?_ hP
    rw [Nat.mul_assoc, Nat.mul_assoc]; exact h1
  · refine Nat.le_of_mul_le_mul_right (c := P) ?_ hP
    rw [Nat.add_mul, Nat.mul_assoc (2 ^ 53) w P, Nat.mul_assoc (2 ^ 53) (z * m) P]; exact h2
theorem own_sg {i u : Int32} {n m : Nat} (hi : i.toInt = n) (hu : u.toInt = m) (hn : 0 < n) (hnm : n < m) (hm : m ≤ 2147483647) (r mf d t : UInt64) (er : r = FP.ddiv (FP.i2d i) (FP.i2d u)) (em : mf = FP.dmul r (FP.i2d u)) (ed : d = FP.dsub mf (FP.i2d i)) (et : t = FP.dmul (FP.i2d i) 4382002437431492608) :
    val64 r ≠ .nan ∧ zval b64 (val64 r) = own_z n m ∧ val64 mf ≠ .nan ∧ val64 d ≠ .nan ∧ val64 t ≠ .nan ∧ zval b64 (val64 d) ≤ zval b64 (val64 t) ∧ -zval b64 (val64 d) ≤ zval b64 (val64 t) := by
  obtain ⟨ci, qi, ei, fi, zi⟩ := own_i2d hi
  obtain ⟨cu, qu, eu, fu, zu⟩ := own_i2d hu
  have hr : val64 r = roundRatio b64 false n m 0 := by rw [er]; exact own_quo hi hu (by omega)
  obtain ⟨c, q, hR⟩ := own_fin hn hnm (by omega)
  obtain ⟨zl, zg⟩ := own_zb hn hnm (by omega)
  have fr : Core.fits b64 (.fin false c q) := hR ▸ roundRatio_fits good_b64 false n (by omega) 0
  have zr : own_z n m = inUnits c q b64.qmin := by unfold own_z; rw [hR]; rfl
  have hP := own_P_pos
  have hH := own_H_big
  have ePH := own_PH
  have rel1 := own_rel hn (by omega : 0 < m) (Int.le_refl b64.qmin) (by decide) (by
    rw [Int.sub_self, show (0 : Int).toNat = 0 from rfl, Nat.pow_zero, Nat.mul_one]
    show 2 ^ 52 * m ≤ n * own_P
    have : own_P ≤ n * own_P := Nat.le_mul_of_pos_left _ hn
    omega) hR
  rw [← zr, show inUnits n 0 b64.qmin = n * own_P from rfl] at rel1
  -- the product
  obtain ⟨pe, pq, pz⟩ := product_units fr fu
  rw [show zmag b64 (.fin false c q) = own_z n m from zr.symm, show zmag b64 (.fin false cu qu) = m * own_P from zu] at pz
  have hmv : val64 mf = roundRatio b64 false (c * cu) 1 (q + qu) := by
    have : val64 mf = round b64 (exactProduct (val64 r) (val64 (FP.i2d u))) := by rw [em]; exact val64_dmul _ _
    rw [this, hr, hR, eu, pe]; rfl
  have hzm : 0 < own_z n m * (m * own_P) := Nat.mul_pos (by omega) (Nat.mul_pos (by omega) hP)
  have hA : 0 < c * cu := Nat.pos_of_ne_zero fun z => by
    rw [z] at pz
    unfold inUnits at pz
    rw [Nat.zero_mul] at pz
    omega
  have h2q : 2 * b64.qmin ≤ b64.qmin := by decide
  obtain ⟨cm, qm, hM⟩ : ∃ cm qm, roundRatio b64 false (c * cu) 1 (q + qu) = .fin false cm qm := by
    rcases roundRatio_cases b64 false (c * cu) 1 (q + qu) with h | h
    · exact h
    · have q1 := zmag_roundRatio_le good_b64 (s := false) (A := c * cu) (B := 1) (V := .fin false cu qu) (by decide) fu Datum.noConfusion h2q pq (by
        rw [pz, own_2q, show zmag b64 (.fin false cu qu) = m * own_P from zu]; exact own_k1 zg)
      rw [h, show zmag b64 (.fin false cu qu) = m * own_P from zu] at q1
      have q2 := own_inf
      have q3 : m * own_P ≤ 2147483647 * own_P := Nat.mul_le_mul_right _ hm
      omega
  have fm : Core.fits b64 (.fin false cm qm) := hM ▸ roundRatio_fits good_b64 false (c * cu) (by decide) (q + qu)
  have rel2 := own_rel hA (by decide : 0 < 1) h2q pq (by
    rw [own_2q]
    show 2 ^ 52 * (1 * own_P) ≤ inUnits (c * cu) (q + qu) (2 * b64.qmin)
    rw [pz]; exact own_k2 (by omega) (by omega)) hM
  rw [pz, units_fin fm h2q, own_2q, show zmag b64 (.fin false cm qm) = inUnits cm qm b64.qmin from rfl] at rel2
  have rel3 := own_k3 hP rel2
  -- the difference
  obtain ⟨ct, qt, evt, ft, zt⟩ := own_t hi hn
  have hmf : val64 mf = .fin false cm qm := hmv.trans hM
  have fn : Core.fits b64 (.fin true ci qi) := fi
  obtain ⟨sg, nn, e, se, sq, sz⟩ := sum_units fm fn
  have hd : val64 d = round b64 (.fin sg nn e) := by
    have : val64 d = round b64 (exactSum (val64 mf) (negate (val64 (FP.i2d i)))) := by rw [ed]; exact val64_dsub _ _
    rw [this, hmf, ei]
    exact congrArg (round b64) se
  have htv : val64 t = .fin false ct qt := by rw [et]; exact evt
  have z1 : zval b64 (.fin false cm qm) = (inUnits cm qm b64.qmin : Int) := rfl
  have z2 : zval b64 (.fin true ci qi) = -(inUnits ci qi b64.qmin : Int) := rfl
  have z3 : zval b64 (.fin false ct qt) = (zmag b64 (.fin false ct qt) : Int) := rfl
  rw [z1, z2, zi] at sz
  have e0 : ((2 ^ (b64.qmin - b64.qmin).toNat : Nat) : Int) = 1 := by decide
  generalize inUnits cm qm b64.qmin = w at *
  generalize own_z n m * m = x at *
  generalize n * own_P = y at *
  generalize zmag b64 (.fin false ct qt) = v at *
  have d1 : zval b64 (round b64 (.fin sg nn e)) ≤ zval b64 (.fin false ct qt) := zval_round_le good_b64 ft Datum.noConfusion (Int.le_refl _) sq (by
    rw [sz, e0, z3]; omega)
  have d2 : zval b64 (negate (.fin false ct qt)) ≤ zval b64 (round b64 (.fin sg nn e)) := zval_round_ge good_b64 (negate_fits ft) Datum.noConfusion (Int.le_refl _) sq (by
    rw [sz, e0, zval_negate, z3]; omega)
  rw [zval_negate] at d2
  refine ⟨by rw [hr]; exact roundRatio_ne_nan _ _ _ _ _, ?_, by rw [hmf]; exact Datum.noConfusion, ?_, by rw [htv]; exact Datum.noConfusion, by rw [hd, htv]; exact d1, by rw [hd, htv]; omega⟩
  · rw [hr]
    show signed (sgn (roundRatio b64 false n m 0)) (zmag b64 (roundRatio b64 false n m 0)) = _
    rw [sgn_roundRatio]; rfl
  · rw [hd]; exact roundRatio_ne_nan _ _ _ _ _
theorem own_fits1 : Core.fits b64 (.fin false (2 ^ 52) (-52)) := by unfold Core.fits; decide
theorem own_fin' {n m : Nat} (hm : 0 < m) (hnm : n ≤ m) : ∃ c q, roundRatio b64 false n m 0 = .fin false c q := by
  rcases roundRatio_cases b64 false n m 0 with h | h
  · exact h
  · have h1 := own_le (n := n) hm own_fits1 Datum.noConfusion (by rw [own_one, Nat.mul_comm]; exact Nat.mul_le_mul_left _ hnm)
    rw [own_one] at h1
    unfold own_z at h1
    rw [h] at h1
    have := own_inf
    have := own_P_pos
    omega
theorem own_mm1 {A1 A2 P z1 z2 B : Nat} (hlt : z2 < z1) (k1 : ¬ A1 * P ≤ z2 * B) (k2 : ¬ z1 * B ≤ A2 * P) (hA : A1 * P ≤ A2 * P)
    (d1 : ((A1 * P : Nat) - (z1 : Int) * (B : Int)).natAbs ≤ ((A1 * P : Nat) - (z2 : Int) * (B : Int)).natAbs) (d2 : ((A2 * P : Nat) - (z2 : Int) * (B : Int)).natAbs ≤ ((A2 * P : Nat) - (z1 : Int) * (B : Int)).natAbs) : A1 * P = A2 * P := by
  rw [← Int.natCast_mul, ← Int.natCast_mul] at d1 d2
  generalize A1 * P = a at *
  generalize A2 * P = b at *
  generalize z1 * B = x at *
  generalize z2 * B = y at *
  omega
theorem own_zmono {n1 m1 n2 m2 : Nat} (h1 : 0 < m1) (h2 : 0 < m2) (l1 : n1 ≤ m1) (l2 : n2 ≤ m2) (h : n1 * m2 ≤ n2 * m1) : own_z n1 m1 ≤ own_z n2 m2 := by
  have hB : 0 < m1 * m2 := Nat.mul_pos h1 h2
  have c1 : roundRatio b64 false n1 m1 0 = roundRatio b64 false (n1 * m2) (m1 * m2) 0 := roundRatio_congr h1 hB (by
    show n1 * (m1 * m2) * 1 = n1 * m2 * m1 * 1
    rw [Nat.mul_one, Nat.mul_one]; ac_rfl)
  have c2 : roundRatio b64 false n2 m2 0 = roundRatio b64 false (n2 * m1) (m1 * m2) 0 := roundRatio_congr h2 hB (by
    show n2 * (m1 * m2) * 1 = n2 * m1 * m2 * 1
    rw [Nat.mul_one, Nat.mul_one]; ac_rfl)
  obtain ⟨ca, qa, ha⟩ := own_fin' h1 l1
  obtain ⟨cb, qb, hb⟩ := own_fin' h2 l2
  have fa : Core.fits b64 (.fin false ca qa) := ha ▸ roundRatio_fits good_b64 false n1 h1 0
  have fb : Core.fits b64 (.fin false cb qb) := hb ▸ roundRatio_fits good_b64 false n2 h2 0
  have za : own_z (n1 * m2) (m1 * m2) = inUnits ca qa b64.qmin := by unfold own_z; rw [← c1, ha]; rfl
  have zb : own_z (n2 * m1) (m1 * m2) = inUnits cb qb b64.qmin := by unfold own_z; rw [← c2, hb]; rfl
  have ea : own_z n1 m1 = own_z (n1 * m2) (m1 * m2) := by unfold own_z; rw [c1]
  have eb : own_z n2 m2 = own_z (n2 * m1) (m1 * m2) := by unfold own_z; rw [c2]
  rw [ea, eb]
  rw [c1] at ha
  rw [c2] at hb
  have hg1 : ∀ V, Core.fits b64 V → V ≠ .nan → n1 * m2 * own_P ≤ zmag b64 V * (m1 * m2) → own_z (n1 * m2) (m1 * m2) ≤ zmag b64 V := fun V f n q => own_le hB f n q
  have hg2 : ∀ V, Core.fits b64 V → zmag b64 V * (m1 * m2) ≤ n2 * m1 * own_P → zmag b64 V ≤ own_z (n2 * m1) (m1 * m2) := fun V f q => own_ge hB f q
  have d1 := roundRatio_nearest good_b64 hB ha fb.1 fb.2.1 (Int.le_refl _) (by decide : b64.qmin ≤ 0)
  have d2 := roundRatio_nearest good_b64 hB hb fa.1 fa.2.1 (Int.le_refl _) (by decide : b64.qmin ≤ 0)
  unfold distance at d1 d2
  rw [show inUnits (n1 * m2) 0 b64.qmin = n1 * m2 * own_P from rfl, ← za, ← zb] at d1
  rw [show inUnits (n2 * m1) 0 b64.qmin = n2 * m1 * own_P from rfl, ← za, ← zb] at d2
  refine Nat.le_of_not_lt fun hlt => ?_
  have k1 : ¬ n1 * m2 * own_P ≤ own_z (n2 * m1) (m1 * m2) * (m1 * m2) := fun q => by
    have := hg1 _ fb Datum.noConfusion (by rw [show zmag b64 (.fin false cb qb) = own_z (n2 * m1) (m1 * m2) from zb.symm]; exact q)
    rw [show zmag b64 (.fin false cb qb) = own_z (n2 * m1) (m1 * m2) from zb.symm] at this
    omega
  have k2 : ¬ own_z (n1 * m2) (m1 * m2) * (m1 * m2) ≤ n2 * m1 * own_P := fun q => by
    have := hg2 _ fa (by rw [show zmag b64 (.fin false ca qa) = own_z (n1 * m2) (m1 * m2) from za.symm]; exact q)
    rw [show zmag b64 (.fin false ca qa) = own_z (n1 * m2) (m1 * m2) from za.symm] at this
    omega
  have hq := own_mm1 hlt k1 k2 (Nat.mul_le_mul_right _ h) d1 d2
  have hn := Nat.eq_of_mul_eq_mul_right own_P_pos hq
  rw [hn] at hlt
  omega
def own_r (i u : Int32) : UInt64 := if u = 0 then FP.dconst1 else FP.ddiv (FP.i2d i) (FP.i2d u)
theorem own_u0 {u : Int32} {m : Nat} (hu : u.toInt = m) : u = 0 ↔ m = 0 := by
  rw [← Int32.toInt_inj, hu, show (0 : Int32).toInt = 0 from rfl]; omega
theorem own_v1 : val64 FP.dconst1 = .fin false (2 ^ 52) (-52) := val64_dconst1
theorem own_v0 : val64 FP.dconst0 = .fin false 0 b64.qmin := val64_dconst0
theorem own_rv {i u : Int32} {n m : Nat} (hi : i.toInt = n) (hu : u.toInt = m) (hm : 0 < m) : val64 (own_r i u) = roundRatio b64 false n m 0 := by
  rw [own_r, if_neg (fun q => by have := (own_u0 hu).mp q; omega)]
  exact own_quo hi hu hm
theorem own_rnan {i u : Int32} {n m : Nat} (hi : i.toInt = n) (hu : u.toInt = m) : val64 (own_r i u) ≠ .nan := by
  by_cases h : u = 0
  · rw [own_r, if_pos h, own_v1]; exact Datum.noConfusion
  · rw [own_rv hi hu (Nat.pos_of_ne_zero fun q => h ((own_u0 hu).mpr q))]; exact roundRatio_ne_nan _ _ _ _ _
theorem own_rz {i u : Int32} {n m : Nat} (hi : i.toInt = n) (hu : u.toInt = m) (hm : 0 < m) : zval b64 (val64 (own_r i u)) = own_z n m := by
  rw [own_rv hi hu hm]
  show signed (sgn (roundRatio b64 false n m 0)) (zmag b64 (roundRatio b64 false n m 0)) = _
  rw [sgn_roundRatio]; rfl
theorem own_r1 {i u : Int32} {n m : Nat} (hi : i.toInt = n) (hu : u.toInt = m) (h : m = 0 ∨ n = m) : own_r i u = FP.dconst1 := by
  by_cases hm : m = 0
  · rw [own_r, if_pos ((own_u0 hu).mpr hm)]
  · refine val64_inj (own_rnan hi hu) ?_
    rw [own_rv hi hu (Nat.pos_of_ne_zero hm), own_v1, h.resolve_left hm]
    have hp := Nat.pos_of_ne_zero hm
    exact roundRatio_exact good_b64 hp own_fits1 (by
      rw [show (0 - (-52 : Int)).toNat = 52 from by decide, show ((-52 : Int) - 0).toNat = 0 from by decide, Nat.pow_zero, Nat.mul_one, Nat.mul_comm])
theorem own_r0 {i u : Int32} {n m : Nat} (hi : i.toInt = n) (hu : u.toInt = m) (hm : 0 < m) (hn : n = 0) : own_r i u = FP.dconst0 := by
  refine val64_inj (own_rnan hi hu) ?_
  rw [own_rv hi hu hm, own_v0, hn]
  rfl
theorem own_req {i u i' u' : Int32} {n m k : Nat} (hi : i.toInt = n) (hu : u.toInt = m) (hi' : i'.toInt = (n * k : Nat)) (hu' : u'.toInt = (m * k : Nat)) (hk : 0 < k) : own_r i u = own_r i' u' := by
  by_cases hm : m = 0
  · rw [own_r1 hi hu (Or.inl hm), own_r1 hi' hu' (Or.inl (by rw [hm, Nat.zero_mul]))]
  · have hp := Nat.pos_of_ne_zero hm
    refine val64_inj (own_rnan hi hu) ?_
    rw [own_rv hi hu hp, own_rv hi' hu' (Nat.mul_pos hp hk)]
    refine roundRatio_congr hp (Nat.mul_pos hp hk) ?_
    show n * (m * k) * 1 = n * k * m * 1
    rw [Nat.mul_one, Nat.mul_one]; ac_rfl
end OwnFp
theorem own_retD {p : Program} {l : Launch} {e : Env} {R : Room} {s : State} {m : MethodId} {args : Array Value} {below : List Frame} {meth : Method} {c : Code} {T : State} {locs : List Loc} {cells slots : Nat} {Q : Option Value → Heap → List Loc → Prop} {k n : Nat} (X : Stand p l e R s m args below meth c T locs cells slots) (hx : p.tables.exec = Jvm.exec) (hret : meth.sig.returnType = some .double) (hlk : meth.locks = false) {pc : Nat} {Ls : Array Slot} {z : UInt64} {rest : List Value}
    (hd : decode c.code pc = .ok (.dreturn, 1)) (hQ : Q (some (.double z)) T.heap locs) (hc : cells ≤ k) (hs : slots ≤ n) : own_Fin p e below s Q k n (T.setTop (mkF m pc Ls (.double z :: rest))) :=
  own_ret X hx hret hlk rfl (Or.inr (Or.inr (Or.inl ⟨rfl, rfl, z, rfl⟩))) hd hQ hc hs
theorem own_msk (x : Int32) : ∃ n : Nat, (x &&& (2147483647 : Int32)).toInt = n ∧ n ≤ 2147483647 := by
  have h := c_mask x 2147483647 31 (by decide) (by decide)
  exact ⟨((x &&& (2147483647 : Int32)).toInt).toNat, by omega, by omega⟩
def own_min (a b : Int32) : Int32 := if b < a then b else a
def own_max (a b : Int32) : Int32 := if a < b then b else a
theorem own_mmx {x y : Int32} {a b : Nat} (hx : x.toInt = a) (hy : y.toInt = b) (ha : a ≤ 2147483647) (hb : b ≤ 2147483647) : ∃ n m : Nat, (own_min x y).toInt = n ∧ (own_max x y).toInt = m ∧ n ≤ m ∧ m ≤ 2147483647 := by
  by_cases h1 : y < x
  · have e1 : own_min x y = y := if_pos h1
    have h2 := Int32.lt_iff_toInt_lt.mp h1
    have e2 : own_max x y = x := if_neg (fun q => by have := Int32.lt_iff_toInt_lt.mp q; omega)
    exact ⟨b, a, by rw [e1]; exact hy, by rw [e2]; exact hx, by omega, ha⟩
  · have e1 : own_min x y = x := if_neg h1
    have h2 : ¬ y.toInt < x.toInt := fun q => h1 (Int32.lt_iff_toInt_lt.mpr q)
    by_cases h3 : x < y
    · have e2 : own_max x y = y := if_pos h3
      exact ⟨a, b, by rw [e1]; exact hx, by rw [e2]; exact hy, by omega, hb⟩
    · have e2 : own_max x y = x := if_neg h3
      exact ⟨a, a, by rw [e1]; exact hx, by rw [e2]; exact hx, Nat.le_refl _, ha⟩
theorem own_w64 {x : Int32} {n : Nat} (h : x.toInt = n) : x.toInt64.toInt = n := by rw [Int32.toInt_toInt64]; exact h
theorem own_ml {x y : Int64} {a b : Nat} (hx : x.toInt = a) (hy : y.toInt = b) (ha : a ≤ 2147483647) (hb : b ≤ 2147483647) : (x * y).toInt = (a * b : Nat) := by
  have h : a * b ≤ 2147483647 * 2147483647 := Nat.mul_le_mul ha hb
  have e : x.toInt * y.toInt = (a * b : Nat) := by rw [hx, hy, Int.natCast_mul]
  have := Jvm.FP.Core.int64_mul (a := x) (b := y) (by rw [e]; omega) (by rw [e]; omega)
  rw [this, e]
theorem own_kk (x : Int32) : ∃ k : Nat, ((x &&& (15 : Int32)) + (1 : Int32)).toInt64.toInt = k ∧ 1 ≤ k ∧ k ≤ 16 := by
  have h := c_mask x 15 4 (by decide) (by decide)
  have h2 := c_iadd (x &&& (15 : Int32)) 1
  have r := rng32 ((x &&& (15 : Int32)) + (1 : Int32))
  have e1 : (1 : Int32).toInt = 1 := rfl
  rw [Int32.toInt_toInt64]
  exact ⟨((x &&& (15 : Int32)) + (1 : Int32)).toInt.toNat, by omega, by omega, by omega⟩
theorem own_kd {u k : Int64} {m j : Nat} (hu : u.toInt = m) (hk : k.toInt = j) (h1 : 1 ≤ j) (h16 : j ≤ 16) (hm : m ≤ 2147483647) : ∃ j' : Nat, (if (2147483647 : Int64) < u * k then (1 : Int64) else k).toInt = j' ∧ 1 ≤ j' ∧ j' ≤ 16 ∧ m * j' ≤ 2147483647 := by
  have e := own_ml hu hk hm (by omega)
  have c0 : (2147483647 : Int64).toInt = 2147483647 := rfl
  by_cases h : (2147483647 : Int64) < u * k
  · rw [if_pos h]; exact ⟨1, rfl, by omega, by omega, by omega⟩
  · rw [if_neg h]
    rw [Int64.lt_iff_toInt_lt, c0, e] at h
    exact ⟨j, hk, h1, h16, by omega⟩
theorem own_i3 {x : Int32} {k : Int64} {n j : Nat} (hx : x.toInt = n) (hk : k.toInt = j) (hn : n ≤ 2147483647) (hj : j ≤ 16) (h : n * j ≤ 2147483647) : ((x.toInt64 * k).toInt32).toInt = (n * j : Nat) := by
  have e := own_ml (own_w64 hx) hk hn (by omega)
  rw [Jvm.FP.Core.int64_toInt32 (by rw [e]; omega) (by rw [e]; omega), e]
theorem own_nlt {x : Int32} {n : Nat} (h : x.toInt = n) : ¬ x < 0 := fun q => by
  have := Int32.lt_iff_toInt_lt.mp q
  have e0 : (0 : Int32).toInt = 0 := rfl
  omega
theorem own_nle {x y : Int32} {n m : Nat} (h : x.toInt = n) (h' : y.toInt = m) (q : n ≤ m) : ¬ y < x := fun z => by
  have := Int32.lt_iff_toInt_lt.mp z
  omega
theorem own_pd0 : parseMethodDescriptor "(II)I" = some ⟨[.int, .int], some .int⟩ := by decide +kernel
theorem own_pd1 : parseMethodDescriptor "(II)V" = some ⟨[.int, .int], none⟩ := by decide +kernel
theorem own_pd2 : parseMethodDescriptor "()D" = some ⟨[], some .double⟩ := by decide +kernel
theorem own_pd3 : parseMethodDescriptor "(IID)Z" = some ⟨[.int, .int, .double], some .boolean⟩ := by decide +kernel
theorem own_pd4 : parseMethodDescriptor "()V" = some ⟨[], none⟩ := by decide +kernel
theorem dmn_0 : decode jdk_29_method_69_code 0 = .ok (.iload_n 0, 1) := by decide +kernel
theorem dmn_1 : decode jdk_29_method_69_code 1 = .ok (.iload_n 1, 1) := by decide +kernel
theorem dmn_2 : decode jdk_29_method_69_code 2 = .ok (.if_icmp .gt 7, 3) := by decide +kernel
theorem dmn_5 : decode jdk_29_method_69_code 5 = .ok (.iload_n 0, 1) := by decide +kernel
theorem dmn_6 : decode jdk_29_method_69_code 6 = .ok (.goto 4, 3) := by decide +kernel
theorem dmn_9 : decode jdk_29_method_69_code 9 = .ok (.iload_n 1, 1) := by decide +kernel
theorem dmn_10 : decode jdk_29_method_69_code 10 = .ok (.ireturn, 1) := by decide +kernel
theorem own_efmn (m : MethodId) (p1 p2 : Int32) : entryFrame m #[(.int p1), (.int p2)] 2 = mkF m 0 #[.val (.int p1), .val (.int p2)] [] := by first | (simp [entryFrame, mkF, argsToLocals, Value.category]; done) | rfl
set_option maxRecDepth 65536 in
set_option maxHeartbeats 40000000 in
theorem own_rmmn (l : Launch) (Z : State) (a0 : Array Value) (hw : ∀ d ∈ tables_1, d.before a0 Z = true) (p1 p2 : Int32) (h0 : Heap)  :
    own_C l Z (⟨"java/lang/Math", "min", "(II)I"⟩ : MethodName) jdk_29_method_69_code 2 (some .int) [] ({ frames := 0, cells := 0, slots := 0, locals := 0 } : Room) #[(.int p1), (.int p2)] h0 (fun v h L => v = some (.int (own_min p1 p2)) ∧ L = [] ∧ h = h0) := by
  refine own_body (Jvm.Free.JP.mathPlain rfl (by decide +kernel)) fun p e s m below meth c s₁ hx hby hml hret hlk hown hnm hZ X0 e0 => ?_
  rw [own_efmn m p1 p2]
  refine own_go (U' := s₁.setTop (mkF m 1 #[.val (.int p1), .val (.int p2)] [(.int p1)])) (fun t k => XS.iloadN X0.here hx rfl (hb hby dmn_0) rfl k) ?_
  refine own_go (U' := s₁.setTop (mkF m 2 #[.val (.int p1), .val (.int p2)] [(.int p2), (.int p1)])) (fun t k => XS.iloadN X0.here hx rfl (hb hby dmn_1) rfl k) ?_
  by_cases hc2 : p2 < p1
  · refine own_go (U' := s₁.setTop (mkF m 9 #[.val (.int p1), .val (.int p2)] [])) (fun t k => XS.icmpYes X0.here hx rfl (pc0 := 2) (pc' := 9) rfl (hb hby dmn_2) rfl (tlt hc2).2.2.1 (by decide) (by decide) k) ?_
    refine own_go (U' := s₁.setTop (mkF m 10 #[.val (.int p1), .val (.int p2)] [(.int p2)])) (fun t k => XS.iloadN X0.here hx rfl (hb hby dmn_9) rfl k) ?_
    refine own_retI X0 hx hret hlk (hb hby dmn_10) ?_ (by decide) (by decide)
    refine ⟨?_, rfl, e0⟩
    rw [own_min, if_pos hc2]
  · refine own_go (U' := s₁.setTop (mkF m 5 #[.val (.int p1), .val (.int p2)] [])) (fun t k => XS.icmpNo X0.here hx rfl (hb hby dmn_2) rfl (flt hc2).2.2.1 k) ?_
    refine own_go (U' := s₁.setTop (mkF m 6 #[.val (.int p1), .val (.int p2)] [(.int p1)])) (fun t k => XS.iloadN X0.here hx rfl (hb hby dmn_5) rfl k) ?_
    refine own_go (U' := s₁.setTop (mkF m 10 #[.val (.int p1), .val (.int p2)] [(.int p1)])) (fun t k => XS.goto X0.here hx rfl (pc0 := 6) (pc' := 10) rfl (hb hby dmn_6) (by decide) (by decide) k) ?_
    refine own_retI X0 hx hret hlk (hb hby dmn_10) ?_ (by decide) (by decide)
    refine ⟨?_, rfl, e0⟩
    rw [own_min, if_neg hc2]
theorem dmx_0 : decode jdk_29_method_65_code 0 = .ok (.iload_n 0, 1) := by decide +kernel
theorem dmx_1 : decode jdk_29_method_65_code 1 = .ok (.iload_n 1, 1) := by decide +kernel
theorem dmx_2 : decode jdk_29_method_65_code 2 = .ok (.if_icmp .lt 7, 3) := by decide +kernel
theorem dmx_5 : decode jdk_29_method_65_code 5 = .ok (.iload_n 0, 1) := by decide +kernel
theorem dmx_6 : decode jdk_29_method_65_code 6 = .ok (.goto 4, 3) := by decide +kernel
theorem dmx_9 : decode jdk_29_method_65_code 9 = .ok (.iload_n 1, 1) := by decide +kernel
theorem dmx_10 : decode jdk_29_method_65_code 10 = .ok (.ireturn, 1) := by decide +kernel
theorem own_efmx (m : MethodId) (p1 p2 : Int32) : entryFrame m #[(.int p1), (.int p2)] 2 = mkF m 0 #[.val (.int p1), .val (.int p2)] [] := by first | (simp [entryFrame, mkF, argsToLocals, Value.category]; done) | rfl
set_option maxRecDepth 65536 in
set_option maxHeartbeats 40000000 in
theorem own_rmmx (l : Launch) (Z : State) (a0 : Array Value) (hw : ∀ d ∈ tables_1, d.before a0 Z = true) (p1 p2 : Int32) (h0 : Heap)  :
    own_C l Z (⟨"java/lang/Math", "max", "(II)I"⟩ : MethodName) jdk_29_method_65_code 2 (some .int) [] ({ frames := 0, cells := 0, slots := 0, locals := 0 } : Room) #[(.int p1), (.int p2)] h0 (fun v h L => v = some (.int (own_max p1 p2)) ∧ L = [] ∧ h = h0) := by
  refine own_body (Jvm.Free.JP.mathPlain rfl (by decide +kernel)) fun p e s m below meth c s₁ hx hby hml hret hlk hown hnm hZ X0 e0 => ?_
  rw [own_efmx m p1 p2]
  refine own_go (U' := s₁.setTop (mkF m 1 #[.val (.int p1), .val (.int p2)] [(.int p1)])) (fun t k => XS.iloadN X0.here hx rfl (hb hby dmx_0) rfl k) ?_
  refine own_go (U' := s₁.setTop (mkF m 2 #[.val (.int p1), .val (.int p2)] [(.int p2), (.int p1)])) (fun t k => XS.iloadN X0.here hx rfl (hb hby dmx_1) rfl k) ?_
  by_cases hc2 : p1 < p2
  · refine own_go (U' := s₁.setTop (mkF m 9 #[.val (.int p1), .val (.int p2)] [])) (fun t k => XS.icmpYes X0.here hx rfl (pc0 := 2) (pc' := 9) rfl (hb hby dmx_2) rfl (tlt hc2).1 (by decide) (by decide) k) ?_
    refine own_go (U' := s₁.setTop (mkF m 10 #[.val (.int p1), .val (.int p2)] [(.int p2)])) (fun t k => XS.iloadN X0.here hx rfl (hb hby dmx_9) rfl k) ?_
    refine own_retI X0 hx hret hlk (hb hby dmx_10) ?_ (by decide) (by decide)
    refine ⟨?_, rfl, e0⟩
    rw [own_max, if_pos hc2]
  · refine own_go (U' := s₁.setTop (mkF m 5 #[.val (.int p1), .val (.int p2)] [])) (fun t k => XS.icmpNo X0.here hx rfl (hb hby dmx_2) rfl (flt hc2).1 k) ?_
    refine own_go (U' := s₁.setTop (mkF m 6 #[.val (.int p1), .val (.int p2)] [(.int p1)])) (fun t k => XS.iloadN X0.here hx rfl (hb hby dmx_5) rfl k) ?_
    refine own_go (U' := s₁.setTop (mkF m 10 #[.val (.int p1), .val (.int p2)] [(.int p1)])) (fun t k => XS.goto X0.here hx rfl (pc0 := 6) (pc' := 10) rfl (hb hby dmx_6) (by decide) (by decide) k) ?_
    refine own_retI X0 hx hret hlk (hb hby dmx_10) ?_ (by decide) (by decide)
    refine ⟨?_, rfl, e0⟩
    rw [own_max, if_neg hc2]
theorem doi_0 : decode prog_37_method_1_code 0 = .ok (.aload_n 0, 1) := by decide +kernel
theorem doi_1 : decode prog_37_method_1_code 1 = .ok (.invokespecial 1, 3) := by decide +kernel
theorem doi_4 : decode prog_37_method_1_code 4 = .ok (.iload_n 1, 1) := by decide +kernel
theorem doi_5 : decode prog_37_method_1_code 5 = .ok (.ifCond .lt 8, 3) := by decide +kernel
theorem doi_8 : decode prog_37_method_1_code 8 = .ok (.iload_n 1, 1) := by decide +kernel
theorem doi_9 : decode prog_37_method_1_code 9 = .ok (.iload_n 2, 1) := by decide +kernel
theorem doi_10 : decode prog_37_method_1_code 10 = .ok (.if_icmp .le 18, 3) := by decide +kernel
theorem doi_13 : decode prog_37_method_1_code 13 = .ok (.new 7, 3) := by decide +kernel
theorem doi_16 : decode prog_37_method_1_code 16 = .ok (.dup, 1) := by decide +kernel
theorem doi_17 : decode prog_37_method_1_code 17 = .ok (.iload_n 1, 1) := by decide +kernel
theorem doi_18 : decode prog_37_method_1_code 18 = .ok (.iload_n 2, 1) := by decide +kernel
theorem doi_24 : decode prog_37_method_1_code 24 = .ok (.invokespecial 13, 3) := by decide +kernel
theorem doi_27 : decode prog_37_method_1_code 27 = .ok (.athrow, 1) := by decide +kernel
theorem doi_28 : decode prog_37_method_1_code 28 = .ok (.aload_n 0, 1) := by decide +kernel
theorem doi_29 : decode prog_37_method_1_code 29 = .ok (.iload_n 1, 1) := by decide +kernel
theorem doi_30 : decode prog_37_method_1_code 30 = .ok (.putfield 16, 3) := by decide +kernel
theorem doi_33 : decode prog_37_method_1_code 33 = .ok (.aload_n 0, 1) := by decide +kernel
theorem doi_34 : decode prog_37_method_1_code 34 = .ok (.iload_n 2, 1) := by decide +kernel
theorem doi_35 : decode prog_37_method_1_code 35 = .ok (.putfield 22, 3) := by decide +kernel
theorem doi_38 : decode prog_37_method_1_code 38 = .ok (.return_, 1) := by decide +kernel
theorem own_pn0 : plainName "com/example/minwise/minwise/model/Overlap" = true := by first | (simp [plainName, overriddenIn]; done) | decide +kernel
theorem own_efoi (m : MethodId) (a : Addr) (p1 p2 : Int32) : entryFrame m #[(.ref a), (.int p1), (.int p2)] 3 = mkF m 0 #[.val (.ref a), .val (.int p1), .val (.int p2)] [] := by first | (simp [entryFrame, mkF, argsToLocals, Value.category]; done) | rfl
set_option maxRecDepth 65536 in
set_option maxHeartbeats 40000000 in
theorem own_rmoi (l : Launch) (Z : State) (a0 : Array Value) (hw : ∀ d ∈ tables_1, d.before a0 Z = true) (a : Addr) (p1 p2 : Int32) (h0 : Heap) (n0 : Nat) (g_a : n0 ≤ a) (h1 : ¬ p1 < 0) (h2 : ¬ p2 < p1) (u0 u1 : Value) (E_a : Exa Z h0 a "com/example/minwise/minwise/model/Overlap") (F_intersection_a : Fld Z h0 a "com/example/minwise/minwise/model/Overlap" "intersection" "I" u0) (F_union_a : Fld Z h0 a "com/example/minwise/minwise/model/Overlap" "union" "I" u1) :
    own_C l Z (⟨"com/example/minwise/minwise/model/Overlap", "<init>", "(II)V"⟩ : MethodName) prog_37_method_1_code 3 none [] ({ frames := 1, cells := 0, slots := 0, locals := 12 } : Room) #[(.ref a), (.int p1), (.int p2)] h0 (fun v h L => v = none ∧ Fr n0 L ∧ Keep h0 h [a] ∧ Fld Z h a "com/example/minwise/minwise/model/Overlap" "intersection" "I" (.int p1) ∧ Fld Z h a "com/example/minwise/minwise/model/Overlap" "union" "I" (.int p2)) := by
  refine own_body (plainFor_of_name own_pn0) fun p e s m below meth c s₁ hx hby hml hret hlk hown hnm hZ X0 e0 => ?_
  rw [own_efoi m a p1 p2]
  have N0 := Fr.nil n0
  have K := Keep.refl h0 [a]
  refine own_go (U' := s₁.setTop (mkF m 1 #[.val (.ref a), .val (.int p1), .val (.int p2)] [(.ref a)])) (fun t k => XS.aloadN X0.here hx rfl (hb hby doi_0) rfl rfl k) ?_
  obtain ⟨T1, X1, e1, st1⟩ := initO X0 hx hZ hown (hw _ (List.mem_of_getElem? (i := 15) rfl)) (hw _ (List.mem_of_getElem? (i := 16) rfl)) (hw _ (List.mem_of_getElem? (i := 17) rfl)) e0 (g := (mkF m 1 #[.val (.ref a), .val (.int p1), .val (.int p2)] [(.ref a)])) rfl (by rw [hml]; rfl) rfl (hb hby doi_1) (by decide) (W := 0) (by show 2 * 0 + _ ≤ _; exact Nat.le_of_eq rfl) (by decide)
  refine own_go (U' := T1.setTop (mkF m 4 #[.val (.ref a), .val (.int p1), .val (.int p2)] [])) st1 ?_
  refine own_go (U' := T1.setTop (mkF m 5 #[.val (.ref a), .val (.int p1), .val (.int p2)] [(.int p1)])) (fun t k => XS.iloadN X1.here hx rfl (hb hby doi_4) rfl k) ?_
  refine own_go (U' := T1.setTop (mkF m 8 #[.val (.ref a), .val (.int p1), .val (.int p2)] [])) (fun t k => XS.ifNo X1.here hx rfl (hb hby doi_5) rfl ((if0 _ _).trans (flt h1).1) k) ?_
  refine own_go (U' := T1.setTop (mkF m 9 #[.val (.ref a), .val (.int p1), .val (.int p2)] [(.int p1)])) (fun t k => XS.iloadN X1.here hx rfl (hb hby doi_8) rfl k) ?_
  refine own_go (U' := T1.setTop (mkF m 10 #[.val (.ref a), .val (.int p1), .val (.int p2)] [(.int p2), (.int p1)])) (fun t k => XS.iloadN X1.here hx rfl (hb hby doi_9) rfl k) ?_
  refine own_go (U' := T1.setTop (mkF m 28 #[.val (.ref a), .val (.int p1), .val (.int p2)] [])) (fun t k => XS.icmpYes X1.here hx rfl (pc0 := 10) (pc' := 28) rfl (hb hby doi_10) rfl (flt h2).2.2.2 (by decide) (by decide) k) ?_
  refine own_go (U' := T1.setTop (mkF m 29 #[.val (.ref a), .val (.int p1), .val (.int p2)] [(.ref a)])) (fun t k => XS.aloadN X1.here hx rfl (hb hby doi_28) rfl rfl k) ?_
  refine own_go (U' := T1.setTop (mkF m 30 #[.val (.ref a), .val (.int p1), .val (.int p2)] [(.int p1), (.ref a)])) (fun t k => XS.iloadN X1.here hx rfl (hb hby doi_29) rfl k) ?_
  obtain ⟨T2, h2, X2, e2, W2, st2⟩ := putF X1 hx hZ hown (host := "") (Or.inl (hw _ (List.mem_of_getElem? (i := 18) rfl))) Via.refl e1 F_intersection_a E_a (Or.inr ⟨(hw _ (List.mem_of_getElem? (i := 19) rfl)), rfl, hnm⟩) (hw _ (List.mem_of_getElem? (i := 10) rfl)) (ty := .int) (by decide) rfl rfl (g := (mkF m 30 #[.val (.ref a), .val (.int p1), .val (.int p2)] [(.int p1), (.ref a)])) rfl rfl (hb hby doi_30)
  have K := K.wr W2 (Or.inl (List.mem_of_getElem? (i := 0) rfl))
  have E_a := E_a.wr W2
  have F_union_a := F_union_a.other W2 (Or.inr (slot_ne (Or.inr (hw _ (List.mem_of_getElem? (i := 21) rfl))) (Or.inr (hw _ (List.mem_of_getElem? (i := 19) rfl))) (by decide) (t := .int) (t' := .int) (by decide) (by decide)))
  have F_intersection_a := F_intersection_a.same W2
  have N2 := Fr.snoc X2 N0 g_a
  refine own_go (U' := T2.setTop (mkF m 33 #[.val (.ref a), .val (.int p1), .val (.int p2)] [])) st2 ?_
  refine own_go (U' := T2.setTop (mkF m 34 #[.val (.ref a), .val (.int p1), .val (.int p2)] [(.ref a)])) (fun t k => XS.aloadN X2.here hx rfl (hb hby doi_33) rfl rfl k) ?_
  refine own_go (U' := T2.setTop (mkF m 35 #[.val (.ref a), .val (.int p1), .val (.int p2)] [(.int p2), (.ref a)])) (fun t k => XS.iloadN X2.here hx rfl (hb hby doi_34) rfl k) ?_
  obtain ⟨T3, h3, X3, e3, W3, st3⟩ := putF X2 hx hZ hown (host := "") (Or.inl (hw _ (List.mem_of_getElem? (i := 20) rfl))) Via.refl e2 F_union_a E_a (Or.inr ⟨(hw _ (List.mem_of_getElem? (i := 21) rfl)), rfl, hnm⟩) (hw _ (List.mem_of_getElem? (i := 10) rfl)) (ty := .int) (by decide) rfl rfl (g := (mkF m 35 #[.val (.ref a), .val (.int p1), .val (.int p2)] [(.int p2), (.ref a)])) rfl rfl (hb hby doi_35)
  have K := K.wr W3 (Or.inl (List.mem_of_getElem? (i := 0) rfl))
  have E_a := E_a.wr W3
  have F_intersection_a := F_intersection_a.other W3 (Or.inr (slot_ne (Or.inr (hw _ (List.mem_of_getElem? (i := 19) rfl))) (Or.inr (hw _ (List.mem_of_getElem? (i := 21) rfl))) (by decide) (t := .int) (t' := .int) (by decide) (by decide)))
  have F_union_a := F_union_a.same W3
  have N3 := Fr.snoc X3 N2 g_a
  refine own_go (U' := T3.setTop (mkF m 38 #[.val (.ref a), .val (.int p1), .val (.int p2)] [])) st3 ?_
  refine own_retV X3 hx hret hlk (hb hby doi_38) ?_ (by decide) (by decide)
  rw [e3]
  exact ⟨rfl, N3, K, F_intersection_a, F_union_a⟩
theorem drs_0 : decode prog_37_method_4_code 0 = .ok (.aload_n 0, 1) := by decide +kernel
theorem drs_1 : decode prog_37_method_4_code 1 = .ok (.getfield 22, 3) := by decide +kernel
theorem drs_4 : decode prog_37_method_4_code 4 = .ok (.ifCond .ne 7, 3) := by decide +kernel
theorem drs_7 : decode prog_37_method_4_code 7 = .ok (.dconst 1, 1) := by decide +kernel
theorem drs_8 : decode prog_37_method_4_code 8 = .ok (.goto 14, 3) := by decide +kernel
theorem drs_11 : decode prog_37_method_4_code 11 = .ok (.aload_n 0, 1) := by decide +kernel
theorem drs_12 : decode prog_37_method_4_code 12 = .ok (.getfield 16, 3) := by decide +kernel
theorem drs_15 : decode prog_37_method_4_code 15 = .ok (.i2d, 1) := by decide +kernel
theorem drs_16 : decode prog_37_method_4_code 16 = .ok (.aload_n 0, 1) := by decide +kernel
theorem drs_17 : decode prog_37_method_4_code 17 = .ok (.getfield 22, 3) := by decide +kernel
theorem drs_20 : decode prog_37_method_4_code 20 = .ok (.i2d, 1) := by decide +kernel
theorem drs_21 : decode prog_37_method_4_code 21 = .ok (.ddiv, 1) := by decide +kernel
theorem drs_22 : decode prog_37_method_4_code 22 = .ok (.dreturn, 1) := by decide +kernel
theorem own_efrs (m : MethodId) (a : Addr) : entryFrame m #[(.ref a)] 1 = mkF m 0 #[.val (.ref a)] [] := by first | (simp [entryFrame, mkF, argsToLocals, Value.category]; done) | rfl
set_option maxRecDepth 65536 in
set_option maxHeartbeats 40000000 in
theorem own_rmrs (l : Launch) (Z : State) (a0 : Array Value) (hw : ∀ d ∈ tables_1, d.before a0 Z = true) (a : Addr) (h0 : Heap) (p1 p2 : Int32) (na ma : Nat) (hi : p1.toInt = na) (hu : p2.toInt = ma) (F_intersection_a : Fld Z h0 a "com/example/minwise/minwise/model/Overlap" "intersection" "I" (.int p1)) (F_union_a : Fld Z h0 a "com/example/minwise/minwise/model/Overlap" "union" "I" (.int p2)) :
    own_C l Z (⟨"com/example/minwise/minwise/model/Overlap", "resemblance", "()D"⟩ : MethodName) prog_37_method_4_code 1 (some .double) [] ({ frames := 0, cells := 0, slots := 0, locals := 0 } : Room) #[(.ref a)] h0 (fun v h L => v = some (.double (own_r p1 p2)) ∧ L = [] ∧ h = h0) := by
  refine own_body (plainFor_of_name own_pn0) fun p e s m below meth c s₁ hx hby hml hret hlk hown hnm hZ X0 e0 => ?_
  rw [own_efrs m a]
  have hnn := own_rnan hi hu
  refine own_go (U' := s₁.setTop (mkF m 1 #[.val (.ref a)] [(.ref a)])) (fun t k => XS.aloadN X0.here hx rfl (hb hby drs_0) rfl rfl k) ?_
  obtain ⟨T1, X1, e1, st1⟩ := getF X0 hx hZ hown (host := "") (Or.inl (hw _ (List.mem_of_getElem? (i := 20) rfl))) Via.refl e0 F_union_a (g := (mkF m 1 #[.val (.ref a)] [(.ref a)])) rfl rfl (hb hby drs_1)
  refine own_go (U' := T1.setTop (mkF m 4 #[.val (.ref a)] [(.int p2)])) st1 ?_
  by_cases hz : p2 = (0 : Int32)
  · refine own_go (U' := T1.setTop (mkF m 7 #[.val (.ref a)] [])) (fun t k => XS.ifNo X1.here hx rfl (hb hby drs_4) rfl ((if0 _ _).trans (teq hz).2) k) ?_
    rw [show own_r p1 p2 = FP.dconst1 from if_pos hz]
    refine own_go (U' := T1.setTop (mkF m 8 #[.val (.ref a)] [(.double FP.dconst1)])) (fun t k => XS.dconst1 X1.here hx rfl (hb hby drs_7) rfl k) ?_
    refine own_go (U' := T1.setTop (mkF m 22 #[.val (.ref a)] [(.double FP.dconst1)])) (fun t k => XS.goto X1.here hx rfl (pc0 := 8) (pc' := 22) rfl (hb hby drs_8) (by decide) (by decide) k) ?_
    refine own_retD X1 hx hret hlk (hb hby drs_22) ?_ (by decide) (by decide)
    exact ⟨rfl, rfl, e1⟩
  · refine own_go (U' := T1.setTop (mkF m 11 #[.val (.ref a)] [])) (fun t k => XS.ifYes X1.here hx rfl (pc0 := 4) (pc' := 11) rfl (hb hby drs_4) rfl ((if0 _ _).trans (feq hz).2) (by decide) (by decide) k) ?_
    rw [show own_r p1 p2 = FP.ddiv (FP.i2d p1) (FP.i2d p2) from if_neg hz] at hnn ⊢
    refine own_go (U' := T1.setTop (mkF m 12 #[.val (.ref a)] [(.ref a)])) (fun t k => XS.aloadN X1.here hx rfl (hb hby drs_11) rfl rfl k) ?_
    obtain ⟨T2, X2, e2, st2⟩ := getF X1 hx hZ hown (host := "") (Or.inl (hw _ (List.mem_of_getElem? (i := 18) rfl))) Via.refl e1 F_intersection_a (g := (mkF m 12 #[.val (.ref a)] [(.ref a)])) rfl rfl (hb hby drs_12)
    refine own_go (U' := T2.setTop (mkF m 15 #[.val (.ref a)] [(.int p1)])) st2 ?_
    refine own_go (U' := T2.setTop (mkF m 16 #[.val (.ref a)] [(.double (FP.i2d p1))])) (fun t k => XS.i2dS X2.here hx rfl (hb hby drs_15) rfl rfl k) ?_
    refine own_go (U' := T2.setTop (mkF m 17 #[.val (.ref a)] [(.ref a), (.double (FP.i2d p1))])) (fun t k => XS.aloadN X2.here hx rfl (hb hby drs_16) rfl rfl k) ?_
    obtain ⟨T3, X3, e3, st3⟩ := getF X2 hx hZ hown (host := "") (Or.inl (hw _ (List.mem_of_getElem? (i := 20) rfl))) Via.refl e2 F_union_a (g := (mkF m 17 #[.val (.ref a)] [(.ref a), (.double (FP.i2d p1))])) rfl rfl (hb hby drs_17)
    refine own_go (U' := T3.setTop (mkF m 20 #[.val (.ref a)] [(.int p2), (.double (FP.i2d p1))])) st3 ?_
    refine own_go (U' := T3.setTop (mkF m 21 #[.val (.ref a)] [(.double (FP.i2d p2)), (.double (FP.i2d p1))])) (fun t k => XS.i2dS X3.here hx rfl (hb hby drs_20) rfl rfl k) ?_
    refine own_go (U' := T3.setTop (mkF m 22 #[.val (.ref a)] [(.double (FP.ddiv (FP.i2d p1) (FP.i2d p2)))])) (fun t k => XS.ddivS X3.here hx rfl (hb hby drs_21) rfl (own_nn hnn) rfl k) ?_
    refine own_retD X3 hx hret hlk (hb hby drs_22) ?_ (by decide) (by decide)
    exact ⟨rfl, rfl, e3⟩
theorem dsg_0 : decode method_2_code 0 = .ok (.iload_n 1, 1) := by decide +kernel
theorem dsg_1 : decode method_2_code 1 = .ok (.ifCond .ne 15, 3) := by decide +kernel
theorem dsg_4 : decode method_2_code 4 = .ok (.dload_n 2, 1) := by decide +kernel
theorem dsg_5 : decode method_2_code 5 = .ok (.dconst 1, 1) := by decide +kernel
theorem dsg_6 : decode method_2_code 6 = .ok (.dcmp .l, 1) := by decide +kernel
theorem dsg_7 : decode method_2_code 7 = .ok (.ifCond .ne 7, 3) := by decide +kernel
theorem dsg_10 : decode method_2_code 10 = .ok (.iconst 1, 1) := by decide +kernel
theorem dsg_11 : decode method_2_code 11 = .ok (.goto 4, 3) := by decide +kernel
theorem dsg_14 : decode method_2_code 14 = .ok (.iconst 0, 1) := by decide +kernel
theorem dsg_15 : decode method_2_code 15 = .ok (.ireturn, 1) := by decide +kernel
theorem dsg_16 : decode method_2_code 16 = .ok (.iload_n 0, 1) := by decide +kernel
theorem dsg_17 : decode method_2_code 17 = .ok (.ifCond .ne 15, 3) := by decide +kernel
theorem dsg_20 : decode method_2_code 20 = .ok (.dload_n 2, 1) := by decide +kernel
theorem dsg_21 : decode method_2_code 21 = .ok (.dconst 0, 1) := by decide +kernel
theorem dsg_22 : decode method_2_code 22 = .ok (.dcmp .l, 1) := by decide +kernel
theorem dsg_23 : decode method_2_code 23 = .ok (.ifCond .ne 7, 3) := by decide +kernel
theorem dsg_26 : decode method_2_code 26 = .ok (.iconst 1, 1) := by decide +kernel
theorem dsg_27 : decode method_2_code 27 = .ok (.goto 4, 3) := by decide +kernel
theorem dsg_30 : decode method_2_code 30 = .ok (.iconst 0, 1) := by decide +kernel
theorem dsg_31 : decode method_2_code 31 = .ok (.ireturn, 1) := by decide +kernel
theorem dsg_32 : decode method_2_code 32 = .ok (.iload_n 0, 1) := by decide +kernel
theorem dsg_33 : decode method_2_code 33 = .ok (.iload_n 1, 1) := by decide +kernel
theorem dsg_34 : decode method_2_code 34 = .ok (.if_icmp .ne 15, 3) := by decide +kernel
theorem dsg_37 : decode method_2_code 37 = .ok (.dload_n 2, 1) := by decide +kernel
theorem dsg_38 : decode method_2_code 38 = .ok (.dconst 1, 1) := by decide +kernel
theorem dsg_39 : decode method_2_code 39 = .ok (.dcmp .l, 1) := by decide +kernel
theorem dsg_40 : decode method_2_code 40 = .ok (.ifCond .ne 7, 3) := by decide +kernel
theorem dsg_43 : decode method_2_code 43 = .ok (.iconst 1, 1) := by decide +kernel
theorem dsg_44 : decode method_2_code 44 = .ok (.goto 4, 3) := by decide +kernel
theorem dsg_47 : decode method_2_code 47 = .ok (.iconst 0, 1) := by decide +kernel
theorem dsg_48 : decode method_2_code 48 = .ok (.ireturn, 1) := by decide +kernel
theorem dsg_49 : decode method_2_code 49 = .ok (.dconst 0, 1) := by decide +kernel
theorem dsg_50 : decode method_2_code 50 = .ok (.dload_n 2, 1) := by decide +kernel
theorem dsg_51 : decode method_2_code 51 = .ok (.dcmp .g, 1) := by decide +kernel
theorem dsg_52 : decode method_2_code 52 = .ok (.ifCond .ge 9, 3) := by decide +kernel
theorem dsg_55 : decode method_2_code 55 = .ok (.dload_n 2, 1) := by decide +kernel
theorem dsg_56 : decode method_2_code 56 = .ok (.dconst 1, 1) := by decide +kernel
theorem dsg_57 : decode method_2_code 57 = .ok (.dcmp .g, 1) := by decide +kernel
theorem dsg_58 : decode method_2_code 58 = .ok (.ifCond .lt 5, 3) := by decide +kernel
theorem dsg_61 : decode method_2_code 61 = .ok (.iconst 0, 1) := by decide +kernel
theorem dsg_62 : decode method_2_code 62 = .ok (.ireturn, 1) := by decide +kernel
theorem dsg_63 : decode method_2_code 63 = .ok (.dload_n 2, 1) := by decide +kernel
theorem dsg_64 : decode method_2_code 64 = .ok (.iload_n 1, 1) := by decide +kernel
theorem dsg_65 : decode method_2_code 65 = .ok (.i2d, 1) := by decide +kernel
theorem dsg_66 : decode method_2_code 66 = .ok (.dmul, 1) := by decide +kernel
theorem dsg_67 : decode method_2_code 67 = .ok (.iload_n 0, 1) := by decide +kernel
theorem dsg_68 : decode method_2_code 68 = .ok (.i2d, 1) := by decide +kernel
theorem dsg_69 : decode method_2_code 69 = .ok (.dsub, 1) := by decide +kernel
theorem dsg_70 : decode method_2_code 70 = .ok (.dstore 4, 2) := by decide +kernel
theorem dsg_72 : decode method_2_code 72 = .ok (.iload_n 0, 1) := by decide +kernel
theorem dsg_73 : decode method_2_code 73 = .ok (.i2d, 1) := by decide +kernel
theorem dsg_74 : decode method_2_code 74 = .ok (.ldc2_w 7, 3) := by decide +kernel
theorem dsg_77 : decode method_2_code 77 = .ok (.dmul, 1) := by decide +kernel
theorem dsg_78 : decode method_2_code 78 = .ok (.dstore 6, 2) := by decide +kernel
theorem dsg_80 : decode method_2_code 80 = .ok (.dload 4, 2) := by decide +kernel
theorem dsg_82 : decode method_2_code 82 = .ok (.dload 6, 2) := by decide +kernel
theorem dsg_84 : decode method_2_code 84 = .ok (.dcmp .g, 1) := by decide +kernel
theorem dsg_85 : decode method_2_code 85 = .ok (.ifCond .gt 16, 3) := by decide +kernel
theorem dsg_88 : decode method_2_code 88 = .ok (.dload 4, 2) := by decide +kernel
theorem dsg_90 : decode method_2_code 90 = .ok (.dneg, 1) := by decide +kernel
theorem dsg_91 : decode method_2_code 91 = .ok (.dload 6, 2) := by decide +kernel
theorem dsg_93 : decode method_2_code 93 = .ok (.dcmp .g, 1) := by decide +kernel
theorem dsg_94 : decode method_2_code 94 = .ok (.ifCond .gt 7, 3) := by decide +kernel
theorem dsg_97 : decode method_2_code 97 = .ok (.iconst 1, 1) := by decide +kernel
theorem dsg_98 : decode method_2_code 98 = .ok (.goto 4, 3) := by decide +kernel
theorem dsg_101 : decode method_2_code 101 = .ok (.iconst 0, 1) := by decide +kernel
theorem dsg_102 : decode method_2_code 102 = .ok (.ireturn, 1) := by decide +kernel
theorem own_pn1 : plainName "com/example/minwise/minwise/model/OverlapResemblancePinLaw" = true := by first | (simp [plainName, overriddenIn]; done) | decide +kernel
theorem own_efsg (m : MethodId) (p1 p2 : Int32) (rr : UInt64) : entryFrame m #[(.int p1), (.int p2), (.double rr)] 8 = mkF m 0 #[.val (.int p1), .val (.int p2), .val (.double rr), .second, .unset, .unset, .unset, .unset] [] := by first | (simp [entryFrame, mkF, argsToLocals, Value.category]; done) | rfl
set_option maxRecDepth 65536 in
set_option maxHeartbeats 40000000 in
theorem own_rmsg (l : Launch) (Z : State) (a0 : Array Value) (hw : ∀ d ∈ tables_1, d.before a0 Z = true) (p1 p2 : Int32) (rr : UInt64) (h0 : Heap) (na ma : Nat) (hi : p1.toInt = na) (hu : p2.toInt = ma) (hab : na ≤ ma) (hm : ma ≤ 2147483647) (hr : rr = own_r p1 p2) :
    own_C l Z (⟨"com/example/minwise/minwise/model/OverlapResemblancePinLaw", "single", "(IID)Z"⟩ : MethodName) method_2_code 8 (some .boolean) [] ({ frames := 0, cells := 0, slots := 0, locals := 0 } : Room) #[(.int p1), (.int p2), (.double rr)] h0 (fun v h L => v = some (.int 1) ∧ L = [] ∧ h = h0) := by
  refine own_body (plainFor_of_name own_pn1) fun p e s m below meth c s₁ hx hby hml hret hlk hown hnm hZ X0 e0 => ?_
  rw [own_efsg m p1 p2 rr]
  have hnn : Jvm.FP.Core.val64 rr ≠ .nan := by rw [hr]; exact own_rnan hi hu
  refine own_go (U' := s₁.setTop (mkF m 1 #[.val (.int p1), .val (.int p2), .val (.double rr), .second, .unset, .unset, .unset, .unset] [(.int p2)])) (fun t k => XS.iloadN X0.here hx rfl (hb hby dsg_0) rfl k) ?_
  by_cases h1 : p2 = (0 : Int32)
  · refine own_go (U' := s₁.setTop (mkF m 4 #[.val (.int p1), .val (.int p2), .val (.double rr), .second, .unset, .unset, .unset, .unset] [])) (fun t k => XS.ifNo X0.here hx rfl (hb hby dsg_1) rfl ((if0 _ _).trans (teq h1).2) k) ?_
    have hc : cmpValue (FP.dcmp rr FP.dconst1) .l = (0 : Int32) := by
      rw [own_r1 hi hu (Or.inl ((own_u0 hu).mp h1))] at hr
      rw [← hr]
      exact own_ceq hnn hnn rfl _
    refine own_go (U' := s₁.setTop (mkF m 5 #[.val (.int p1), .val (.int p2), .val (.double rr), .second, .unset, .unset, .unset, .unset] [(.double rr)])) (fun t k => XS.dloadN X0.here hx rfl (hb hby dsg_4) rfl k) ?_
    refine own_go (U' := s₁.setTop (mkF m 6 #[.val (.int p1), .val (.int p2), .val (.double rr), .second, .unset, .unset, .unset, .unset] [(.double FP.dconst1), (.double rr)])) (fun t k => XS.dconst1 X0.here hx rfl (hb hby dsg_5) rfl k) ?_
    refine own_go (U' := s₁.setTop (mkF m 7 #[.val (.int p1), .val (.int p2), .val (.double rr), .second, .unset, .unset, .unset, .unset] [(.int (cmpValue (FP.dcmp rr FP.dconst1) .l))])) (fun t k => XS.dcmpS X0.here hx rfl (hb hby dsg_6) rfl rfl k) ?_
    refine own_go (U' := s₁.setTop (mkF m 10 #[.val (.int p1), .val (.int p2), .val (.double rr), .second, .unset, .unset, .unset, .unset] [])) (fun t k => XS.ifNo X0.here hx rfl (hb hby dsg_7) rfl ((if0 _ _).trans (teq hc).2) k) ?_
    refine own_go (U' := s₁.setTop (mkF m 11 #[.val (.int p1), .val (.int p2), .val (.double rr), .second, .unset, .unset, .unset, .unset] [(.int (1 : Int32))])) (fun t k => XS.iconst X0.here hx rfl (hb hby dsg_10) k) ?_
    refine own_go (U' := s₁.setTop (mkF m 15 #[.val (.int p1), .val (.int p2), .val (.double rr), .second, .unset, .unset, .unset, .unset] [(.int (1 : Int32))])) (fun t k => XS.goto X0.here hx rfl (pc0 := 11) (pc' := 15) rfl (hb hby dsg_11) (by decide) (by decide) k) ?_
    refine own_retN X0 hx (t := .boolean) hret (by simp) hlk (hb hby dsg_15) ?_ (by decide) (by decide)
    exact ⟨rfl, rfl, e0⟩
  · refine own_go (U' := s₁.setTop (mkF m 16 #[.val (.int p1), .val (.int p2), .val (.double rr), .second, .unset, .unset, .unset, .unset] [])) (fun t k => XS.ifYes X0.here hx rfl (pc0 := 1) (pc' := 16) rfl (hb hby dsg_1) rfl ((if0 _ _).trans (feq h1).2) (by decide) (by decide) k) ?_
    have hm0 : 0 < ma := Nat.pos_of_ne_zero fun q => h1 ((own_u0 hu).mpr q)
    refine own_go (U' := s₁.setTop (mkF m 17 #[.val (.int p1), .val (.int p2), .val (.double rr), .second, .unset, .unset, .unset, .unset] [(.int p1)])) (fun t k => XS.iloadN X0.here hx rfl (hb hby dsg_16) rfl k) ?_
    by_cases h2 : p1 = (0 : Int32)
    · refine own_go (U' := s₁.setTop (mkF m 20 #[.val (.int p1), .val (.int p2), .val (.double rr), .second, .unset, .unset, .unset, .unset] [])) (fun t k => XS.ifNo X0.here hx rfl (hb hby dsg_17) rfl ((if0 _ _).trans (teq h2).2) k) ?_
      have hc : cmpValue (FP.dcmp rr FP.dconst0) .l = (0 : Int32) := by
        rw [own_r0 hi hu hm0 ((own_u0 hi).mp h2)] at hr
        rw [← hr]
        exact own_ceq hnn hnn rfl _
      refine own_go (U' := s₁.setTop (mkF m 21 #[.val (.int p1), .val (.int p2), .val (.double rr), .second, .unset, .unset, .unset, .unset] [(.double rr)])) (fun t k => XS.dloadN X0.here hx rfl (hb hby dsg_20) rfl k) ?_
      refine own_go (U' := s₁.setTop (mkF m 22 #[.val (.int p1), .val (.int p2), .val (.double rr), .second, .unset, .unset, .unset, .unset] [(.double FP.dconst0), (.double rr)])) (fun t k => XS.dconst0 X0.here hx rfl (hb hby dsg_21) rfl k) ?_
      refine own_go (U' := s₁.setTop (mkF m 23 #[.val (.int p1), .val (.int p2), .val (.double rr), .second, .unset, .unset, .unset, .unset] [(.int (cmpValue (FP.dcmp rr FP.dconst0) .l))])) (fun t k => XS.dcmpS X0.here hx rfl (hb hby dsg_22) rfl rfl k) ?_
      refine own_go (U' := s₁.setTop (mkF m 26 #[.val (.int p1), .val (.int p2), .val (.double rr), .second, .unset, .unset, .unset, .unset] [])) (fun t k => XS.ifNo X0.here hx rfl (hb hby dsg_23) rfl ((if0 _ _).trans (teq hc).2) k) ?_
      refine own_go (U' := s₁.setTop (mkF m 27 #[.val (.int p1), .val (.int p2), .val (.double rr), .second, .unset, .unset, .unset, .unset] [(.int (1 : Int32))])) (fun t k => XS.iconst X0.here hx rfl (hb hby dsg_26) k) ?_
      refine own_go (U' := s₁.setTop (mkF m 31 #[.val (.int p1), .val (.int p2), .val (.double rr), .second, .unset, .unset, .unset, .unset] [(.int (1 : Int32))])) (fun t k => XS.goto X0.here hx rfl (pc0 := 27) (pc' := 31) rfl (hb hby dsg_27) (by decide) (by decide) k) ?_
      refine own_retN X0 hx (t := .boolean) hret (by simp) hlk (hb hby dsg_31) ?_ (by decide) (by decide)
      exact ⟨rfl, rfl, e0⟩
    · refine own_go (U' := s₁.setTop (mkF m 32 #[.val (.int p1), .val (.int p2), .val (.double rr), .second, .unset, .unset, .unset, .unset] [])) (fun t k => XS.ifYes X0.here hx rfl (pc0 := 17) (pc' := 32) rfl (hb hby dsg_17) rfl ((if0 _ _).trans (feq h2).2) (by decide) (by decide) k) ?_
      have hn0 : 0 < na := Nat.pos_of_ne_zero fun q => h2 ((own_u0 hi).mpr q)
      refine own_go (U' := s₁.setTop (mkF m 33 #[.val (.int p1), .val (.int p2), .val (.double rr), .second, .unset, .unset, .unset, .unset] [(.int p1)])) (fun t k => XS.iloadN X0.here hx rfl (hb hby dsg_32) rfl k) ?_
      refine own_go (U' := s₁.setTop (mkF m 34 #[.val (.int p1), .val (.int p2), .val (.double rr), .second, .unset, .unset, .unset, .unset] [(.int p2), (.int p1)])) (fun t k => XS.iloadN X0.here hx rfl (hb hby dsg_33) rfl k) ?_
      by_cases h3 : p1 = p2
      · refine own_go (U' := s₁.setTop (mkF m 37 #[.val (.int p1), .val (.int p2), .val (.double rr), .second, .unset, .unset, .unset, .unset] [])) (fun t k => XS.icmpNo X0.here hx rfl (hb hby dsg_34) rfl (teq h3).2 k) ?_
        have hnm' : na = ma := by rw [h3, hu] at hi; omega
        have hc : cmpValue (FP.dcmp rr FP.dconst1) .l = (0 : Int32) := by
          rw [own_r1 hi hu (Or.inr hnm')] at hr
          rw [← hr]
          exact own_ceq hnn hnn rfl _
        refine own_go (U' := s₁.setTop (mkF m 38 #[.val (.int p1), .val (.int p2), .val (.double rr), .second, .unset, .unset, .unset, .unset] [(.double rr)])) (fun t k => XS.dloadN X0.here hx rfl (hb hby dsg_37) rfl k) ?_
        refine own_go (U' := s₁.setTop (mkF m 39 #[.val (.int p1), .val (.int p2), .val (.double rr), .second, .unset, .unset, .unset, .unset] [(.double FP.dconst1), (.double rr)])) (fun t k => XS.dconst1 X0.here hx rfl (hb hby dsg_38) rfl k) ?_
        refine own_go (U' := s₁.setTop (mkF m 40 #[.val (.int p1), .val (.int p2), .val (.double rr), .second, .unset, .unset, .unset, .unset] [(.int (cmpValue (FP.dcmp rr FP.dconst1) .l))])) (fun t k => XS.dcmpS X0.here hx rfl (hb hby dsg_39) rfl rfl k) ?_
        refine own_go (U' := s₁.setTop (mkF m 43 #[.val (.int p1), .val (.int p2), .val (.double rr), .second, .unset, .unset, .unset, .unset] [])) (fun t k => XS.ifNo X0.here hx rfl (hb hby dsg_40) rfl ((if0 _ _).trans (teq hc).2) k) ?_
        refine own_go (U' := s₁.setTop (mkF m 44 #[.val (.int p1), .val (.int p2), .val (.double rr), .second, .unset, .unset, .unset, .unset] [(.int (1 : Int32))])) (fun t k => XS.iconst X0.here hx rfl (hb hby dsg_43) k) ?_
        refine own_go (U' := s₁.setTop (mkF m 48 #[.val (.int p1), .val (.int p2), .val (.double rr), .second, .unset, .unset, .unset, .unset] [(.int (1 : Int32))])) (fun t k => XS.goto X0.here hx rfl (pc0 := 44) (pc' := 48) rfl (hb hby dsg_44) (by decide) (by decide) k) ?_
        refine own_retN X0 hx (t := .boolean) hret (by simp) hlk (hb hby dsg_48) ?_ (by decide) (by decide)
        exact ⟨rfl, rfl, e0⟩
      · refine own_go (U' := s₁.setTop (mkF m 49 #[.val (.int p1), .val (.int p2), .val (.double rr), .second, .unset, .unset, .unset, .unset] [])) (fun t k => XS.icmpYes X0.here hx rfl (pc0 := 34) (pc' := 49) rfl (hb hby dsg_34) rfl (feq h3).2 (by decide) (by decide) k) ?_
        have hlt : na < ma := Nat.lt_of_le_of_ne hab fun q => h3 (Int32.toInt_inj.mp (by rw [hi, hu, q]))
        have er : rr = FP.ddiv (FP.i2d p1) (FP.i2d p2) := by rw [hr, own_r, if_neg h1]
        obtain ⟨s1, s2, s3, s4, s5, s6, s7⟩ := own_sg hi hu hn0 hlt hm rr _ _ _ er rfl rfl rfl
        obtain ⟨zl, zg⟩ := own_zb hn0 hlt (by omega)
        have hHp : 0 < own_H := Nat.two_pow_pos _
        have v0 : Jvm.FP.Core.val64 FP.dconst0 ≠ .nan := by rw [own_v0]; exact Jvm.FP.Core.Datum.noConfusion
        have v1 : Jvm.FP.Core.val64 FP.dconst1 ≠ .nan := by rw [own_v1]; exact Jvm.FP.Core.Datum.noConfusion
        have z0 : Jvm.FP.Core.zval Jvm.FP.Core.b64 (Jvm.FP.Core.val64 FP.dconst0) = 0 := by rw [own_v0]; decide +kernel
        have z1 : Jvm.FP.Core.zval Jvm.FP.Core.b64 (Jvm.FP.Core.val64 FP.dconst1) = own_P := by
          rw [own_v1]
          show ((Jvm.FP.Core.zmag Jvm.FP.Core.b64 (.fin false (2 ^ 52) (-52)) : Nat) : Int) = _
          rw [own_one]
        refine own_go (U' := s₁.setTop (mkF m 50 #[.val (.int p1), .val (.int p2), .val (.double rr), .second, .unset, .unset, .unset, .unset] [(.double FP.dconst0)])) (fun t k => XS.dconst0 X0.here hx rfl (hb hby dsg_49) rfl k) ?_
        refine own_go (U' := s₁.setTop (mkF m 51 #[.val (.int p1), .val (.int p2), .val (.double rr), .second, .unset, .unset, .unset, .unset] [(.double rr), (.double FP.dconst0)])) (fun t k => XS.dloadN X0.here hx rfl (hb hby dsg_50) rfl k) ?_
        refine own_go (U' := s₁.setTop (mkF m 52 #[.val (.int p1), .val (.int p2), .val (.double rr), .second, .unset, .unset, .unset, .unset] [(.int (cmpValue (FP.dcmp FP.dconst0 rr) .g))])) (fun t k => XS.dcmpS X0.here hx rfl (hb hby dsg_51) rfl rfl k) ?_
        refine own_go (U' := s₁.setTop (mkF m 55 #[.val (.int p1), .val (.int p2), .val (.double rr), .second, .unset, .unset, .unset, .unset] [])) (fun t k => XS.ifNo X0.here hx rfl (hb hby dsg_52) rfl ((if0 _ _).trans (tlt (own_clt v0 hnn (by rw [z0, s2]; omega) _)).2.1) k) ?_
        refine own_go (U' := s₁.setTop (mkF m 56 #[.val (.int p1), .val (.int p2), .val (.double rr), .second, .unset, .unset, .unset, .unset] [(.double rr)])) (fun t k => XS.dloadN X0.here hx rfl (hb hby dsg_55) rfl k) ?_
        refine own_go (U' := s₁.setTop (mkF m 57 #[.val (.int p1), .val (.int p2), .val (.double rr), .second, .unset, .unset, .unset, .unset] [(.double FP.dconst1), (.double rr)])) (fun t k => XS.dconst1 X0.here hx rfl (hb hby dsg_56) rfl k) ?_
        refine own_go (U' := s₁.setTop (mkF m 58 #[.val (.int p1), .val (.int p2), .val (.double rr), .second, .unset, .unset, .unset, .unset] [(.int (cmpValue (FP.dcmp rr FP.dconst1) .g))])) (fun t k => XS.dcmpS X0.here hx rfl (hb hby dsg_57) rfl rfl k) ?_
        refine own_go (U' := s₁.setTop (mkF m 63 #[.val (.int p1), .val (.int p2), .val (.double rr), .second, .unset, .unset, .unset, .unset] [])) (fun t k => XS.ifYes X0.here hx rfl (pc0 := 58) (pc' := 63) rfl (hb hby dsg_58) rfl ((if0 _ _).trans (tlt (own_clt hnn v1 (by rw [s2, z1]; omega) _)).1) (by decide) (by decide) k) ?_
        refine own_go (U' := s₁.setTop (mkF m 64 #[.val (.int p1), .val (.int p2), .val (.double rr), .second, .unset, .unset, .unset, .unset] [(.double rr)])) (fun t k => XS.dloadN X0.here hx rfl (hb hby dsg_63) rfl k) ?_
        refine own_go (U' := s₁.setTop (mkF m 65 #[.val (.int p1), .val (.int p2), .val (.double rr), .second, .unset, .unset, .unset, .unset] [(.int p2), (.double rr)])) (fun t k => XS.iloadN X0.here hx rfl (hb hby dsg_64) rfl k) ?_
        refine own_go (U' := s₁.setTop (mkF m 66 #[.val (.int p1), .val (.int p2), .val (.double rr), .second, .unset, .unset, .unset, .unset] [(.double (FP.i2d p2)), (.double rr)])) (fun t k => XS.i2dS X0.here hx rfl (hb hby dsg_65) rfl rfl k) ?_
        refine own_go (U' := s₁.setTop (mkF m 67 #[.val (.int p1), .val (.int p2), .val (.double rr), .second, .unset, .unset, .unset, .unset] [(.double (FP.dmul rr (FP.i2d p2)))])) (fun t k => XS.dmulS X0.here hx rfl (hb hby dsg_66) rfl (own_nn s3) rfl k) ?_
        refine own_go (U' := s₁.setTop (mkF m 68 #[.val (.int p1), .val (.int p2), .val (.double rr), .second, .unset, .unset, .unset, .unset] [(.int p1), (.double (FP.dmul rr (FP.i2d p2)))])) (fun t k => XS.iloadN X0.here hx rfl (hb hby dsg_67) rfl k) ?_
        refine own_go (U' := s₁.setTop (mkF m 69 #[.val (.int p1), .val (.int p2), .val (.double rr), .second, .unset, .unset, .unset, .unset] [(.double (FP.i2d p1)), (.double (FP.dmul rr (FP.i2d p2)))])) (fun t k => XS.i2dS X0.here hx rfl (hb hby dsg_68) rfl rfl k) ?_
        refine own_go (U' := s₁.setTop (mkF m 70 #[.val (.int p1), .val (.int p2), .val (.double rr), .second, .unset, .unset, .unset, .unset] [(.double (FP.dsub (FP.dmul rr (FP.i2d p2)) (FP.i2d p1)))])) (fun t k => XS.dsubS X0.here hx rfl (hb hby dsg_69) rfl (own_nn s4) rfl k) ?_
        refine own_go (U' := s₁.setTop (mkF m 72 #[.val (.int p1), .val (.int p2), .val (.double rr), .second, .val (.double (FP.dsub (FP.dmul rr (FP.i2d p2)) (FP.i2d p1))), .second, .unset, .unset] [])) (fun t k => XS.dstore X0.here hx rfl (hb hby dsg_70) rfl (l' := #[.val (.int p1), .val (.int p2), .val (.double rr), .second, .val (.double (FP.dsub (FP.dmul rr (FP.i2d p2)) (FP.i2d p1))), .second, .unset, .unset]) rfl k) ?_
        refine own_go (U' := s₁.setTop (mkF m 73 #[.val (.int p1), .val (.int p2), .val (.double rr), .second, .val (.double (FP.dsub (FP.dmul rr (FP.i2d p2)) (FP.i2d p1))), .second, .unset, .unset] [(.int p1)])) (fun t k => XS.iloadN X0.here hx rfl (hb hby dsg_72) rfl k) ?_
        refine own_go (U' := s₁.setTop (mkF m 74 #[.val (.int p1), .val (.int p2), .val (.double rr), .second, .val (.double (FP.dsub (FP.dmul rr (FP.i2d p2)) (FP.i2d p1))), .second, .unset, .unset] [(.double (FP.i2d p1))])) (fun t k => XS.i2dS X0.here hx rfl (hb hby dsg_73) rfl rfl k) ?_
        refine own_go (U' := s₁.setTop (mkF m 77 #[.val (.int p1), .val (.int p2), .val (.double rr), .second, .val (.double (FP.dsub (FP.dmul rr (FP.i2d p2)) (FP.i2d p1))), .second, .unset, .unset] [(.double (4382002437431492608 : UInt64)), (.double (FP.i2d p1))])) (fun t k => X0.ldc2DoubleC hx hown (mvT hZ (hw _ (List.mem_of_getElem? (i := 31) rfl))) (g := (mkF m 74 #[.val (.int p1), .val (.int p2), .val (.double rr), .second, .val (.double (FP.dsub (FP.dmul rr (FP.i2d p2)) (FP.i2d p1))), .second, .unset, .unset] [(.double (FP.i2d p1))])) rfl (hb hby dsg_74) _ k) ?_
        refine own_go (U' := s₁.setTop (mkF m 78 #[.val (.int p1), .val (.int p2), .val (.double rr), .second, .val (.double (FP.dsub (FP.dmul rr (FP.i2d p2)) (FP.i2d p1))), .second, .unset, .unset] [(.double (FP.dmul (FP.i2d p1) (4382002437431492608 : UInt64)))])) (fun t k => XS.dmulS X0.here hx rfl (hb hby dsg_77) rfl (own_nn s5) rfl k) ?_
        refine own_go (U' := s₁.setTop (mkF m 80 #[.val (.int p1), .val (.int p2), .val (.double rr), .second, .val (.double (FP.dsub (FP.dmul rr (FP.i2d p2)) (FP.i2d p1))), .second, .val (.double (FP.dmul (FP.i2d p1) (4382002437431492608 : UInt64))), .second] [])) (fun t k => XS.dstore X0.here hx rfl (hb hby dsg_78) rfl (l' := #[.val (.int p1), .val (.int p2), .val (.double rr), .second, .val (.double (FP.dsub (FP.dmul rr (FP.i2d p2)) (FP.i2d p1))), .second, .val (.double (FP.dmul (FP.i2d p1) (4382002437431492608 : UInt64))), .second]) rfl k) ?_
        refine own_go (U' := s₁.setTop (mkF m 82 #[.val (.int p1), .val (.int p2), .val (.double rr), .second, .val (.double (FP.dsub (FP.dmul rr (FP.i2d p2)) (FP.i2d p1))), .second, .val (.double (FP.dmul (FP.i2d p1) (4382002437431492608 : UInt64))), .second] [(.double (FP.dsub (FP.dmul rr (FP.i2d p2)) (FP.i2d p1)))])) (fun t k => XS.dload X0.here hx rfl (hb hby dsg_80) rfl k) ?_
        refine own_go (U' := s₁.setTop (mkF m 84 #[.val (.int p1), .val (.int p2), .val (.double rr), .second, .val (.double (FP.dsub (FP.dmul rr (FP.i2d p2)) (FP.i2d p1))), .second, .val (.double (FP.dmul (FP.i2d p1) (4382002437431492608 : UInt64))), .second] [(.double (FP.dmul (FP.i2d p1) (4382002437431492608 : UInt64))), (.double (FP.dsub (FP.dmul rr (FP.i2d p2)) (FP.i2d p1)))])) (fun t k => XS.dload X0.here hx rfl (hb hby dsg_82) rfl k) ?_
        refine own_go (U' := s₁.setTop (mkF m 85 #[.val (.int p1), .val (.int p2), .val (.double rr), .second, .val (.double (FP.dsub (FP.dmul rr (FP.i2d p2)) (FP.i2d p1))), .second, .val (.double (FP.dmul (FP.i2d p1) (4382002437431492608 : UInt64))), .second] [(.int (cmpValue (FP.dcmp (FP.dsub (FP.dmul rr (FP.i2d p2)) (FP.i2d p1)) (FP.dmul (FP.i2d p1) (4382002437431492608 : UInt64))) .g))])) (fun t k => XS.dcmpS X0.here hx rfl (hb hby dsg_84) rfl rfl k) ?_
        refine own_go (U' := s₁.setTop (mkF m 88 #[.val (.int p1), .val (.int p2), .val (.double rr), .second, .val (.double (FP.dsub (FP.dmul rr (FP.i2d p2)) (FP.i2d p1))), .second, .val (.double (FP.dmul (FP.i2d p1) (4382002437431492608 : UInt64))), .second] [])) (fun t k => XS.ifNo X0.here hx rfl (hb hby dsg_85) rfl ((if0 _ _).trans (flt (own_cle s4 s5 s6 _)).2.2.1) k) ?_
        refine own_go (U' := s₁.setTop (mkF m 90 #[.val (.int p1), .val (.int p2), .val (.double rr), .second, .val (.double (FP.dsub (FP.dmul rr (FP.i2d p2)) (FP.i2d p1))), .second, .val (.double (FP.dmul (FP.i2d p1) (4382002437431492608 : UInt64))), .second] [(.double (FP.dsub (FP.dmul rr (FP.i2d p2)) (FP.i2d p1)))])) (fun t k => XS.dload X0.here hx rfl (hb hby dsg_88) rfl k) ?_
        refine own_go (U' := s₁.setTop (mkF m 91 #[.val (.int p1), .val (.int p2), .val (.double rr), .second, .val (.double (FP.dsub (FP.dmul rr (FP.i2d p2)) (FP.i2d p1))), .second, .val (.double (FP.dmul (FP.i2d p1) (4382002437431492608 : UInt64))), .second] [(.double (FP.dneg (FP.dsub (FP.dmul rr (FP.i2d p2)) (FP.i2d p1))))])) (fun t k => XS.dnegS X0.here hx rfl (hb hby dsg_90) rfl rfl k) ?_
        refine own_go (U' := s₁.setTop (mkF m 93 #[.val (.int p1), .val (.int p2), .val (.double rr), .second, .val (.double (FP.dsub (FP.dmul rr (FP.i2d p2)) (FP.i2d p1))), .second, .val (.double (FP.dmul (FP.i2d p1) (4382002437431492608 : UInt64))), .second] [(.double (FP.dmul (FP.i2d p1) (4382002437431492608 : UInt64))), (.double (FP.dneg (FP.dsub (FP.dmul rr (FP.i2d p2)) (FP.i2d p1))))])) (fun t k => XS.dload X0.here hx rfl (hb hby dsg_91) rfl k) ?_
        refine own_go (U' := s₁.setTop (mkF m 94 #[.val (.int p1), .val (.int p2), .val (.double rr), .second, .val (.double (FP.dsub (FP.dmul rr (FP.i2d p2)) (FP.i2d p1))), .second, .val (.double (FP.dmul (FP.i2d p1) (4382002437431492608 : UInt64))), .second] [(.int (cmpValue (FP.dcmp (FP.dneg (FP.dsub (FP.dmul rr (FP.i2d p2)) (FP.i2d p1))) (FP.dmul (FP.i2d p1) (4382002437431492608 : UInt64))) .g))])) (fun t k => XS.dcmpS X0.here hx rfl (hb hby dsg_93) rfl rfl k) ?_
        have en : Jvm.FP.Core.val64 (FP.dneg (FP.dsub (FP.dmul rr (FP.i2d p2)) (FP.i2d p1))) = Jvm.FP.Core.negate (Jvm.FP.Core.val64 (FP.dsub (FP.dmul rr (FP.i2d p2)) (FP.i2d p1))) := Jvm.FP.val64_dneg _
        refine own_go (U' := s₁.setTop (mkF m 97 #[.val (.int p1), .val (.int p2), .val (.double rr), .second, .val (.double (FP.dsub (FP.dmul rr (FP.i2d p2)) (FP.i2d p1))), .second, .val (.double (FP.dmul (FP.i2d p1) (4382002437431492608 : UInt64))), .second] [])) (fun t k => XS.ifNo X0.here hx rfl (hb hby dsg_94) rfl ((if0 _ _).trans (flt (own_cle (by rw [en]; exact Jvm.FP.Core.negate_ne_nan s4) s5 (by rw [en, Jvm.FP.Core.zval_negate]; exact s7) _)).2.2.1) k) ?_
        refine own_go (U' := s₁.setTop (mkF m 98 #[.val (.int p1), .val (.int p2), .val (.double rr), .second, .val (.double (FP.dsub (FP.dmul rr (FP.i2d p2)) (FP.i2d p1))), .second, .val (.double (FP.dmul (FP.i2d p1) (4382002437431492608 : UInt64))), .second] [(.int (1 : Int32))])) (fun t k => XS.iconst X0.here hx rfl (hb hby dsg_97) k) ?_
        refine own_go (U' := s₁.setTop (mkF m 102 #[.val (.int p1), .val (.int p2), .val (.double rr), .second, .val (.double (FP.dsub (FP.dmul rr (FP.i2d p2)) (FP.i2d p1))), .second, .val (.double (FP.dmul (FP.i2d p1) (4382002437431492608 : UInt64))), .second] [(.int (1 : Int32))])) (fun t k => XS.goto X0.here hx rfl (pc0 := 98) (pc' := 102) rfl (hb hby dsg_98) (by decide) (by decide) k) ?_
        refine own_retN X0 hx (t := .boolean) hret (by simp) hlk (hb hby dsg_102) ?_ (by decide) (by decide)
        exact ⟨rfl, rfl, e0⟩
theorem own_ef0 (m : MethodId) (p1 p2 p3 p4 p5 : Int32) : entryFrame m #[(.int p1), (.int p2), (.int p3), (.int p4), (.int p5)] maxLocals = mkF m 0 #[.val (.int p1), .val (.int p2), .val (.int p3), .val (.int p4), .val (.int p5), .unset, .unset, .unset, .unset, .unset, .unset, .unset, .unset, .unset, .unset, .unset, .unset, .unset, .unset, .unset, .unset, .unset, .unset, .unset, .unset, .unset, .unset, .unset, .unset, .unset] [] := by first | (simp [entryFrame, mkF, argsToLocals, Value.category, maxLocals]; done) | rfl
set_option maxRecDepth 65536 in
set_option maxHeartbeats 40000000 in
theorem own_rm0 (l : Launch) (Z : State) (a0 : Array Value) (hw : ∀ d ∈ tables_1, d.before a0 Z = true) (ws : List Jvm.Cond) (p1 p2 p3 p4 p5 : Int32) (h0 : Heap) (n0 : Nat) (O : Old Z n0 h0) :
    own_C l Z x code maxLocals ret ws room_1 #[(.int p1), (.int p2), (.int p3), (.int p4), (.int p5)] h0 (fun v h L => v = some (.int 1) ∧ Fr n0 L) := by
  refine own_body (plainFor_of_name own_pn1) fun p e s m below meth c s₁ hx hby hml hret hlk hown hnm hZ X0 e0 => ?_
  rw [own_ef0 m p1 p2 p3 p4 p5]
  have hml : c.maxLocals = 30 := hml
  have hret : meth.sig.returnType = some .boolean := hret
  have N0 := Fr.nil n0
  refine own_go (U' := s₁.setTop (mkF m 1 #[.val (.int p1), .val (.int p2), .val (.int p3), .val (.int p4), .val (.int p5), .unset, .unset, .unset, .unset, .unset, .unset, .unset, .unset, .unset, .unset, .unset, .unset, .unset, .unset, .unset, .unset, .unset, .unset, .unset, .unset, .unset, .unset, .unset, .unset, .unset] [(.int p1)])) (fun t k => XS.iloadN X0.here hx rfl (hb hby at_0) rfl k) ?_
  refine own_go (U' := s₁.setTop (mkF m 3 #[.val (.int p1), .val (.int p2), .val (.int p3), .val (.int p4), .val (.int p5), .unset, .unset, .unset, .unset, .unset, .unset, .unset, .unset, .unset, .unset, .unset, .unset, .unset, .unset, .unset, .unset, .unset, .unset, .unset, .unset, .unset, .unset, .unset, .unset, .unset] [(.int (2147483647 : Int32)), (.int p1)])) (fun t k => X0.ldcInt hx hown (mvT hZ (hw _ (List.mem_of_getElem? (i := 0) rfl))) (g := (mkF m 1 #[.val (.int p1), .val (.int p2), .val (.int p3), .val (.int p4), .val (.int p5), .unset, .unset, .unset, .unset, .unset, .unset, .unset, .unset, .unset, .unset, .unset, .unset, .unset, .unset, .unset, .unset, .unset, .unset, .unset, .unset, .unset, .unset, .unset, .unset, .unset] [(.int p1)])) rfl (hb hby at_1) _ k) ?_
  refine own_go (U' := s₁.setTop (mkF m 4 #[.val (.int p1), .val (.int p2), .val (.int p3), .val (.int p4), .val (.int p5), .unset, .unset, .unset, .unset, .unset, .unset, .unset, .unset, .unset, .unset, .unset, .unset, .unset, .unset, .unset, .unset, .unset, .unset, .unset, .unset, .unset, .unset, .unset, .unset, .unset] [(.int (p1 &&& (2147483647 : Int32)))])) (fun t k => XS.iand X0.here hx rfl (hb hby at_3) rfl k) ?_
  generalize hv_x10 : (p1 &&& (2147483647 : Int32)) = x10
  obtain ⟨a10, ea10, la10⟩ := own_msk p1
  rw [hv_x10] at ea10
  refine own_go (U' := s₁.setTop (mkF m 6 #[.val (.int p1), .val (.int p2), .val (.int p3), .val (.int p4), .val (.int p5), .val (.int x10), .unset, .unset, .unset, .unset, .unset, .unset, .unset, .unset, .unset, .unset, .unset, .unset, .unset, .unset, .unset, .unset, .unset, .unset, .unset, .unset, .unset, .unset, .unset, .unset] [])) (fun t k => XS.istore X0.here hx rfl (hb hby at_4) rfl (l' := #[.val (.int p1), .val (.int p2), .val (.int p3), .val (.int p4), .val (.int p5), .val (.int x10), .unset, .unset, .unset, .unset, .unset, .unset, .unset, .unset, .unset, .unset, .unset, .unset, .unset, .unset, .unset, .unset, .unset, .unset, .unset, .unset, .unset, .unset, .unset, .unset]) rfl k) ?_
  refine own_go (U' := s₁.setTop (mkF m 7 #[.val (.int p1), .val (.int p2), .val (.int p3), .val (.int p4), .val (.int p5), .val (.int x10), .unset, .unset, .unset, .unset, .unset, .unset, .unset, .unset, .unset, .unset, .unset, .unset, .unset, .unset, .unset, .unset, .unset, .unset, .unset, .unset, .unset, .unset, .unset, .unset] [(.int p2)])) (fun t k => XS.iloadN X0.here hx rfl (hb hby at_6) rfl k) ?_
  refine own_go (U' := s₁.setTop (mkF m 9 #[.val (.int p1), .val (.int p2), .val (.int p3), .val (.int p4), .val (.int p5), .val (.int x10), .unset, .unset, .unset, .unset, .unset, .unset, .unset, .unset, .unset, .unset, .unset, .unset, .unset, .unset, .unset, .unset, .unset, .unset, .unset, .unset, .unset, .unset, .unset, .unset] [(.int (2147483647 : Int32)), (.int p2)])) (fun t k => X0.ldcInt hx hown (mvT hZ (hw _ (List.mem_of_getElem? (i := 0) rfl))) (g := (mkF m 7 #[.val (.int p1), .val (.int p2), .val (.int p3), .val (.int p4), .val (.int p5), .val (.int x10), .unset, .unset, .unset, .unset, .unset, .unset, .unset, .unset, .unset, .unset, .unset, .unset, .unset, .unset, .unset, .unset, .unset, .unset, .unset, .unset, .unset, .unset, .unset, .unset] [(.int p2)])) rfl (hb hby at_7) _ k) ?_
  refine own_go (U' := s₁.setTop (mkF m 10 #[.val (.int p1), .val (.int p2), .val (.int p3), .val (.int p4), .val (.int p5), .val (.int x10), .unset, .unset, .unset, .unset, .unset, .unset, .unset, .unset, .unset, .unset, .unset, .unset, .unset, .unset, .unset, .unset, .unset, .unset, .unset, .unset, .unset, .unset, .unset, .unset] [(.int (p2 &&& (2147483647 : Int32)))])) (fun t k => XS.iand X0.here hx rfl (hb hby at_9) rfl k) ?_
  generalize hv_x11 : (p2 &&& (2147483647 : Int32)) = x11
  obtain ⟨a11, ea11, la11⟩ := own_msk p2
  rw [hv_x11] at ea11
  obtain ⟨n1', m1', hi1, hu1, hnm1, hm1⟩ := own_mmx ea10 ea11 la10 la11
  refine own_go (U' := s₁.setTop (mkF m 12 #[.val (.int p1), .val (.int p2), .val (.int p3), .val (.int p4), .val (.int p5), .val (.int x10), .val (.int x11), .unset, .unset, .unset, .unset, .unset, .unset, .unset, .unset, .unset, .unset, .unset, .unset, .unset, .unset, .unset, .unset, .unset, .unset, .unset, .unset, .unset, .unset, .unset] [])) (fun t k => XS.istore X0.here hx rfl (hb hby at_10) rfl (l' := #[.val (.int p1), .val (.int p2), .val (.int p3), .val (.int p4), .val (.int p5), .val (.int x10), .val (.int x11), .unset, .unset, .unset, .unset, .unset, .unset, .unset, .unset, .unset, .unset, .unset, .unset, .unset, .unset, .unset, .unset, .unset, .unset, .unset, .unset, .unset, .unset, .unset]) rfl k) ?_
  refine own_go (U' := s₁.setTop (mkF m 14 #[.val (.int p1), .val (.int p2), .val (.int p3), .val (.int p4), .val (.int p5), .val (.int x10), .val (.int x11), .unset, .unset, .unset, .unset, .unset, .unset, .unset, .unset, .unset, .unset, .unset, .unset, .unset, .unset, .unset, .unset, .unset, .unset, .unset, .unset, .unset, .unset, .unset] [(.int x10)])) (fun t k => XS.iload X0.here hx rfl (hb hby at_12) rfl k) ?_
  refine own_go (U' := s₁.setTop (mkF m 16 #[.val (.int p1), .val (.int p2), .val (.int p3), .val (.int p4), .val (.int p5), .val (.int x10), .val (.int x11), .unset, .unset, .unset, .unset, .unset, .unset, .unset, .unset, .unset, .unset, .unset, .unset, .unset, .unset, .unset, .unset, .unset, .unset, .unset, .unset, .unset, .unset, .unset] [(.int x11), (.int x10)])) (fun t k => XS.iload X0.here hx rfl (hb hby at_14) rfl k) ?_
  obtain ⟨v1, T1, h1, L1, e1, X1, hQ1, st1⟩ := own_callS X0 hx hZ (y := (⟨"java/lang/Math", "min", "(II)I"⟩ : MethodName)) hown (hw _ (List.mem_of_getElem? (i := 1) rfl)) (hw _ (List.mem_of_getElem? (i := 2) rfl)) (hw _ (List.mem_of_getElem? (i := 3) rfl)) (hw _ (List.mem_of_getElem? (i := 4) rfl)) (by decide) (own_rmmn l Z a0 hw x10 x11 h0) (W := 0) (by decide) (by decide) (g := (mkF m 16 #[.val (.int p1), .val (.int p2), .val (.int p3), .val (.int p4), .val (.int p5), .val (.int x10), .val (.int x11), .unset, .unset, .unset, .unset, .unset, .unset, .unset, .unset, .unset, .unset, .unset, .unset, .unset, .unset, .unset, .unset, .unset, .unset, .unset, .unset, .unset, .unset, .unset] [(.int x11), (.int x10)])) rfl (by rw [hml]; rfl) (argsL := [(.int x10), (.int x11)]) (rest := []) (lenOf own_pd0 rfl) rfl rfl (by show 2 * 0 + _ ≤ _; exact Nat.le_of_eq rfl) (hb hby at_16) e0 (by decide) (by decide)
  obtain ⟨rfl, rfl, eh1⟩ := hQ1
  have e1 := e1.trans eh1
  rw [List.append_nil] at X1
  refine own_go (U' := T1.setTop (mkF m 19 #[.val (.int p1), .val (.int p2), .val (.int p3), .val (.int p4), .val (.int p5), .val (.int x10), .val (.int x11), .unset, .unset, .unset, .unset, .unset, .unset, .unset, .unset, .unset, .unset, .unset, .unset, .unset, .unset, .unset, .unset, .unset, .unset, .unset, .unset, .unset, .unset, .unset] [(.int (own_min x10 x11))])) st1 ?_
  generalize hv_i1' : (own_min x10 x11) = i1'
  rw [hv_i1'] at hi1
  refine own_go (U' := T1.setTop (mkF m 21 #[.val (.int p1), .val (.int p2), .val (.int p3), .val (.int p4), .val (.int p5), .val (.int x10), .val (.int x11), .val (.int i1'), .unset, .unset, .unset, .unset, .unset, .unset, .unset, .unset, .unset, .unset, .unset, .unset, .unset, .unset, .unset, .unset, .unset, .unset, .unset, .unset, .unset, .unset] [])) (fun t k => XS.istore X1.here hx rfl (hb hby at_19) rfl (l' := #[.val (.int p1), .val (.int p2), .val (.int p3), .val (.int p4), .val (.int p5), .val (.int x10), .val (.int x11), .val (.int i1'), .unset, .unset, .unset, .unset, .unset, .unset, .unset, .unset, .unset, .unset, .unset, .unset, .unset, .unset, .unset, .unset, .unset, .unset, .unset, .unset, .unset, .unset]) rfl k) ?_
  refine own_go (U' := T1.setTop (mkF m 23 #[.val (.int p1), .val (.int p2), .val (.int p3), .val (.int p4), .val (.int p5), .val (.int x10), .val (.int x11), .val (.int i1'), .unset, .unset, .unset, .unset, .unset, .unset, .unset, .unset, .unset, .unset, .unset, .unset, .unset, .unset, .unset, .unset, .unset, .unset, .unset, .unset, .unset, .unset] [(.int x10)])) (fun t k => XS.iload X1.here hx rfl (hb hby at_21) rfl k) ?_
  refine own_go (U' := T1.setTop (mkF m 25 #[.val (.int p1), .val (.int p2), .val (.int p3), .val (.int p4), .val (.int p5), .val (.int x10), .val (.int x11), .val (.int i1'), .unset, .unset, .unset, .unset, .unset, .unset, .unset, .unset, .unset, .unset, .unset, .unset, .unset, .unset, .unset, .unset, .unset, .unset, .unset, .unset, .unset, .unset] [(.int x11), (.int x10)])) (fun t k => XS.iload X1.here hx rfl (hb hby at_23) rfl k) ?_
  obtain ⟨v2, T2, h2, L2, e2, X2, hQ2, st2⟩ := own_callS X1 hx hZ (y := (⟨"java/lang/Math", "max", "(II)I"⟩ : MethodName)) hown (hw _ (List.mem_of_getElem? (i := 5) rfl)) (hw _ (List.mem_of_getElem? (i := 6) rfl)) (hw _ (List.mem_of_getElem? (i := 3) rfl)) (hw _ (List.mem_of_getElem? (i := 7) rfl)) (by decide) (own_rmmx l Z a0 hw x10 x11 h0) (W := 0) (by decide) (by decide) (g := (mkF m 25 #[.val (.int p1), .val (.int p2), .val (.int p3), .val (.int p4), .val (.int p5), .val (.int x10), .val (.int x11), .val (.int i1'), .unset, .unset, .unset, .unset, .unset, .unset, .unset, .unset, .unset, .unset, .unset, .unset, .unset, .unset, .unset, .unset, .unset, .unset, .unset, .unset, .unset, .unset] [(.int x11), (.int x10)])) rfl (by rw [hml]; rfl) (argsL := [(.int x10), (.int x11)]) (rest := []) (lenOf own_pd0 rfl) rfl rfl (by show 2 * 0 + _ ≤ _; exact Nat.le_of_eq rfl) (hb hby at_25) e1 (by decide) (by decide)
  obtain ⟨rfl, rfl, eh2⟩ := hQ2
  have e2 := e2.trans eh2
  rw [List.append_nil] at X2
  refine own_go (U' := T2.setTop (mkF m 28 #[.val (.int p1), .val (.int p2), .val (.int p3), .val (.int p4), .val (.int p5), .val (.int x10), .val (.int x11), .val (.int i1'), .unset, .unset, .unset, .unset, .unset, .unset, .unset, .unset, .unset, .unset, .unset, .unset, .unset, .unset, .unset, .unset, .unset, .unset, .unset, .unset, .unset, .unset] [(.int (own_max x10 x11))])) st2 ?_
  generalize hv_u1' : (own_max x10 x11) = u1'
  rw [hv_u1'] at hu1
  refine own_go (U' := T2.setTop (mkF m 30 #[.val (.int p1), .val (.int p2), .val (.int p3), .val (.int p4), .val (.int p5), .val (.int x10), .val (.int x11), .val (.int i1'), .val (.int u1'), .unset, .unset, .unset, .unset, .unset, .unset, .unset, .unset, .unset, .unset, .unset, .unset, .unset, .unset, .unset, .unset, .unset, .unset, .unset, .unset, .unset] [])) (fun t k => XS.istore X2.here hx rfl (hb hby at_28) rfl (l' := #[.val (.int p1), .val (.int p2), .val (.int p3), .val (.int p4), .val (.int p5), .val (.int x10), .val (.int x11), .val (.int i1'), .val (.int u1'), .unset, .unset, .unset, .unset, .unset, .unset, .unset, .unset, .unset, .unset, .unset, .unset, .unset, .unset, .unset, .unset, .unset, .unset, .unset, .unset, .unset]) rfl k) ?_
  refine own_go (U' := T2.setTop (mkF m 31 #[.val (.int p1), .val (.int p2), .val (.int p3), .val (.int p4), .val (.int p5), .val (.int x10), .val (.int x11), .val (.int i1'), .val (.int u1'), .unset, .unset, .unset, .unset, .unset, .unset, .unset, .unset, .unset, .unset, .unset, .unset, .unset, .unset, .unset, .unset, .unset, .unset, .unset, .unset, .unset] [(.int p3)])) (fun t k => XS.iloadN X2.here hx rfl (hb hby at_30) rfl k) ?_
  refine own_go (U' := T2.setTop (mkF m 33 #[.val (.int p1), .val (.int p2), .val (.int p3), .val (.int p4), .val (.int p5), .val (.int x10), .val (.int x11), .val (.int i1'), .val (.int u1'), .unset, .unset, .unset, .unset, .unset, .unset, .unset, .unset, .unset, .unset, .unset, .unset, .unset, .unset, .unset, .unset, .unset, .unset, .unset, .unset, .unset] [(.int (2147483647 : Int32)), (.int p3)])) (fun t k => X2.ldcInt hx hown (mvT hZ (hw _ (List.mem_of_getElem? (i := 0) rfl))) (g := (mkF m 31 #[.val (.int p1), .val (.int p2), .val (.int p3), .val (.int p4), .val (.int p5), .val (.int x10), .val (.int x11), .val (.int i1'), .val (.int u1'), .unset, .unset, .unset, .unset, .unset, .unset, .unset, .unset, .unset, .unset, .unset, .unset, .unset, .unset, .unset, .unset, .unset, .unset, .unset, .unset, .unset] [(.int p3)])) rfl (hb hby at_31) _ k) ?_
  refine own_go (U' := T2.setTop (mkF m 34 #[.val (.int p1), .val (.int p2), .val (.int p3), .val (.int p4), .val (.int p5), .val (.int x10), .val (.int x11), .val (.int i1'), .val (.int u1'), .unset, .unset, .unset, .unset, .unset, .unset, .unset, .unset, .unset, .unset, .unset, .unset, .unset, .unset, .unset, .unset, .unset, .unset, .unset, .unset, .unset] [(.int (p3 &&& (2147483647 : Int32)))])) (fun t k => XS.iand X2.here hx rfl (hb hby at_33) rfl k) ?_
  generalize hv_x20 : (p3 &&& (2147483647 : Int32)) = x20
  obtain ⟨a20, ea20, la20⟩ := own_msk p3
  rw [hv_x20] at ea20
  refine own_go (U' := T2.setTop (mkF m 36 #[.val (.int p1), .val (.int p2), .val (.int p3), .val (.int p4), .val (.int p5), .val (.int x10), .val (.int x11), .val (.int i1'), .val (.int u1'), .val (.int x20), .unset, .unset, .unset, .unset, .unset, .unset, .unset, .unset, .unset, .unset, .unset, .unset, .unset, .unset, .unset, .unset, .unset, .unset, .unset, .unset] [])) (fun t k => XS.istore X2.here hx rfl (hb hby at_34) rfl (l' := #[.val (.int p1), .val (.int p2), .val (.int p3), .val (.int p4), .val (.int p5), .val (.int x10), .val (.int x11), .val (.int i1'), .val (.int u1'), .val (.int x20), .unset, .unset, .unset, .unset, .unset, .unset, .unset, .unset, .unset, .unset, .unset, .unset, .unset, .unset, .unset, .unset, .unset, .unset, .unset, .unset]) rfl k) ?_
  refine own_go (U' := T2.setTop (mkF m 37 #[.val (.int p1), .val (.int p2), .val (.int p3), .val (.int p4), .val (.int p5), .val (.int x10), .val (.int x11), .val (.int i1'), .val (.int u1'), .val (.int x20), .unset, .unset, .unset, .unset, .unset, .unset, .unset, .unset, .unset, .unset, .unset, .unset, .unset, .unset, .unset, .unset, .unset, .unset, .unset, .unset] [(.int p4)])) (fun t k => XS.iloadN X2.here hx rfl (hb hby at_36) rfl k) ?_
  refine own_go (U' := T2.setTop (mkF m 39 #[.val (.int p1), .val (.int p2), .val (.int p3), .val (.int p4), .val (.int p5), .val (.int x10), .val (.int x11), .val (.int i1'), .val (.int u1'), .val (.int x20), .unset, .unset, .unset, .unset, .unset, .unset, .unset, .unset, .unset, .unset, .unset, .unset, .unset, .unset, .unset, .unset, .unset, .unset, .unset, .unset] [(.int (2147483647 : Int32)), (.int p4)])) (fun t k => X2.ldcInt hx hown (mvT hZ (hw _ (List.mem_of_getElem? (i := 0) rfl))) (g := (mkF m 37 #[.val (.int p1), .val (.int p2), .val (.int p3), .val (.int p4), .val (.int p5), .val (.int x10), .val (.int x11), .val (.int i1'), .val (.int u1'), .val (.int x20), .unset, .unset, .unset, .unset, .unset, .unset, .unset, .unset, .unset, .unset, .unset, .unset, .unset, .unset, .unset, .unset, .unset, .unset, .unset, .unset] [(.int p4)])) rfl (hb hby at_37) _ k) ?_
  refine own_go (U' := T2.setTop (mkF m 40 #[.val (.int p1), .val (.int p2), .val (.int p3), .val (.int p4), .val (.int p5), .val (.int x10), .val (.int x11), .val (.int i1'), .val (.int u1'), .val (.int x20), .unset, .unset, .unset, .unset, .unset, .unset, .unset, .unset, .unset, .unset, .unset, .unset, .unset, .unset, .unset, .unset, .unset, .unset, .unset, .unset] [(.int (p4 &&& (2147483647 : Int32)))])) (fun t k => XS.iand X2.here hx rfl (hb hby at_39) rfl k) ?_
  generalize hv_x21 : (p4 &&& (2147483647 : Int32)) = x21
  obtain ⟨a21, ea21, la21⟩ := own_msk p4
  rw [hv_x21] at ea21
  obtain ⟨n2', m2', hi2, hu2, hnm2, hm2⟩ := own_mmx ea20 ea21 la20 la21
  refine own_go (U' := T2.setTop (mkF m 42 #[.val (.int p1), .val (.int p2), .val (.int p3), .val (.int p4), .val (.int p5), .val (.int x10), .val (.int x11), .val (.int i1'), .val (.int u1'), .val (.int x20), .val (.int x21), .unset, .unset, .unset, .unset, .unset, .unset, .unset, .unset, .unset, .unset, .unset, .unset, .unset, .unset, .unset, .unset, .unset, .unset, .unset] [])) (fun t k => XS.istore X2.here hx rfl (hb hby at_40) rfl (l' := #[.val (.int p1), .val (.int p2), .val (.int p3), .val (.int p4), .val (.int p5), .val (.int x10), .val (.int x11), .val (.int i1'), .val (.int u1'), .val (.int x20), .val (.int x21), .unset, .unset, .unset, .unset, .unset, .unset, .unset, .unset, .unset, .unset, .unset, .unset, .unset, .unset, .unset, .unset, .unset, .unset, .unset]) rfl k) ?_
  refine own_go (U' := T2.setTop (mkF m 44 #[.val (.int p1), .val (.int p2), .val (.int p3), .val (.int p4), .val (.int p5), .val (.int x10), .val (.int x11), .val (.int i1'), .val (.int u1'), .val (.int x20), .val (.int x21), .unset, .unset, .unset, .unset, .unset, .unset, .unset, .unset, .unset, .unset, .unset, .unset, .unset, .unset, .unset, .unset, .unset, .unset, .unset] [(.int x20)])) (fun t k => XS.iload X2.here hx rfl (hb hby at_42) rfl k) ?_
  refine own_go (U' := T2.setTop (mkF m 46 #[.val (.int p1), .val (.int p2), .val (.int p3), .val (.int p4), .val (.int p5), .val (.int x10), .val (.int x11), .val (.int i1'), .val (.int u1'), .val (.int x20), .val (.int x21), .unset, .unset, .unset, .unset, .unset, .unset, .unset, .unset, .unset, .unset, .unset, .unset, .unset, .unset, .unset, .unset, .unset, .unset, .unset] [(.int x21), (.int x20)])) (fun t k => XS.iload X2.here hx rfl (hb hby at_44) rfl k) ?_
  obtain ⟨v3, T3, h3, L3, e3, X3, hQ3, st3⟩ := own_callS X2 hx hZ (y := (⟨"java/lang/Math", "min", "(II)I"⟩ : MethodName)) hown (hw _ (List.mem_of_getElem? (i := 1) rfl)) (hw _ (List.mem_of_getElem? (i := 2) rfl)) (hw _ (List.mem_of_getElem? (i := 3) rfl)) (hw _ (List.mem_of_getElem? (i := 4) rfl)) (by decide) (own_rmmn l Z a0 hw x20 x21 h0) (W := 0) (by decide) (by decide) (g := (mkF m 46 #[.val (.int p1), .val (.int p2), .val (.int p3), .val (.int p4), .val (.int p5), .val (.int x10), .val (.int x11), .val (.int i1'), .val (.int u1'), .val (.int x20), .val (.int x21), .unset, .unset, .unset, .unset, .unset, .unset, .unset, .unset, .unset, .unset, .unset, .unset, .unset, .unset, .unset, .unset, .unset, .unset, .unset] [(.int x21), (.int x20)])) rfl (by rw [hml]; rfl) (argsL := [(.int x20), (.int x21)]) (rest := []) (lenOf own_pd0 rfl) rfl rfl (by show 2 * 0 + _ ≤ _; exact Nat.le_of_eq rfl) (hb hby at_46) e2 (by decide) (by decide)
  obtain ⟨rfl, rfl, eh3⟩ := hQ3
  have e3 := e3.trans eh3
  rw [List.append_nil] at X3
  refine own_go (U' := T3.setTop (mkF m 49 #[.val (.int p1), .val (.int p2), .val (.int p3), .val (.int p4), .val (.int p5), .val (.int x10), .val (.int x11), .val (.int i1'), .val (.int u1'), .val (.int x20), .val (.int x21), .unset, .unset, .unset, .unset, .unset, .unset, .unset, .unset, .unset, .unset, .unset, .unset, .unset, .unset, .unset, .unset, .unset, .unset, .unset] [(.int (own_min x20 x21))])) st3 ?_
  generalize hv_i2' : (own_min x20 x21) = i2'
  rw [hv_i2'] at hi2
  refine own_go (U' := T3.setTop (mkF m 51 #[.val (.int p1), .val (.int p2), .val (.int p3), .val (.int p4), .val (.int p5), .val (.int x10), .val (.int x11), .val (.int i1'), .val (.int u1'), .val (.int x20), .val (.int x21), .val (.int i2'), .unset, .unset, .unset, .unset, .unset, .unset, .unset, .unset, .unset, .unset, .unset, .unset, .unset, .unset, .unset, .unset, .unset, .unset] [])) (fun t k => XS.istore X3.here hx rfl (hb hby at_49) rfl (l' := #[.val (.int p1), .val (.int p2), .val (.int p3), .val (.int p4), .val (.int p5), .val (.int x10), .val (.int x11), .val (.int i1'), .val (.int u1'), .val (.int x20), .val (.int x21), .val (.int i2'), .unset, .unset, .unset, .unset, .unset, .unset, .unset, .unset, .unset, .unset, .unset, .unset, .unset, .unset, .unset, .unset, .unset, .unset]) rfl k) ?_
  refine own_go (U' := T3.setTop (mkF m 53 #[.val (.int p1), .val (.int p2), .val (.int p3), .val (.int p4), .val (.int p5), .val (.int x10), .val (.int x11), .val (.int i1'), .val (.int u1'), .val (.int x20), .val (.int x21), .val (.int i2'), .unset, .unset, .unset, .unset, .unset, .unset, .unset, .unset, .unset, .unset, .unset, .unset, .unset, .unset, .unset, .unset, .unset, .unset] [(.int x20)])) (fun t k => XS.iload X3.here hx rfl (hb hby at_51) rfl k) ?_
  refine own_go (U' := T3.setTop (mkF m 55 #[.val (.int p1), .val (.int p2), .val (.int p3), .val (.int p4), .val (.int p5), .val (.int x10), .val (.int x11), .val (.int i1'), .val (.int u1'), .val (.int x20), .val (.int x21), .val (.int i2'), .unset, .unset, .unset, .unset, .unset, .unset, .unset, .unset, .unset, .unset, .unset, .unset, .unset, .unset, .unset, .unset, .unset, .unset] [(.int x21), (.int x20)])) (fun t k => XS.iload X3.here hx rfl (hb hby at_53) rfl k) ?_
  obtain ⟨v4, T4, h4, L4, e4, X4, hQ4, st4⟩ := own_callS X3 hx hZ (y := (⟨"java/lang/Math", "max", "(II)I"⟩ : MethodName)) hown (hw _ (List.mem_of_getElem? (i := 5) rfl)) (hw _ (List.mem_of_getElem? (i := 6) rfl)) (hw _ (List.mem_of_getElem? (i := 3) rfl)) (hw _ (List.mem_of_getElem? (i := 7) rfl)) (by decide) (own_rmmx l Z a0 hw x20 x21 h0) (W := 0) (by decide) (by decide) (g := (mkF m 55 #[.val (.int p1), .val (.int p2), .val (.int p3), .val (.int p4), .val (.int p5), .val (.int x10), .val (.int x11), .val (.int i1'), .val (.int u1'), .val (.int x20), .val (.int x21), .val (.int i2'), .unset, .unset, .unset, .unset, .unset, .unset, .unset, .unset, .unset, .unset, .unset, .unset, .unset, .unset, .unset, .unset, .unset, .unset] [(.int x21), (.int x20)])) rfl (by rw [hml]; rfl) (argsL := [(.int x20), (.int x21)]) (rest := []) (lenOf own_pd0 rfl) rfl rfl (by show 2 * 0 + _ ≤ _; exact Nat.le_of_eq rfl) (hb hby at_55) e3 (by decide) (by decide)
  obtain ⟨rfl, rfl, eh4⟩ := hQ4
  have e4 := e4.trans eh4
  rw [List.append_nil] at X4
  refine own_go (U' := T4.setTop (mkF m 58 #[.val (.int p1), .val (.int p2), .val (.int p3), .val (.int p4), .val (.int p5), .val (.int x10), .val (.int x11), .val (.int i1'), .val (.int u1'), .val (.int x20), .val (.int x21), .val (.int i2'), .unset, .unset, .unset, .unset, .unset, .unset, .unset, .unset, .unset, .unset, .unset, .unset, .unset, .unset, .unset, .unset, .unset, .unset] [(.int (own_max x20 x21))])) st4 ?_
  generalize hv_u2' : (own_max x20 x21) = u2'
  rw [hv_u2'] at hu2
  refine own_go (U' := T4.setTop (mkF m 60 #[.val (.int p1), .val (.int p2), .val (.int p3), .val (.int p4), .val (.int p5), .val (.int x10), .val (.int x11), .val (.int i1'), .val (.int u1'), .val (.int x20), .val (.int x21), .val (.int i2'), .val (.int u2'), .unset, .unset, .unset, .unset, .unset, .unset, .unset, .unset, .unset, .unset, .unset, .unset, .unset, .unset, .unset, .unset, .unset] [])) (fun t k => XS.istore X4.here hx rfl (hb hby at_58) rfl (l' := #[.val (.int p1), .val (.int p2), .val (.int p3), .val (.int p4), .val (.int p5), .val (.int x10), .val (.int x11), .val (.int i1'), .val (.int u1'), .val (.int x20), .val (.int x21), .val (.int i2'), .val (.int u2'), .unset, .unset, .unset, .unset, .unset, .unset, .unset, .unset, .unset, .unset, .unset, .unset, .unset, .unset, .unset, .unset, .unset]) rfl k) ?_
  refine own_go (U' := T4.setTop (mkF m 62 #[.val (.int p1), .val (.int p2), .val (.int p3), .val (.int p4), .val (.int p5), .val (.int x10), .val (.int x11), .val (.int i1'), .val (.int u1'), .val (.int x20), .val (.int x21), .val (.int i2'), .val (.int u2'), .unset, .unset, .unset, .unset, .unset, .unset, .unset, .unset, .unset, .unset, .unset, .unset, .unset, .unset, .unset, .unset, .unset] [(.int p5)])) (fun t k => XS.iload X4.here hx rfl (hb hby at_60) rfl k) ?_
  refine own_go (U' := T4.setTop (mkF m 64 #[.val (.int p1), .val (.int p2), .val (.int p3), .val (.int p4), .val (.int p5), .val (.int x10), .val (.int x11), .val (.int i1'), .val (.int u1'), .val (.int x20), .val (.int x21), .val (.int i2'), .val (.int u2'), .unset, .unset, .unset, .unset, .unset, .unset, .unset, .unset, .unset, .unset, .unset, .unset, .unset, .unset, .unset, .unset, .unset] [(.int (15 : Int32)), (.int p5)])) (fun t k => XS.bipush X4.here hx rfl (hb hby at_62) k) ?_
  refine own_go (U' := T4.setTop (mkF m 65 #[.val (.int p1), .val (.int p2), .val (.int p3), .val (.int p4), .val (.int p5), .val (.int x10), .val (.int x11), .val (.int i1'), .val (.int u1'), .val (.int x20), .val (.int x21), .val (.int i2'), .val (.int u2'), .unset, .unset, .unset, .unset, .unset, .unset, .unset, .unset, .unset, .unset, .unset, .unset, .unset, .unset, .unset, .unset, .unset] [(.int (p5 &&& (15 : Int32)))])) (fun t k => XS.iand X4.here hx rfl (hb hby at_64) rfl k) ?_
  refine own_go (U' := T4.setTop (mkF m 66 #[.val (.int p1), .val (.int p2), .val (.int p3), .val (.int p4), .val (.int p5), .val (.int x10), .val (.int x11), .val (.int i1'), .val (.int u1'), .val (.int x20), .val (.int x21), .val (.int i2'), .val (.int u2'), .unset, .unset, .unset, .unset, .unset, .unset, .unset, .unset, .unset, .unset, .unset, .unset, .unset, .unset, .unset, .unset, .unset] [(.int (1 : Int32)), (.int (p5 &&& (15 : Int32)))])) (fun t k => XS.iconst X4.here hx rfl (hb hby at_65) k) ?_
  refine own_go (U' := T4.setTop (mkF m 67 #[.val (.int p1), .val (.int p2), .val (.int p3), .val (.int p4), .val (.int p5), .val (.int x10), .val (.int x11), .val (.int i1'), .val (.int u1'), .val (.int x20), .val (.int x21), .val (.int i2'), .val (.int u2'), .unset, .unset, .unset, .unset, .unset, .unset, .unset, .unset, .unset, .unset, .unset, .unset, .unset, .unset, .unset, .unset, .unset] [(.int ((p5 &&& (15 : Int32)) + (1 : Int32)))])) (fun t k => XS.iadd X4.here hx rfl (hb hby at_66) rfl k) ?_
  refine own_go (U' := T4.setTop (mkF m 68 #[.val (.int p1), .val (.int p2), .val (.int p3), .val (.int p4), .val (.int p5), .val (.int x10), .val (.int x11), .val (.int i1'), .val (.int u1'), .val (.int x20), .val (.int x21), .val (.int i2'), .val (.int u2'), .unset, .unset, .unset, .unset, .unset, .unset, .unset, .unset, .unset, .unset, .unset, .unset, .unset, .unset, .unset, .unset, .unset] [(.long (((p5 &&& (15 : Int32)) + (1 : Int32)).toInt64))])) (fun t k => XS.i2l X4.here hx rfl (hb hby at_67) rfl k) ?_
  generalize hv_k0' : (((p5 &&& (15 : Int32)) + (1 : Int32)).toInt64) = k0'
  obtain ⟨j0, hj0, lj1, lj2⟩ := own_kk p5
  rw [hv_k0'] at hj0
  refine own_go (U' := T4.setTop (mkF m 70 #[.val (.int p1), .val (.int p2), .val (.int p3), .val (.int p4), .val (.int p5), .val (.int x10), .val (.int x11), .val (.int i1'), .val (.int u1'), .val (.int x20), .val (.int x21), .val (.int i2'), .val (.int u2'), .val (.long k0'), .second, .unset, .unset, .unset, .unset, .unset, .unset, .unset, .unset, .unset, .unset, .unset, .unset, .unset, .unset, .unset] [])) (fun t k => XS.lstore X4.here hx rfl (hb hby at_68) rfl (l' := #[.val (.int p1), .val (.int p2), .val (.int p3), .val (.int p4), .val (.int p5), .val (.int x10), .val (.int x11), .val (.int i1'), .val (.int u1'), .val (.int x20), .val (.int x21), .val (.int i2'), .val (.int u2'), .val (.long k0'), .second, .unset, .unset, .unset, .unset, .unset, .unset, .unset, .unset, .unset, .unset, .unset, .unset, .unset, .unset, .unset]) rfl k) ?_
  refine own_go (U' := T4.setTop (mkF m 72 #[.val (.int p1), .val (.int p2), .val (.int p3), .val (.int p4), .val (.int p5), .val (.int x10), .val (.int x11), .val (.int i1'), .val (.int u1'), .val (.int x20), .val (.int x21), .val (.int i2'), .val (.int u2'), .val (.long k0'), .second, .unset, .unset, .unset, .unset, .unset, .unset, .unset, .unset, .unset, .unset, .unset, .unset, .unset, .unset, .unset] [(.int u1')])) (fun t k => XS.iload X4.here hx rfl (hb hby at_70) rfl k) ?_
  refine own_go (U' := T4.setTop (mkF m 73 #[.val (.int p1), .val (.int p2), .val (.int p3), .val (.int p4), .val (.int p5), .val (.int x10), .val (.int x11), .val (.int i1'), .val (.int u1'), .val (.int x20), .val (.int x21), .val (.int i2'), .val (.int u2'), .val (.long k0'), .second, .unset, .unset, .unset, .unset, .unset, .unset, .unset, .unset, .unset, .unset, .unset, .unset, .unset, .unset, .unset] [(.long (u1'.toInt64))])) (fun t k => XS.i2l X4.here hx rfl (hb hby at_72) rfl k) ?_
  refine own_go (U' := T4.setTop (mkF m 75 #[.val (.int p1), .val (.int p2), .val (.int p3), .val (.int p4), .val (.int p5), .val (.int x10), .val (.int x11), .val (.int i1'), .val (.int u1'), .val (.int x20), .val (.int x21), .val (.int i2'), .val (.int u2'), .val (.long k0'), .second, .unset, .unset, .unset, .unset, .unset, .unset, .unset, .unset, .unset, .unset, .unset, .unset, .unset, .unset, .unset] [(.long k0'), (.long (u1'.toInt64))])) (fun t k => XS.lload X4.here hx rfl (hb hby at_73) rfl k) ?_
  refine own_go (U' := T4.setTop (mkF m 76 #[.val (.int p1), .val (.int p2), .val (.int p3), .val (.int p4), .val (.int p5), .val (.int x10), .val (.int x11), .val (.int i1'), .val (.int u1'), .val (.int x20), .val (.int x21), .val (.int i2'), .val (.int u2'), .val (.long k0'), .second, .unset, .unset, .unset, .unset, .unset, .unset, .unset, .unset, .unset, .unset, .unset, .unset, .unset, .unset, .unset] [(.long ((u1'.toInt64) * k0'))])) (fun t k => XS.lmul X4.here hx rfl (hb hby at_75) rfl k) ?_
  refine own_go (U' := T4.setTop (mkF m 79 #[.val (.int p1), .val (.int p2), .val (.int p3), .val (.int p4), .val (.int p5), .val (.int x10), .val (.int x11), .val (.int i1'), .val (.int u1'), .val (.int x20), .val (.int x21), .val (.int i2'), .val (.int u2'), .val (.long k0'), .second, .unset, .unset, .unset, .unset, .unset, .unset, .unset, .unset, .unset, .unset, .unset, .unset, .unset, .unset, .unset] [(.long (2147483647 : Int64)), (.long ((u1'.toInt64) * k0'))])) (fun t k => X4.ldc2Long hx hown (mvT hZ (hw _ (List.mem_of_getElem? (i := 8) rfl))) (g := (mkF m 76 #[.val (.int p1), .val (.int p2), .val (.int p3), .val (.int p4), .val (.int p5), .val (.int x10), .val (.int x11), .val (.int i1'), .val (.int u1'), .val (.int x20), .val (.int x21), .val (.int i2'), .val (.int u2'), .val (.long k0'), .second, .unset, .unset, .unset, .unset, .unset, .unset, .unset, .unset, .unset, .unset, .unset, .unset, .unset, .unset, .unset] [(.long ((u1'.toInt64) * k0'))])) rfl (hb hby at_76) _ k) ?_
  refine own_go (U' := T4.setTop (mkF m 80 #[.val (.int p1), .val (.int p2), .val (.int p3), .val (.int p4), .val (.int p5), .val (.int x10), .val (.int x11), .val (.int i1'), .val (.int u1'), .val (.int x20), .val (.int x21), .val (.int i2'), .val (.int u2'), .val (.long k0'), .second, .unset, .unset, .unset, .unset, .unset, .unset, .unset, .unset, .unset, .unset, .unset, .unset, .unset, .unset, .unset] [(.int (lcmpW ((u1'.toInt64) * k0') (2147483647 : Int64)))])) (fun t k => XS.lcmp X4.here hx rfl (hb hby at_79) rfl k) ?_
  refine own_go (U' := T4.setTop (mkF m 86 #[.val (.int p1), .val (.int p2), .val (.int p3), .val (.int p4), .val (.int p5), .val (.int x10), .val (.int x11), .val (.int i1'), .val (.int u1'), .val (.int x20), .val (.int x21), .val (.int i2'), .val (.int u2'), .val (.long (if (2147483647 : Int64) < ((u1'.toInt64) * k0') then (1 : Int64) else k0')), .second, .unset, .unset, .unset, .unset, .unset, .unset, .unset, .unset, .unset, .unset, .unset, .unset, .unset, .unset, .unset] [])) (fun t k => ?_) ?_
  · show Steps p.tables e below (T4.setTop (mkF m 80 #[.val (.int p1), .val (.int p2), .val (.int p3), .val (.int p4), .val (.int p5), .val (.int x10), .val (.int x11), .val (.int i1'), .val (.int u1'), .val (.int x20), .val (.int x21), .val (.int i2'), .val (.int u2'), .val (.long k0'), .second, .unset, .unset, .unset, .unset, .unset, .unset, .unset, .unset, .unset, .unset, .unset, .unset, .unset, .unset, .unset] [(.int (lcmpW ((u1'.toInt64) * k0') (2147483647 : Int64)))])) _
    by_cases hd80 : (2147483647 : Int64) < ((u1'.toInt64) * k0')
    · simp only [if_pos hd80] at k
      refine XS.ifNo X4.here hx rfl (hb hby at_80) rfl ((if0 _ _).trans (tlt ((lw_gt ((u1'.toInt64) * k0') (2147483647 : Int64)).mpr hd80)).2.2.2) ?_
      show Steps p.tables e below (T4.setTop (mkF m 83 #[.val (.int p1), .val (.int p2), .val (.int p3), .val (.int p4), .val (.int p5), .val (.int x10), .val (.int x11), .val (.int i1'), .val (.int u1'), .val (.int x20), .val (.int x21), .val (.int i2'), .val (.int u2'), .val (.long k0'), .second, .unset, .unset, .unset, .unset, .unset, .unset, .unset, .unset, .unset, .unset, .unset, .unset, .unset, .unset, .unset] [])) _
      refine XS.lconst X4.here hx rfl (hb hby at_83) ?_
      show Steps p.tables e below (T4.setTop (mkF m 84 #[.val (.int p1), .val (.int p2), .val (.int p3), .val (.int p4), .val (.int p5), .val (.int x10), .val (.int x11), .val (.int i1'), .val (.int u1'), .val (.int x20), .val (.int x21), .val (.int i2'), .val (.int u2'), .val (.long k0'), .second, .unset, .unset, .unset, .unset, .unset, .unset, .unset, .unset, .unset, .unset, .unset, .unset, .unset, .unset, .unset] [(.long (1 : Int64))])) _
      refine XS.lstore X4.here hx rfl (hb hby at_84) rfl (l' := #[.val (.int p1), .val (.int p2), .val (.int p3), .val (.int p4), .val (.int p5), .val (.int x10), .val (.int x11), .val (.int i1'), .val (.int u1'), .val (.int x20), .val (.int x21), .val (.int i2'), .val (.int u2'), .val (.long (1 : Int64)), .second, .unset, .unset, .unset, .unset, .unset, .unset, .unset, .unset, .unset, .unset, .unset, .unset, .unset, .unset, .unset]) rfl ?_
      show Steps p.tables e below (T4.setTop (mkF m 86 #[.val (.int p1), .val (.int p2), .val (.int p3), .val (.int p4), .val (.int p5), .val (.int x10), .val (.int x11), .val (.int i1'), .val (.int u1'), .val (.int x20), .val (.int x21), .val (.int i2'), .val (.int u2'), .val (.long (1 : Int64)), .second, .unset, .unset, .unset, .unset, .unset, .unset, .unset, .unset, .unset, .unset, .unset, .unset, .unset, .unset, .unset] [])) _
      exact k
    · simp only [if_neg hd80] at k
      refine XS.ifYes X4.here hx rfl (pc0 := 80) (pc' := 86) rfl (hb hby at_80) rfl ((if0 _ _).trans (flt (fun q => hd80 ((lw_gt ((u1'.toInt64) * k0') (2147483647 : Int64)).mp q))).2.2.2) (by decide) (by decide) ?_
      show Steps p.tables e below (T4.setTop (mkF m 86 #[.val (.int p1), .val (.int p2), .val (.int p3), .val (.int p4), .val (.int p5), .val (.int x10), .val (.int x11), .val (.int i1'), .val (.int u1'), .val (.int x20), .val (.int x21), .val (.int i2'), .val (.int u2'), .val (.long k0'), .second, .unset, .unset, .unset, .unset, .unset, .unset, .unset, .unset, .unset, .unset, .unset, .unset, .unset, .unset, .unset] [])) _
      exact k
  obtain ⟨j3, hj3, lj3, lj4, lj5⟩ := own_kd (own_w64 hu1) hj0 lj1 lj2 hm1
  generalize hv_kk : (if (2147483647 : Int64) < ((u1'.toInt64) * k0') then (1 : Int64) else k0') = kk at hj3 ⊢
  have lj6 : n1' * j3 ≤ m1' * j3 := Nat.mul_le_mul_right _ hnm1
  refine own_go (U' := T4.setTop (mkF m 88 #[.val (.int p1), .val (.int p2), .val (.int p3), .val (.int p4), .val (.int p5), .val (.int x10), .val (.int x11), .val (.int i1'), .val (.int u1'), .val (.int x20), .val (.int x21), .val (.int i2'), .val (.int u2'), .val (.long kk), .second, .unset, .unset, .unset, .unset, .unset, .unset, .unset, .unset, .unset, .unset, .unset, .unset, .unset, .unset, .unset] [(.int i1')])) (fun t k => XS.iload X4.here hx rfl (hb hby at_86) rfl k) ?_
  refine own_go (U' := T4.setTop (mkF m 89 #[.val (.int p1), .val (.int p2), .val (.int p3), .val (.int p4), .val (.int p5), .val (.int x10), .val (.int x11), .val (.int i1'), .val (.int u1'), .val (.int x20), .val (.int x21), .val (.int i2'), .val (.int u2'), .val (.long kk), .second, .unset, .unset, .unset, .unset, .unset, .unset, .unset, .unset, .unset, .unset, .unset, .unset, .unset, .unset, .unset] [(.long (i1'.toInt64))])) (fun t k => XS.i2l X4.here hx rfl (hb hby at_88) rfl k) ?_
  refine own_go (U' := T4.setTop (mkF m 91 #[.val (.int p1), .val (.int p2), .val (.int p3), .val (.int p4), .val (.int p5), .val (.int x10), .val (.int x11), .val (.int i1'), .val (.int u1'), .val (.int x20), .val (.int x21), .val (.int i2'), .val (.int u2'), .val (.long kk), .second, .unset, .unset, .unset, .unset, .unset, .unset, .unset, .unset, .unset, .unset, .unset, .unset, .unset, .unset, .unset] [(.long kk), (.long (i1'.toInt64))])) (fun t k => XS.lload X4.here hx rfl (hb hby at_89) rfl k) ?_
  refine own_go (U' := T4.setTop (mkF m 92 #[.val (.int p1), .val (.int p2), .val (.int p3), .val (.int p4), .val (.int p5), .val (.int x10), .val (.int x11), .val (.int i1'), .val (.int u1'), .val (.int x20), .val (.int x21), .val (.int i2'), .val (.int u2'), .val (.long kk), .second, .unset, .unset, .unset, .unset, .unset, .unset, .unset, .unset, .unset, .unset, .unset, .unset, .unset, .unset, .unset] [(.long ((i1'.toInt64) * kk))])) (fun t k => XS.lmul X4.here hx rfl (hb hby at_91) rfl k) ?_
  refine own_go (U' := T4.setTop (mkF m 93 #[.val (.int p1), .val (.int p2), .val (.int p3), .val (.int p4), .val (.int p5), .val (.int x10), .val (.int x11), .val (.int i1'), .val (.int u1'), .val (.int x20), .val (.int x21), .val (.int i2'), .val (.int u2'), .val (.long kk), .second, .unset, .unset, .unset, .unset, .unset, .unset, .unset, .unset, .unset, .unset, .unset, .unset, .unset, .unset, .unset] [(.int (((i1'.toInt64) * kk).toInt32))])) (fun t k => XS.l2i X4.here hx rfl (hb hby at_92) rfl k) ?_
  have hi3 := own_i3 hi1 hj3 (by omega) lj4 (by omega)
  generalize hv_i3' : (((i1'.toInt64) * kk).toInt32) = i3' at hi3 ⊢
  refine own_go (U' := T4.setTop (mkF m 95 #[.val (.int p1), .val (.int p2), .val (.int p3), .val (.int p4), .val (.int p5), .val (.int x10), .val (.int x11), .val (.int i1'), .val (.int u1'), .val (.int x20), .val (.int x21), .val (.int i2'), .val (.int u2'), .val (.long kk), .second, .val (.int i3'), .unset, .unset, .unset, .unset, .unset, .unset, .unset, .unset, .unset, .unset, .unset, .unset, .unset, .unset] [])) (fun t k => XS.istore X4.here hx rfl (hb hby at_93) rfl (l' := #[.val (.int p1), .val (.int p2), .val (.int p3), .val (.int p4), .val (.int p5), .val (.int x10), .val (.int x11), .val (.int i1'), .val (.int u1'), .val (.int x20), .val (.int x21), .val (.int i2'), .val (.int u2'), .val (.long kk), .second, .val (.int i3'), .unset, .unset, .unset, .unset, .unset, .unset, .unset, .unset, .unset, .unset, .unset, .unset, .unset, .unset]) rfl k) ?_
  refine own_go (U' := T4.setTop (mkF m 97 #[.val (.int p1), .val (.int p2), .val (.int p3), .val (.int p4), .val (.int p5), .val (.int x10), .val (.int x11), .val (.int i1'), .val (.int u1'), .val (.int x20), .val (.int x21), .val (.int i2'), .val (.int u2'), .val (.long kk), .second, .val (.int i3'), .unset, .unset, .unset, .unset, .unset, .unset, .unset, .unset, .unset, .unset, .unset, .unset, .unset, .unset] [(.int u1')])) (fun t k => XS.iload X4.here hx rfl (hb hby at_95) rfl k) ?_
  refine own_go (U' := T4.setTop (mkF m 98 #[.val (.int p1), .val (.int p2), .val (.int p3), .val (.int p4), .val (.int p5), .val (.int x10), .val (.int x11), .val (.int i1'), .val (.int u1'), .val (.int x20), .val (.int x21), .val (.int i2'), .val (.int u2'), .val (.long kk), .second, .val (.int i3'), .unset, .unset, .unset, .unset, .unset, .unset, .unset, .unset, .unset, .unset, .unset, .unset, .unset, .unset] [(.long (u1'.toInt64))])) (fun t k => XS.i2l X4.here hx rfl (hb hby at_97) rfl k) ?_
  refine own_go (U' := T4.setTop (mkF m 100 #[.val (.int p1), .val (.int p2), .val (.int p3), .val (.int p4), .val (.int p5), .val (.int x10), .val (.int x11), .val (.int i1'), .val (.int u1'), .val (.int x20), .val (.int x21), .val (.int i2'), .val (.int u2'), .val (.long kk), .second, .val (.int i3'), .unset, .unset, .unset, .unset, .unset, .unset, .unset, .unset, .unset, .unset, .unset, .unset, .unset, .unset] [(.long kk), (.long (u1'.toInt64))])) (fun t k => XS.lload X4.here hx rfl (hb hby at_98) rfl k) ?_
  refine own_go (U' := T4.setTop (mkF m 101 #[.val (.int p1), .val (.int p2), .val (.int p3), .val (.int p4), .val (.int p5), .val (.int x10), .val (.int x11), .val (.int i1'), .val (.int u1'), .val (.int x20), .val (.int x21), .val (.int i2'), .val (.int u2'), .val (.long kk), .second, .val (.int i3'), .unset, .unset, .unset, .unset, .unset, .unset, .unset, .unset, .unset, .unset, .unset, .unset, .unset, .unset] [(.long ((u1'.toInt64) * kk))])) (fun t k => XS.lmul X4.here hx rfl (hb hby at_100) rfl k) ?_
  refine own_go (U' := T4.setTop (mkF m 102 #[.val (.int p1), .val (.int p2), .val (.int p3), .val (.int p4), .val (.int p5), .val (.int x10), .val (.int x11), .val (.int i1'), .val (.int u1'), .val (.int x20), .val (.int x21), .val (.int i2'), .val (.int u2'), .val (.long kk), .second, .val (.int i3'), .unset, .unset, .unset, .unset, .unset, .unset, .unset, .unset, .unset, .unset, .unset, .unset, .unset, .unset] [(.int (((u1'.toInt64) * kk).toInt32))])) (fun t k => XS.l2i X4.here hx rfl (hb hby at_101) rfl k) ?_
  have hu3 := own_i3 hu1 hj3 hm1 lj4 lj5
  generalize hv_u3' : (((u1'.toInt64) * kk).toInt32) = u3' at hu3 ⊢
  refine own_go (U' := T4.setTop (mkF m 104 #[.val (.int p1), .val (.int p2), .val (.int p3), .val (.int p4), .val (.int p5), .val (.int x10), .val (.int x11), .val (.int i1'), .val (.int u1'), .val (.int x20), .val (.int x21), .val (.int i2'), .val (.int u2'), .val (.long kk), .second, .val (.int i3'), .val (.int u3'), .unset, .unset, .unset, .unset, .unset, .unset, .unset, .unset, .unset, .unset, .unset, .unset, .unset] [])) (fun t k => XS.istore X4.here hx rfl (hb hby at_102) rfl (l' := #[.val (.int p1), .val (.int p2), .val (.int p3), .val (.int p4), .val (.int p5), .val (.int x10), .val (.int x11), .val (.int i1'), .val (.int u1'), .val (.int x20), .val (.int x21), .val (.int i2'), .val (.int u2'), .val (.long kk), .second, .val (.int i3'), .val (.int u3'), .unset, .unset, .unset, .unset, .unset, .unset, .unset, .unset, .unset, .unset, .unset, .unset, .unset]) rfl k) ?_
  obtain ⟨T5, h5, X5, e5, E5, A5, D5, -, st5⟩ := newO X4 hx hZ hown (hw _ (List.mem_of_getElem? (i := 9) rfl)) (hw _ (List.mem_of_getElem? (i := 10) rfl)) (hw _ (List.mem_of_getElem? (i := 11) rfl)) e4 (g := (mkF m 104 #[.val (.int p1), .val (.int p2), .val (.int p3), .val (.int p4), .val (.int p5), .val (.int x10), .val (.int x11), .val (.int i1'), .val (.int u1'), .val (.int x20), .val (.int x21), .val (.int i2'), .val (.int u2'), .val (.long kk), .second, .val (.int i3'), .val (.int u3'), .unset, .unset, .unset, .unset, .unset, .unset, .unset, .unset, .unset, .unset, .unset, .unset, .unset] [])) rfl (hb hby at_104) (by decide) (by decide)
  obtain ⟨b5, g5⟩ : ∃ z, z = h0.size := ⟨_, rfl⟩
  rw [← g5] at A5 D5 st5
  have g_b5 : n0 ≤ b5 := Nat.le_trans (Nat.le_trans (Nat.le_of_eq O.1.symm) O.2.1) (Nat.le_of_eq g5.symm)
  have O := O.ext E5
  have E_b5 := A5
  have F_intersection_b5 : Fld Z h5 b5 "com/example/minwise/minwise/model/Overlap" "intersection" "I" (.int (0 : Int32)) := D5 (Or.inr (hw _ (List.mem_of_getElem? (i := 19) rfl))) (ty := .int) (by decide)
  have F_union_b5 : Fld Z h5 b5 "com/example/minwise/minwise/model/Overlap" "union" "I" (.int (0 : Int32)) := D5 (Or.inr (hw _ (List.mem_of_getElem? (i := 21) rfl))) (ty := .int) (by decide)
  refine own_go (U' := T5.setTop (mkF m 107 #[.val (.int p1), .val (.int p2), .val (.int p3), .val (.int p4), .val (.int p5), .val (.int x10), .val (.int x11), .val (.int i1'), .val (.int u1'), .val (.int x20), .val (.int x21), .val (.int i2'), .val (.int u2'), .val (.long kk), .second, .val (.int i3'), .val (.int u3'), .unset, .unset, .unset, .unset, .unset, .unset, .unset, .unset, .unset, .unset, .unset, .unset, .unset] [(.ref b5)])) st5 ?_
  refine own_go (U' := T5.setTop (mkF m 108 #[.val (.int p1), .val (.int p2), .val (.int p3), .val (.int p4), .val (.int p5), .val (.int x10), .val (.int x11), .val (.int i1'), .val (.int u1'), .val (.int x20), .val (.int x21), .val (.int i2'), .val (.int u2'), .val (.long kk), .second, .val (.int i3'), .val (.int u3'), .unset, .unset, .unset, .unset, .unset, .unset, .unset, .unset, .unset, .unset, .unset, .unset, .unset] [(.ref b5), (.ref b5)])) (fun t k => XS.dup X5.here hx rfl (hb hby at_107) rfl rfl k) ?_
  refine own_go (U' := T5.setTop (mkF m 110 #[.val (.int p1), .val (.int p2), .val (.int p3), .val (.int p4), .val (.int p5), .val (.int x10), .val (.int x11), .val (.int i1'), .val (.int u1'), .val (.int x20), .val (.int x21), .val (.int i2'), .val (.int u2'), .val (.long kk), .second, .val (.int i3'), .val (.int u3'), .unset, .unset, .unset, .unset, .unset, .unset, .unset, .unset, .unset, .unset, .unset, .unset, .unset] [(.int i1'), (.ref b5), (.ref b5)])) (fun t k => XS.iload X5.here hx rfl (hb hby at_108) rfl k) ?_
  refine own_go (U' := T5.setTop (mkF m 112 #[.val (.int p1), .val (.int p2), .val (.int p3), .val (.int p4), .val (.int p5), .val (.int x10), .val (.int x11), .val (.int i1'), .val (.int u1'), .val (.int x20), .val (.int x21), .val (.int i2'), .val (.int u2'), .val (.long kk), .second, .val (.int i3'), .val (.int u3'), .unset, .unset, .unset, .unset, .unset, .unset, .unset, .unset, .unset, .unset, .unset, .unset, .unset] [(.int u1'), (.int i1'), (.ref b5), (.ref b5)])) (fun t k => XS.iload X5.here hx rfl (hb hby at_110) rfl k) ?_
  obtain ⟨v6, T6, h6, L6, e6, X6, hQ6, st6⟩ := own_callC X5 hx hZ (y := (⟨"com/example/minwise/minwise/model/Overlap", "<init>", "(II)V"⟩ : MethodName)) rfl hown (hw _ (List.mem_of_getElem? (i := 12) rfl)) (hw _ (List.mem_of_getElem? (i := 13) rfl)) (hw _ (List.mem_of_getElem? (i := 11) rfl)) (hw _ (List.mem_of_getElem? (i := 14) rfl)) (by decide) (a := b5) (own_rmoi l Z a0 hw b5 i1' u1' h5 n0 g_b5 (own_nlt hi1) (own_nle hi1 hu1 hnm1) _ _ E_b5 F_intersection_b5 F_union_b5) (W := 1) (by decide) (by decide) (g := (mkF m 112 #[.val (.int p1), .val (.int p2), .val (.int p3), .val (.int p4), .val (.int p5), .val (.int x10), .val (.int x11), .val (.int i1'), .val (.int u1'), .val (.int x20), .val (.int x21), .val (.int i2'), .val (.int u2'), .val (.long kk), .second, .val (.int i3'), .val (.int u3'), .unset, .unset, .unset, .unset, .unset, .unset, .unset, .unset, .unset, .unset, .unset, .unset, .unset] [(.int u1'), (.int i1'), (.ref b5), (.ref b5)])) rfl (by rw [hml]; rfl) (argsL := [(.int i1'), (.int u1')]) (rest := [(.ref b5)]) (lenOf own_pd1 rfl) rfl rfl (by show 2 * 0 + _ ≤ _; exact Nat.le_of_eq rfl) (hb hby at_112) e5 (by decide) (by decide)
  obtain ⟨rfl, Nq, Kq, F1, F2⟩ := hQ6
  have O := O.keep Kq (allS g_b5 all0)
  have E_b5 := E_b5.keep Kq
  have F_intersection_b5 := F1
  have F_union_b5 := F2
  have N6 := Fr.app N0 Nq
  refine own_go (U' := T6.setTop (mkF m 115 #[.val (.int p1), .val (.int p2), .val (.int p3), .val (.int p4), .val (.int p5), .val (.int x10), .val (.int x11), .val (.int i1'), .val (.int u1'), .val (.int x20), .val (.int x21), .val (.int i2'), .val (.int u2'), .val (.long kk), .second, .val (.int i3'), .val (.int u3'), .unset, .unset, .unset, .unset, .unset, .unset, .unset, .unset, .unset, .unset, .unset, .unset, .unset] [(.ref b5)])) st6 ?_
  refine own_go (U' := T6.setTop (mkF m 117 #[.val (.int p1), .val (.int p2), .val (.int p3), .val (.int p4), .val (.int p5), .val (.int x10), .val (.int x11), .val (.int i1'), .val (.int u1'), .val (.int x20), .val (.int x21), .val (.int i2'), .val (.int u2'), .val (.long kk), .second, .val (.int i3'), .val (.int u3'), .val (.ref b5), .unset, .unset, .unset, .unset, .unset, .unset, .unset, .unset, .unset, .unset, .unset, .unset] [])) (fun t k => XS.astore X6.here hx rfl (hb hby at_115) rfl rfl (l' := #[.val (.int p1), .val (.int p2), .val (.int p3), .val (.int p4), .val (.int p5), .val (.int x10), .val (.int x11), .val (.int i1'), .val (.int u1'), .val (.int x20), .val (.int x21), .val (.int i2'), .val (.int u2'), .val (.long kk), .second, .val (.int i3'), .val (.int u3'), .val (.ref b5), .unset, .unset, .unset, .unset, .unset, .unset, .unset, .unset, .unset, .unset, .unset, .unset]) rfl k) ?_
  obtain ⟨T7, h7, X7, e7, E7, A7, D7, -, st7⟩ := newO X6 hx hZ hown (hw _ (List.mem_of_getElem? (i := 9) rfl)) (hw _ (List.mem_of_getElem? (i := 10) rfl)) (hw _ (List.mem_of_getElem? (i := 11) rfl)) e6 (g := (mkF m 117 #[.val (.int p1), .val (.int p2), .val (.int p3), .val (.int p4), .val (.int p5), .val (.int x10), .val (.int x11), .val (.int i1'), .val (.int u1'), .val (.int x20), .val (.int x21), .val (.int i2'), .val (.int u2'), .val (.long kk), .second, .val (.int i3'), .val (.int u3'), .val (.ref b5), .unset, .unset, .unset, .unset, .unset, .unset, .unset, .unset, .unset, .unset, .unset, .unset] [])) rfl (hb hby at_117) (by decide) (by decide)
  obtain ⟨b7, g7⟩ : ∃ z, z = h6.size := ⟨_, rfl⟩
  rw [← g7] at A7 D7 st7
  have ne_b5_b7 : b5 ≠ b7 := Nat.ne_of_lt (Nat.lt_of_lt_of_eq E_b5.lt g7.symm)
  have g_b7 : n0 ≤ b7 := Nat.le_trans (Nat.le_trans (Nat.le_of_eq O.1.symm) O.2.1) (Nat.le_of_eq g7.symm)
  have O := O.ext E7
  have E_b5 := E_b5.ext E7
  have F_intersection_b5 := F_intersection_b5.ext E7
  have F_union_b5 := F_union_b5.ext E7
  have E_b7 := A7
  have F_intersection_b7 : Fld Z h7 b7 "com/example/minwise/minwise/model/Overlap" "intersection" "I" (.int (0 : Int32)) := D7 (Or.inr (hw _ (List.mem_of_getElem? (i := 19) rfl))) (ty := .int) (by decide)
  have F_union_b7 : Fld Z h7 b7 "com/example/minwise/minwise/model/Overlap" "union" "I" (.int (0 : Int32)) := D7 (Or.inr (hw _ (List.mem_of_getElem? (i := 21) rfl))) (ty := .int) (by decide)
  refine own_go (U' := T7.setTop (mkF m 120 #[.val (.int p1), .val (.int p2), .val (.int p3), .val (.int p4), .val (.int p5), .val (.int x10), .val (.int x11), .val (.int i1'), .val (.int u1'), .val (.int x20), .val (.int x21), .val (.int i2'), .val (.int u2'), .val (.long kk), .second, .val (.int i3'), .val (.int u3'), .val (.ref b5), .unset, .unset, .unset, .unset, .unset, .unset, .unset, .unset, .unset, .unset, .unset, .unset] [(.ref b7)])) st7 ?_
  refine own_go (U' := T7.setTop (mkF m 121 #[.val (.int p1), .val (.int p2), .val (.int p3), .val (.int p4), .val (.int p5), .val (.int x10), .val (.int x11), .val (.int i1'), .val (.int u1'), .val (.int x20), .val (.int x21), .val (.int i2'), .val (.int u2'), .val (.long kk), .second, .val (.int i3'), .val (.int u3'), .val (.ref b5), .unset, .unset, .unset, .unset, .unset, .unset, .unset, .unset, .unset, .unset, .unset, .unset] [(.ref b7), (.ref b7)])) (fun t k => XS.dup X7.here hx rfl (hb hby at_120) rfl rfl k) ?_
  refine own_go (U' := T7.setTop (mkF m 123 #[.val (.int p1), .val (.int p2), .val (.int p3), .val (.int p4), .val (.int p5), .val (.int x10), .val (.int x11), .val (.int i1'), .val (.int u1'), .val (.int x20), .val (.int x21), .val (.int i2'), .val (.int u2'), .val (.long kk), .second, .val (.int i3'), .val (.int u3'), .val (.ref b5), .unset, .unset, .unset, .unset, .unset, .unset, .unset, .unset, .unset, .unset, .unset, .unset] [(.int i2'), (.ref b7), (.ref b7)])) (fun t k => XS.iload X7.here hx rfl (hb hby at_121) rfl k) ?_
  refine own_go (U' := T7.setTop (mkF m 125 #[.val (.int p1), .val (.int p2), .val (.int p3), .val (.int p4), .val (.int p5), .val (.int x10), .val (.int x11), .val (.int i1'), .val (.int u1'), .val (.int x20), .val (.int x21), .val (.int i2'), .val (.int u2'), .val (.long kk), .second, .val (.int i3'), .val (.int u3'), .val (.ref b5), .unset, .unset, .unset, .unset, .unset, .unset, .unset, .unset, .unset, .unset, .unset, .unset] [(.int u2'), (.int i2'), (.ref b7), (.ref b7)])) (fun t k => XS.iload X7.here hx rfl (hb hby at_123) rfl k) ?_
  obtain ⟨v8, T8, h8, L8, e8, X8, hQ8, st8⟩ := own_callC X7 hx hZ (y := (⟨"com/example/minwise/minwise/model/Overlap", "<init>", "(II)V"⟩ : MethodName)) rfl hown (hw _ (List.mem_of_getElem? (i := 12) rfl)) (hw _ (List.mem_of_getElem? (i := 13) rfl)) (hw _ (List.mem_of_getElem? (i := 11) rfl)) (hw _ (List.mem_of_getElem? (i := 14) rfl)) (by decide) (a := b7) (own_rmoi l Z a0 hw b7 i2' u2' h7 n0 g_b7 (own_nlt hi2) (own_nle hi2 hu2 hnm2) _ _ E_b7 F_intersection_b7 F_union_b7) (W := 1) (by decide) (by decide) (g := (mkF m 125 #[.val (.int p1), .val (.int p2), .val (.int p3), .val (.int p4), .val (.int p5), .val (.int x10), .val (.int x11), .val (.int i1'), .val (.int u1'), .val (.int x20), .val (.int x21), .val (.int i2'), .val (.int u2'), .val (.long kk), .second, .val (.int i3'), .val (.int u3'), .val (.ref b5), .unset, .unset, .unset, .unset, .unset, .unset, .unset, .unset, .unset, .unset, .unset, .unset] [(.int u2'), (.int i2'), (.ref b7), (.ref b7)])) rfl (by rw [hml]; rfl) (argsL := [(.int i2'), (.int u2')]) (rest := [(.ref b7)]) (lenOf own_pd1 rfl) rfl rfl (by show 2 * 0 + _ ≤ _; exact Nat.le_of_eq rfl) (hb hby at_125) e7 (by decide) (by decide)
  obtain ⟨rfl, Nq, Kq, F1, F2⟩ := hQ8
  have O := O.keep Kq (allS g_b7 all0)
  have E_b5 := E_b5.keep Kq
  have F_intersection_b5 := F_intersection_b5.keep Kq (ninS ne_b5_b7 nin0)
  have F_union_b5 := F_union_b5.keep Kq (ninS ne_b5_b7 nin0)
  have E_b7 := E_b7.keep Kq
  have F_intersection_b7 := F1
  have F_union_b7 := F2
  have N8 := Fr.app N6 Nq
  refine own_go (U' := T8.setTop (mkF m 128 #[.val (.int p1), .val (.int p2), .val (.int p3), .val (.int p4), .val (.int p5), .val (.int x10), .val (.int x11), .val (.int i1'), .val (.int u1'), .val (.int x20), .val (.int x21), .val (.int i2'), .val (.int u2'), .val (.long kk), .second, .val (.int i3'), .val (.int u3'), .val (.ref b5), .unset, .unset, .unset, .unset, .unset, .unset, .unset, .unset, .unset, .unset, .unset, .unset] [(.ref b7)])) st8 ?_
  refine own_go (U' := T8.setTop (mkF m 130 #[.val (.int p1), .val (.int p2), .val (.int p3), .val (.int p4), .val (.int p5), .val (.int x10), .val (.int x11), .val (.int i1'), .val (.int u1'), .val (.int x20), .val (.int x21), .val (.int i2'), .val (.int u2'), .val (.long kk), .second, .val (.int i3'), .val (.int u3'), .val (.ref b5), .val (.ref b7), .unset, .unset, .unset, .unset, .unset, .unset, .unset, .unset, .unset, .unset, .unset] [])) (fun t k => XS.astore X8.here hx rfl (hb hby at_128) rfl rfl (l' := #[.val (.int p1), .val (.int p2), .val (.int p3), .val (.int p4), .val (.int p5), .val (.int x10), .val (.int x11), .val (.int i1'), .val (.int u1'), .val (.int x20), .val (.int x21), .val (.int i2'), .val (.int u2'), .val (.long kk), .second, .val (.int i3'), .val (.int u3'), .val (.ref b5), .val (.ref b7), .unset, .unset, .unset, .unset, .unset, .unset, .unset, .unset, .unset, .unset, .unset]) rfl k) ?_
  obtain ⟨T9, h9, X9, e9, E9, A9, D9, -, st9⟩ := newO X8 hx hZ hown (hw _ (List.mem_of_getElem? (i := 9) rfl)) (hw _ (List.mem_of_getElem? (i := 10) rfl)) (hw _ (List.mem_of_getElem? (i := 11) rfl)) e8 (g := (mkF m 130 #[.val (.int p1), .val (.int p2), .val (.int p3), .val (.int p4), .val (.int p5), .val (.int x10), .val (.int x11), .val (.int i1'), .val (.int u1'), .val (.int x20), .val (.int x21), .val (.int i2'), .val (.int u2'), .val (.long kk), .second, .val (.int i3'), .val (.int u3'), .val (.ref b5), .val (.ref b7), .unset, .unset, .unset, .unset, .unset, .unset, .unset, .unset, .unset, .unset, .unset] [])) rfl (hb hby at_130) (by decide) (by decide)
  obtain ⟨b9, g9⟩ : ∃ z, z = h8.size := ⟨_, rfl⟩
  rw [← g9] at A9 D9 st9
  have ne_b5_b9 : b5 ≠ b9 := Nat.ne_of_lt (Nat.lt_of_lt_of_eq E_b5.lt g9.symm)
  have ne_b7_b9 : b7 ≠ b9 := Nat.ne_of_lt (Nat.lt_of_lt_of_eq E_b7.lt g9.symm)
  have g_b9 : n0 ≤ b9 := Nat.le_trans (Nat.le_trans (Nat.le_of_eq O.1.symm) O.2.1) (Nat.le_of_eq g9.symm)
  have O := O.ext E9
  have E_b5 := E_b5.ext E9
  have F_intersection_b5 := F_intersection_b5.ext E9
  have F_union_b5 := F_union_b5.ext E9
  have E_b7 := E_b7.ext E9
  have F_intersection_b7 := F_intersection_b7.ext E9
  have F_union_b7 := F_union_b7.ext E9
  have E_b9 := A9
  have F_intersection_b9 : Fld Z h9 b9 "com/example/minwise/minwise/model/Overlap" "intersection" "I" (.int (0 : Int32)) := D9 (Or.inr (hw _ (List.mem_of_getElem? (i := 19) rfl))) (ty := .int) (by decide)
  have F_union_b9 : Fld Z h9 b9 "com/example/minwise/minwise/model/Overlap" "union" "I" (.int (0 : Int32)) := D9 (Or.inr (hw _ (List.mem_of_getElem? (i := 21) rfl))) (ty := .int) (by decide)
  refine own_go (U' := T9.setTop (mkF m 133 #[.val (.int p1), .val (.int p2), .val (.int p3), .val (.int p4), .val (.int p5), .val (.int x10), .val (.int x11), .val (.int i1'), .val (.int u1'), .val (.int x20), .val (.int x21), .val (.int i2'), .val (.int u2'), .val (.long kk), .second, .val (.int i3'), .val (.int u3'), .val (.ref b5), .val (.ref b7), .unset, .unset, .unset, .unset, .unset, .unset, .unset, .unset, .unset, .unset, .unset] [(.ref b9)])) st9 ?_
  refine own_go (U' := T9.setTop (mkF m 134 #[.val (.int p1), .val (.int p2), .val (.int p3), .val (.int p4), .val (.int p5), .val (.int x10), .val (.int x11), .val (.int i1'), .val (.int u1'), .val (.int x20), .val (.int x21), .val (.int i2'), .val (.int u2'), .val (.long kk), .second, .val (.int i3'), .val (.int u3'), .val (.ref b5), .val (.ref b7), .unset, .unset, .unset, .unset, .unset, .unset, .unset, .unset, .unset, .unset, .unset] [(.ref b9), (.ref b9)])) (fun t k => XS.dup X9.here hx rfl (hb hby at_133) rfl rfl k) ?_
  refine own_go (U' := T9.setTop (mkF m 136 #[.val (.int p1), .val (.int p2), .val (.int p3), .val (.int p4), .val (.int p5), .val (.int x10), .val (.int x11), .val (.int i1'), .val (.int u1'), .val (.int x20), .val (.int x21), .val (.int i2'), .val (.int u2'), .val (.long kk), .second, .val (.int i3'), .val (.int u3'), .val (.ref b5), .val (.ref b7), .unset, .unset, .unset, .unset, .unset, .unset, .unset, .unset, .unset, .unset, .unset] [(.int i3'), (.ref b9), (.ref b9)])) (fun t k => XS.iload X9.here hx rfl (hb hby at_134) rfl k) ?_
  refine own_go (U' := T9.setTop (mkF m 138 #[.val (.int p1), .val (.int p2), .val (.int p3), .val (.int p4), .val (.int p5), .val (.int x10), .val (.int x11), .val (.int i1'), .val (.int u1'), .val (.int x20), .val (.int x21), .val (.int i2'), .val (.int u2'), .val (.long kk), .second, .val (.int i3'), .val (.int u3'), .val (.ref b5), .val (.ref b7), .unset, .unset, .unset, .unset, .unset, .unset, .unset, .unset, .unset, .unset, .unset] [(.int u3'), (.int i3'), (.ref b9), (.ref b9)])) (fun t k => XS.iload X9.here hx rfl (hb hby at_136) rfl k) ?_
  obtain ⟨v10, T10, h10, L10, e10, X10, hQ10, st10⟩ := own_callC X9 hx hZ (y := (⟨"com/example/minwise/minwise/model/Overlap", "<init>", "(II)V"⟩ : MethodName)) rfl hown (hw _ (List.mem_of_getElem? (i := 12) rfl)) (hw _ (List.mem_of_getElem? (i := 13) rfl)) (hw _ (List.mem_of_getElem? (i := 11) rfl)) (hw _ (List.mem_of_getElem? (i := 14) rfl)) (by decide) (a := b9) (own_rmoi l Z a0 hw b9 i3' u3' h9 n0 g_b9 (own_nlt hi3) (own_nle hi3 hu3 lj6) _ _ E_b9 F_intersection_b9 F_union_b9) (W := 1) (by decide) (by decide) (g := (mkF m 138 #[.val (.int p1), .val (.int p2), .val (.int p3), .val (.int p4), .val (.int p5), .val (.int x10), .val (.int x11), .val (.int i1'), .val (.int u1'), .val (.int x20), .val (.int x21), .val (.int i2'), .val (.int u2'), .val (.long kk), .second, .val (.int i3'), .val (.int u3'), .val (.ref b5), .val (.ref b7), .unset, .unset, .unset, .unset, .unset, .unset, .unset, .unset, .unset, .unset, .unset] [(.int u3'), (.int i3'), (.ref b9), (.ref b9)])) rfl (by rw [hml]; rfl) (argsL := [(.int i3'), (.int u3')]) (rest := [(.ref b9)]) (lenOf own_pd1 rfl) rfl rfl (by show 2 * 0 + _ ≤ _; exact Nat.le_of_eq rfl) (hb hby at_138) e9 (by decide) (by decide)
  obtain ⟨rfl, Nq, Kq, F1, F2⟩ := hQ10
  have O := O.keep Kq (allS g_b9 all0)
  have E_b5 := E_b5.keep Kq
  have F_intersection_b5 := F_intersection_b5.keep Kq (ninS ne_b5_b9 nin0)
  have F_union_b5 := F_union_b5.keep Kq (ninS ne_b5_b9 nin0)
  have E_b7 := E_b7.keep Kq
  have F_intersection_b7 := F_intersection_b7.keep Kq (ninS ne_b7_b9 nin0)
  have F_union_b7 := F_union_b7.keep Kq (ninS ne_b7_b9 nin0)
  have E_b9 := E_b9.keep Kq
  have F_intersection_b9 := F1
  have F_union_b9 := F2
  have N10 := Fr.app N8 Nq
  refine own_go (U' := T10.setTop (mkF m 141 #[.val (.int p1), .val (.int p2), .val (.int p3), .val (.int p4), .val (.int p5), .val (.int x10), .val (.int x11), .val (.int i1'), .val (.int u1'), .val (.int x20), .val (.int x21), .val (.int i2'), .val (.int u2'), .val (.long kk), .second, .val (.int i3'), .val (.int u3'), .val (.ref b5), .val (.ref b7), .unset, .unset, .unset, .unset, .unset, .unset, .unset, .unset, .unset, .unset, .unset] [(.ref b9)])) st10 ?_
  refine own_go (U' := T10.setTop (mkF m 143 #[.val (.int p1), .val (.int p2), .val (.int p3), .val (.int p4), .val (.int p5), .val (.int x10), .val (.int x11), .val (.int i1'), .val (.int u1'), .val (.int x20), .val (.int x21), .val (.int i2'), .val (.int u2'), .val (.long kk), .second, .val (.int i3'), .val (.int u3'), .val (.ref b5), .val (.ref b7), .val (.ref b9), .unset, .unset, .unset, .unset, .unset, .unset, .unset, .unset, .unset, .unset] [])) (fun t k => XS.astore X10.here hx rfl (hb hby at_141) rfl rfl (l' := #[.val (.int p1), .val (.int p2), .val (.int p3), .val (.int p4), .val (.int p5), .val (.int x10), .val (.int x11), .val (.int i1'), .val (.int u1'), .val (.int x20), .val (.int x21), .val (.int i2'), .val (.int u2'), .val (.long kk), .second, .val (.int i3'), .val (.int u3'), .val (.ref b5), .val (.ref b7), .val (.ref b9), .unset, .unset, .unset, .unset, .unset, .unset, .unset, .unset, .unset, .unset]) rfl k) ?_
  refine own_go (U' := T10.setTop (mkF m 145 #[.val (.int p1), .val (.int p2), .val (.int p3), .val (.int p4), .val (.int p5), .val (.int x10), .val (.int x11), .val (.int i1'), .val (.int u1'), .val (.int x20), .val (.int x21), .val (.int i2'), .val (.int u2'), .val (.long kk), .second, .val (.int i3'), .val (.int u3'), .val (.ref b5), .val (.ref b7), .val (.ref b9), .unset, .unset, .unset, .unset, .unset, .unset, .unset, .unset, .unset, .unset] [(.ref b5)])) (fun t k => XS.aload X10.here hx rfl (hb hby at_143) rfl rfl k) ?_
  obtain ⟨v11, T11, h11, L11, e11, X11, hQ11, st11⟩ := own_callV X10 hx hZ (y := (⟨"com/example/minwise/minwise/model/Overlap", "resemblance", "()D"⟩ : MethodName)) (z := (⟨"com/example/minwise/minwise/model/Overlap", "resemblance", "()D"⟩ : MethodName)) hown (hw _ (List.mem_of_getElem? (i := 22) rfl)) (hw _ (List.mem_of_getElem? (i := 23) rfl)) (notFace_of_selects (args := #[]) (mvT hZ (hw _ (List.mem_of_getElem? (i := 25) rfl)))) (hw _ (List.mem_of_getElem? (i := 25) rfl)) (hw _ (List.mem_of_getElem? (i := 24) rfl)) (hw _ (List.mem_of_getElem? (i := 11) rfl)) (hw _ (List.mem_of_getElem? (i := 26) rfl)) (by decide) E_b5 (own_rmrs l Z a0 hw b5 h10 i1' u1' n1' m1' hi1 hu1 F_intersection_b5 F_union_b5) (W := 0) (by decide) (by decide) (g := (mkF m 145 #[.val (.int p1), .val (.int p2), .val (.int p3), .val (.int p4), .val (.int p5), .val (.int x10), .val (.int x11), .val (.int i1'), .val (.int u1'), .val (.int x20), .val (.int x21), .val (.int i2'), .val (.int u2'), .val (.long kk), .second, .val (.int i3'), .val (.int u3'), .val (.ref b5), .val (.ref b7), .val (.ref b9), .unset, .unset, .unset, .unset, .unset, .unset, .unset, .unset, .unset, .unset] [(.ref b5)])) rfl (by rw [hml]; rfl) (argsL := []) (rest := []) (lenOf own_pd2 rfl) rfl rfl (by show 2 * 0 + _ ≤ _; exact Nat.le_of_eq rfl) (hb hby at_145) e10 (by decide) (by decide)
  obtain ⟨rfl, rfl, eh11⟩ := hQ11
  have e11 := e11.trans eh11
  rw [List.append_nil] at X11
  refine own_go (U' := T11.setTop (mkF m 148 #[.val (.int p1), .val (.int p2), .val (.int p3), .val (.int p4), .val (.int p5), .val (.int x10), .val (.int x11), .val (.int i1'), .val (.int u1'), .val (.int x20), .val (.int x21), .val (.int i2'), .val (.int u2'), .val (.long kk), .second, .val (.int i3'), .val (.int u3'), .val (.ref b5), .val (.ref b7), .val (.ref b9), .unset, .unset, .unset, .unset, .unset, .unset, .unset, .unset, .unset, .unset] [(.double (own_r i1' u1'))])) st11 ?_
  generalize hv_r1' : (own_r i1' u1') = r1'
  have nr1 : Jvm.FP.Core.val64 r1' ≠ .nan := by rw [← hv_r1']; exact own_rnan hi1 hu1
  refine own_go (U' := T11.setTop (mkF m 150 #[.val (.int p1), .val (.int p2), .val (.int p3), .val (.int p4), .val (.int p5), .val (.int x10), .val (.int x11), .val (.int i1'), .val (.int u1'), .val (.int x20), .val (.int x21), .val (.int i2'), .val (.int u2'), .val (.long kk), .second, .val (.int i3'), .val (.int u3'), .val (.ref b5), .val (.ref b7), .val (.ref b9), .val (.double r1'), .second, .unset, .unset, .unset, .unset, .unset, .unset, .unset, .unset] [])) (fun t k => XS.dstore X11.here hx rfl (hb hby at_148) rfl (l' := #[.val (.int p1), .val (.int p2), .val (.int p3), .val (.int p4), .val (.int p5), .val (.int x10), .val (.int x11), .val (.int i1'), .val (.int u1'), .val (.int x20), .val (.int x21), .val (.int i2'), .val (.int u2'), .val (.long kk), .second, .val (.int i3'), .val (.int u3'), .val (.ref b5), .val (.ref b7), .val (.ref b9), .val (.double r1'), .second, .unset, .unset, .unset, .unset, .unset, .unset, .unset, .unset]) rfl k) ?_
  refine own_go (U' := T11.setTop (mkF m 152 #[.val (.int p1), .val (.int p2), .val (.int p3), .val (.int p4), .val (.int p5), .val (.int x10), .val (.int x11), .val (.int i1'), .val (.int u1'), .val (.int x20), .val (.int x21), .val (.int i2'), .val (.int u2'), .val (.long kk), .second, .val (.int i3'), .val (.int u3'), .val (.ref b5), .val (.ref b7), .val (.ref b9), .val (.double r1'), .second, .unset, .unset, .unset, .unset, .unset, .unset, .unset, .unset] [(.ref b7)])) (fun t k => XS.aload X11.here hx rfl (hb hby at_150) rfl rfl k) ?_
  obtain ⟨v12, T12, h12, L12, e12, X12, hQ12, st12⟩ := own_callV X11 hx hZ (y := (⟨"com/example/minwise/minwise/model/Overlap", "resemblance", "()D"⟩ : MethodName)) (z := (⟨"com/example/minwise/minwise/model/Overlap", "resemblance", "()D"⟩ : MethodName)) hown (hw _ (List.mem_of_getElem? (i := 22) rfl)) (hw _ (List.mem_of_getElem? (i := 23) rfl)) (notFace_of_selects (args := #[]) (mvT hZ (hw _ (List.mem_of_getElem? (i := 25) rfl)))) (hw _ (List.mem_of_getElem? (i := 25) rfl)) (hw _ (List.mem_of_getElem? (i := 24) rfl)) (hw _ (List.mem_of_getElem? (i := 11) rfl)) (hw _ (List.mem_of_getElem? (i := 26) rfl)) (by decide) E_b7 (own_rmrs l Z a0 hw b7 h10 i2' u2' n2' m2' hi2 hu2 F_intersection_b7 F_union_b7) (W := 0) (by decide) (by decide) (g := (mkF m 152 #[.val (.int p1), .val (.int p2), .val (.int p3), .val (.int p4), .val (.int p5), .val (.int x10), .val (.int x11), .val (.int i1'), .val (.int u1'), .val (.int x20), .val (.int x21), .val (.int i2'), .val (.int u2'), .val (.long kk), .second, .val (.int i3'), .val (.int u3'), .val (.ref b5), .val (.ref b7), .val (.ref b9), .val (.double r1'), .second, .unset, .unset, .unset, .unset, .unset, .unset, .unset, .unset] [(.ref b7)])) rfl (by rw [hml]; rfl) (argsL := []) (rest := []) (lenOf own_pd2 rfl) rfl rfl (by show 2 * 0 + _ ≤ _; exact Nat.le_of_eq rfl) (hb hby at_152) e11 (by decide) (by decide)
  obtain ⟨rfl, rfl, eh12⟩ := hQ12
  have e12 := e12.trans eh12
  rw [List.append_nil] at X12
  refine own_go (U' := T12.setTop (mkF m 155 #[.val (.int p1), .val (.int p2), .val (.int p3), .val (.int p4), .val (.int p5), .val (.int x10), .val (.int x11), .val (.int i1'), .val (.int u1'), .val (.int x20), .val (.int x21), .val (.int i2'), .val (.int u2'), .val (.long kk), .second, .val (.int i3'), .val (.int u3'), .val (.ref b5), .val (.ref b7), .val (.ref b9), .val (.double r1'), .second, .unset, .unset, .unset, .unset, .unset, .unset, .unset, .unset] [(.double (own_r i2' u2'))])) st12 ?_
  generalize hv_r2' : (own_r i2' u2') = r2'
  have nr2 : Jvm.FP.Core.val64 r2' ≠ .nan := by rw [← hv_r2']; exact own_rnan hi2 hu2
  refine own_go (U' := T12.setTop (mkF m 157 #[.val (.int p1), .val (.int p2), .val (.int p3), .val (.int p4), .val (.int p5), .val (.int x10), .val (.int x11), .val (.int i1'), .val (.int u1'), .val (.int x20), .val (.int x21), .val (.int i2'), .val (.int u2'), .val (.long kk), .second, .val (.int i3'), .val (.int u3'), .val (.ref b5), .val (.ref b7), .val (.ref b9), .val (.double r1'), .second, .val (.double r2'), .second, .unset, .unset, .unset, .unset, .unset, .unset] [])) (fun t k => XS.dstore X12.here hx rfl (hb hby at_155) rfl (l' := #[.val (.int p1), .val (.int p2), .val (.int p3), .val (.int p4), .val (.int p5), .val (.int x10), .val (.int x11), .val (.int i1'), .val (.int u1'), .val (.int x20), .val (.int x21), .val (.int i2'), .val (.int u2'), .val (.long kk), .second, .val (.int i3'), .val (.int u3'), .val (.ref b5), .val (.ref b7), .val (.ref b9), .val (.double r1'), .second, .val (.double r2'), .second, .unset, .unset, .unset, .unset, .unset, .unset]) rfl k) ?_
  refine own_go (U' := T12.setTop (mkF m 159 #[.val (.int p1), .val (.int p2), .val (.int p3), .val (.int p4), .val (.int p5), .val (.int x10), .val (.int x11), .val (.int i1'), .val (.int u1'), .val (.int x20), .val (.int x21), .val (.int i2'), .val (.int u2'), .val (.long kk), .second, .val (.int i3'), .val (.int u3'), .val (.ref b5), .val (.ref b7), .val (.ref b9), .val (.double r1'), .second, .val (.double r2'), .second, .unset, .unset, .unset, .unset, .unset, .unset] [(.ref b9)])) (fun t k => XS.aload X12.here hx rfl (hb hby at_157) rfl rfl k) ?_
  obtain ⟨v13, T13, h13, L13, e13, X13, hQ13, st13⟩ := own_callV X12 hx hZ (y := (⟨"com/example/minwise/minwise/model/Overlap", "resemblance", "()D"⟩ : MethodName)) (z := (⟨"com/example/minwise/minwise/model/Overlap", "resemblance", "()D"⟩ : MethodName)) hown (hw _ (List.mem_of_getElem? (i := 22) rfl)) (hw _ (List.mem_of_getElem? (i := 23) rfl)) (notFace_of_selects (args := #[]) (mvT hZ (hw _ (List.mem_of_getElem? (i := 25) rfl)))) (hw _ (List.mem_of_getElem? (i := 25) rfl)) (hw _ (List.mem_of_getElem? (i := 24) rfl)) (hw _ (List.mem_of_getElem? (i := 11) rfl)) (hw _ (List.mem_of_getElem? (i := 26) rfl)) (by decide) E_b9 (own_rmrs l Z a0 hw b9 h10 i3' u3' (n1' * j3) (m1' * j3) hi3 hu3 F_intersection_b9 F_union_b9) (W := 0) (by decide) (by decide) (g := (mkF m 159 #[.val (.int p1), .val (.int p2), .val (.int p3), .val (.int p4), .val (.int p5), .val (.int x10), .val (.int x11), .val (.int i1'), .val (.int u1'), .val (.int x20), .val (.int x21), .val (.int i2'), .val (.int u2'), .val (.long kk), .second, .val (.int i3'), .val (.int u3'), .val (.ref b5), .val (.ref b7), .val (.ref b9), .val (.double r1'), .second, .val (.double r2'), .second, .unset, .unset, .unset, .unset, .unset, .unset] [(.ref b9)])) rfl (by rw [hml]; rfl) (argsL := []) (rest := []) (lenOf own_pd2 rfl) rfl rfl (by show 2 * 0 + _ ≤ _; exact Nat.le_of_eq rfl) (hb hby at_159) e12 (by decide) (by decide)
  obtain ⟨rfl, rfl, eh13⟩ := hQ13
  have e13 := e13.trans eh13
  rw [List.append_nil] at X13
  refine own_go (U' := T13.setTop (mkF m 162 #[.val (.int p1), .val (.int p2), .val (.int p3), .val (.int p4), .val (.int p5), .val (.int x10), .val (.int x11), .val (.int i1'), .val (.int u1'), .val (.int x20), .val (.int x21), .val (.int i2'), .val (.int u2'), .val (.long kk), .second, .val (.int i3'), .val (.int u3'), .val (.ref b5), .val (.ref b7), .val (.ref b9), .val (.double r1'), .second, .val (.double r2'), .second, .unset, .unset, .unset, .unset, .unset, .unset] [(.double (own_r i3' u3'))])) st13 ?_
  generalize hv_r3' : (own_r i3' u3') = r3'
  have nr3 : Jvm.FP.Core.val64 r3' ≠ .nan := by rw [← hv_r3']; exact own_rnan hi3 hu3
  refine own_go (U' := T13.setTop (mkF m 164 #[.val (.int p1), .val (.int p2), .val (.int p3), .val (.int p4), .val (.int p5), .val (.int x10), .val (.int x11), .val (.int i1'), .val (.int u1'), .val (.int x20), .val (.int x21), .val (.int i2'), .val (.int u2'), .val (.long kk), .second, .val (.int i3'), .val (.int u3'), .val (.ref b5), .val (.ref b7), .val (.ref b9), .val (.double r1'), .second, .val (.double r2'), .second, .val (.double r3'), .second, .unset, .unset, .unset, .unset] [])) (fun t k => XS.dstore X13.here hx rfl (hb hby at_162) rfl (l' := #[.val (.int p1), .val (.int p2), .val (.int p3), .val (.int p4), .val (.int p5), .val (.int x10), .val (.int x11), .val (.int i1'), .val (.int u1'), .val (.int x20), .val (.int x21), .val (.int i2'), .val (.int u2'), .val (.long kk), .second, .val (.int i3'), .val (.int u3'), .val (.ref b5), .val (.ref b7), .val (.ref b9), .val (.double r1'), .second, .val (.double r2'), .second, .val (.double r3'), .second, .unset, .unset, .unset, .unset]) rfl k) ?_
  refine own_go (U' := T13.setTop (mkF m 166 #[.val (.int p1), .val (.int p2), .val (.int p3), .val (.int p4), .val (.int p5), .val (.int x10), .val (.int x11), .val (.int i1'), .val (.int u1'), .val (.int x20), .val (.int x21), .val (.int i2'), .val (.int u2'), .val (.long kk), .second, .val (.int i3'), .val (.int u3'), .val (.ref b5), .val (.ref b7), .val (.ref b9), .val (.double r1'), .second, .val (.double r2'), .second, .val (.double r3'), .second, .unset, .unset, .unset, .unset] [(.int i1')])) (fun t k => XS.iload X13.here hx rfl (hb hby at_164) rfl k) ?_
  refine own_go (U' := T13.setTop (mkF m 168 #[.val (.int p1), .val (.int p2), .val (.int p3), .val (.int p4), .val (.int p5), .val (.int x10), .val (.int x11), .val (.int i1'), .val (.int u1'), .val (.int x20), .val (.int x21), .val (.int i2'), .val (.int u2'), .val (.long kk), .second, .val (.int i3'), .val (.int u3'), .val (.ref b5), .val (.ref b7), .val (.ref b9), .val (.double r1'), .second, .val (.double r2'), .second, .val (.double r3'), .second, .unset, .unset, .unset, .unset] [(.int u1'), (.int i1')])) (fun t k => XS.iload X13.here hx rfl (hb hby at_166) rfl k) ?_
  refine own_go (U' := T13.setTop (mkF m 170 #[.val (.int p1), .val (.int p2), .val (.int p3), .val (.int p4), .val (.int p5), .val (.int x10), .val (.int x11), .val (.int i1'), .val (.int u1'), .val (.int x20), .val (.int x21), .val (.int i2'), .val (.int u2'), .val (.long kk), .second, .val (.int i3'), .val (.int u3'), .val (.ref b5), .val (.ref b7), .val (.ref b9), .val (.double r1'), .second, .val (.double r2'), .second, .val (.double r3'), .second, .unset, .unset, .unset, .unset] [(.double r1'), (.int u1'), (.int i1')])) (fun t k => XS.dload X13.here hx rfl (hb hby at_168) rfl k) ?_
  obtain ⟨v14, T14, h14, L14, e14, X14, hQ14, st14⟩ := own_callS X13 hx hZ (y := (⟨"com/example/minwise/minwise/model/OverlapResemblancePinLaw", "single", "(IID)Z"⟩ : MethodName)) hown (hw _ (List.mem_of_getElem? (i := 27) rfl)) (hw _ (List.mem_of_getElem? (i := 28) rfl)) (hw _ (List.mem_of_getElem? (i := 29) rfl)) (hw _ (List.mem_of_getElem? (i := 30) rfl)) (by decide) (own_rmsg l Z a0 hw i1' u1' r1' h10 n1' m1' hi1 hu1 hnm1 hm1 hv_r1'.symm) (W := 0) (by decide) (by decide) (g := (mkF m 170 #[.val (.int p1), .val (.int p2), .val (.int p3), .val (.int p4), .val (.int p5), .val (.int x10), .val (.int x11), .val (.int i1'), .val (.int u1'), .val (.int x20), .val (.int x21), .val (.int i2'), .val (.int u2'), .val (.long kk), .second, .val (.int i3'), .val (.int u3'), .val (.ref b5), .val (.ref b7), .val (.ref b9), .val (.double r1'), .second, .val (.double r2'), .second, .val (.double r3'), .second, .unset, .unset, .unset, .unset] [(.double r1'), (.int u1'), (.int i1')])) rfl (by rw [hml]; rfl) (argsL := [(.int i1'), (.int u1'), (.double r1')]) (rest := []) (lenOf own_pd3 rfl) rfl rfl (by show 2 * 0 + _ ≤ _; exact Nat.le_of_eq rfl) (hb hby at_170) e13 (by decide) (by decide)
  obtain ⟨rfl, rfl, eh14⟩ := hQ14
  have e14 := e14.trans eh14
  rw [List.append_nil] at X14
  refine own_go (U' := T14.setTop (mkF m 173 #[.val (.int p1), .val (.int p2), .val (.int p3), .val (.int p4), .val (.int p5), .val (.int x10), .val (.int x11), .val (.int i1'), .val (.int u1'), .val (.int x20), .val (.int x21), .val (.int i2'), .val (.int u2'), .val (.long kk), .second, .val (.int i3'), .val (.int u3'), .val (.ref b5), .val (.ref b7), .val (.ref b9), .val (.double r1'), .second, .val (.double r2'), .second, .val (.double r3'), .second, .unset, .unset, .unset, .unset] [(.int (1 : Int32))])) st14 ?_
  refine own_go (U' := T14.setTop (mkF m 176 #[.val (.int p1), .val (.int p2), .val (.int p3), .val (.int p4), .val (.int p5), .val (.int x10), .val (.int x11), .val (.int i1'), .val (.int u1'), .val (.int x20), .val (.int x21), .val (.int i2'), .val (.int u2'), .val (.long kk), .second, .val (.int i3'), .val (.int u3'), .val (.ref b5), .val (.ref b7), .val (.ref b9), .val (.double r1'), .second, .val (.double r2'), .second, .val (.double r3'), .second, .unset, .unset, .unset, .unset] [])) (fun t k => XS.ifNo X14.here hx rfl (hb hby at_173) rfl ((if0 _ _).trans (feq (by decide)).1) k) ?_
  refine own_go (U' := T14.setTop (mkF m 178 #[.val (.int p1), .val (.int p2), .val (.int p3), .val (.int p4), .val (.int p5), .val (.int x10), .val (.int x11), .val (.int i1'), .val (.int u1'), .val (.int x20), .val (.int x21), .val (.int i2'), .val (.int u2'), .val (.long kk), .second, .val (.int i3'), .val (.int u3'), .val (.ref b5), .val (.ref b7), .val (.ref b9), .val (.double r1'), .second, .val (.double r2'), .second, .val (.double r3'), .second, .unset, .unset, .unset, .unset] [(.int i2')])) (fun t k => XS.iload X14.here hx rfl (hb hby at_176) rfl k) ?_
  refine own_go (U' := T14.setTop (mkF m 180 #[.val (.int p1), .val (.int p2), .val (.int p3), .val (.int p4), .val (.int p5), .val (.int x10), .val (.int x11), .val (.int i1'), .val (.int u1'), .val (.int x20), .val (.int x21), .val (.int i2'), .val (.int u2'), .val (.long kk), .second, .val (.int i3'), .val (.int u3'), .val (.ref b5), .val (.ref b7), .val (.ref b9), .val (.double r1'), .second, .val (.double r2'), .second, .val (.double r3'), .second, .unset, .unset, .unset, .unset] [(.int u2'), (.int i2')])) (fun t k => XS.iload X14.here hx rfl (hb hby at_178) rfl k) ?_
  refine own_go (U' := T14.setTop (mkF m 182 #[.val (.int p1), .val (.int p2), .val (.int p3), .val (.int p4), .val (.int p5), .val (.int x10), .val (.int x11), .val (.int i1'), .val (.int u1'), .val (.int x20), .val (.int x21), .val (.int i2'), .val (.int u2'), .val (.long kk), .second, .val (.int i3'), .val (.int u3'), .val (.ref b5), .val (.ref b7), .val (.ref b9), .val (.double r1'), .second, .val (.double r2'), .second, .val (.double r3'), .second, .unset, .unset, .unset, .unset] [(.double r2'), (.int u2'), (.int i2')])) (fun t k => XS.dload X14.here hx rfl (hb hby at_180) rfl k) ?_
  obtain ⟨v15, T15, h15, L15, e15, X15, hQ15, st15⟩ := own_callS X14 hx hZ (y := (⟨"com/example/minwise/minwise/model/OverlapResemblancePinLaw", "single", "(IID)Z"⟩ : MethodName)) hown (hw _ (List.mem_of_getElem? (i := 27) rfl)) (hw _ (List.mem_of_getElem? (i := 28) rfl)) (hw _ (List.mem_of_getElem? (i := 29) rfl)) (hw _ (List.mem_of_getElem? (i := 30) rfl)) (by decide) (own_rmsg l Z a0 hw i2' u2' r2' h10 n2' m2' hi2 hu2 hnm2 hm2 hv_r2'.symm) (W := 0) (by decide) (by decide) (g := (mkF m 182 #[.val (.int p1), .val (.int p2), .val (.int p3), .val (.int p4), .val (.int p5), .val (.int x10), .val (.int x11), .val (.int i1'), .val (.int u1'), .val (.int x20), .val (.int x21), .val (.int i2'), .val (.int u2'), .val (.long kk), .second, .val (.int i3'), .val (.int u3'), .val (.ref b5), .val (.ref b7), .val (.ref b9), .val (.double r1'), .second, .val (.double r2'), .second, .val (.double r3'), .second, .unset, .unset, .unset, .unset] [(.double r2'), (.int u2'), (.int i2')])) rfl (by rw [hml]; rfl) (argsL := [(.int i2'), (.int u2'), (.double r2')]) (rest := []) (lenOf own_pd3 rfl) rfl rfl (by show 2 * 0 + _ ≤ _; exact Nat.le_of_eq rfl) (hb hby at_182) e14 (by decide) (by decide)
  obtain ⟨rfl, rfl, eh15⟩ := hQ15
  have e15 := e15.trans eh15
  rw [List.append_nil] at X15
  refine own_go (U' := T15.setTop (mkF m 185 #[.val (.int p1), .val (.int p2), .val (.int p3), .val (.int p4), .val (.int p5), .val (.int x10), .val (.int x11), .val (.int i1'), .val (.int u1'), .val (.int x20), .val (.int x21), .val (.int i2'), .val (.int u2'), .val (.long kk), .second, .val (.int i3'), .val (.int u3'), .val (.ref b5), .val (.ref b7), .val (.ref b9), .val (.double r1'), .second, .val (.double r2'), .second, .val (.double r3'), .second, .unset, .unset, .unset, .unset] [(.int (1 : Int32))])) st15 ?_
  refine own_go (U' := T15.setTop (mkF m 188 #[.val (.int p1), .val (.int p2), .val (.int p3), .val (.int p4), .val (.int p5), .val (.int x10), .val (.int x11), .val (.int i1'), .val (.int u1'), .val (.int x20), .val (.int x21), .val (.int i2'), .val (.int u2'), .val (.long kk), .second, .val (.int i3'), .val (.int u3'), .val (.ref b5), .val (.ref b7), .val (.ref b9), .val (.double r1'), .second, .val (.double r2'), .second, .val (.double r3'), .second, .unset, .unset, .unset, .unset] [])) (fun t k => XS.ifNo X15.here hx rfl (hb hby at_185) rfl ((if0 _ _).trans (feq (by decide)).1) k) ?_
  refine own_go (U' := T15.setTop (mkF m 190 #[.val (.int p1), .val (.int p2), .val (.int p3), .val (.int p4), .val (.int p5), .val (.int x10), .val (.int x11), .val (.int i1'), .val (.int u1'), .val (.int x20), .val (.int x21), .val (.int i2'), .val (.int u2'), .val (.long kk), .second, .val (.int i3'), .val (.int u3'), .val (.ref b5), .val (.ref b7), .val (.ref b9), .val (.double r1'), .second, .val (.double r2'), .second, .val (.double r3'), .second, .unset, .unset, .unset, .unset] [(.int i3')])) (fun t k => XS.iload X15.here hx rfl (hb hby at_188) rfl k) ?_
  refine own_go (U' := T15.setTop (mkF m 192 #[.val (.int p1), .val (.int p2), .val (.int p3), .val (.int p4), .val (.int p5), .val (.int x10), .val (.int x11), .val (.int i1'), .val (.int u1'), .val (.int x20), .val (.int x21), .val (.int i2'), .val (.int u2'), .val (.long kk), .second, .val (.int i3'), .val (.int u3'), .val (.ref b5), .val (.ref b7), .val (.ref b9), .val (.double r1'), .second, .val (.double r2'), .second, .val (.double r3'), .second, .unset, .unset, .unset, .unset] [(.int u3'), (.int i3')])) (fun t k => XS.iload X15.here hx rfl (hb hby at_190) rfl k) ?_
  refine own_go (U' := T15.setTop (mkF m 194 #[.val (.int p1), .val (.int p2), .val (.int p3), .val (.int p4), .val (.int p5), .val (.int x10), .val (.int x11), .val (.int i1'), .val (.int u1'), .val (.int x20), .val (.int x21), .val (.int i2'), .val (.int u2'), .val (.long kk), .second, .val (.int i3'), .val (.int u3'), .val (.ref b5), .val (.ref b7), .val (.ref b9), .val (.double r1'), .second, .val (.double r2'), .second, .val (.double r3'), .second, .unset, .unset, .unset, .unset] [(.double r3'), (.int u3'), (.int i3')])) (fun t k => XS.dload X15.here hx rfl (hb hby at_192) rfl k) ?_
  obtain ⟨v16, T16, h16, L16, e16, X16, hQ16, st16⟩ := own_callS X15 hx hZ (y := (⟨"com/example/minwise/minwise/model/OverlapResemblancePinLaw", "single", "(IID)Z"⟩ : MethodName)) hown (hw _ (List.mem_of_getElem? (i := 27) rfl)) (hw _ (List.mem_of_getElem? (i := 28) rfl)) (hw _ (List.mem_of_getElem? (i := 29) rfl)) (hw _ (List.mem_of_getElem? (i := 30) rfl)) (by decide) (own_rmsg l Z a0 hw i3' u3' r3' h10 (n1' * j3) (m1' * j3) hi3 hu3 lj6 lj5 hv_r3'.symm) (W := 0) (by decide) (by decide) (g := (mkF m 194 #[.val (.int p1), .val (.int p2), .val (.int p3), .val (.int p4), .val (.int p5), .val (.int x10), .val (.int x11), .val (.int i1'), .val (.int u1'), .val (.int x20), .val (.int x21), .val (.int i2'), .val (.int u2'), .val (.long kk), .second, .val (.int i3'), .val (.int u3'), .val (.ref b5), .val (.ref b7), .val (.ref b9), .val (.double r1'), .second, .val (.double r2'), .second, .val (.double r3'), .second, .unset, .unset, .unset, .unset] [(.double r3'), (.int u3'), (.int i3')])) rfl (by rw [hml]; rfl) (argsL := [(.int i3'), (.int u3'), (.double r3')]) (rest := []) (lenOf own_pd3 rfl) rfl rfl (by show 2 * 0 + _ ≤ _; exact Nat.le_of_eq rfl) (hb hby at_194) e15 (by decide) (by decide)
  obtain ⟨rfl, rfl, eh16⟩ := hQ16
  have e16 := e16.trans eh16
  rw [List.append_nil] at X16
  refine own_go (U' := T16.setTop (mkF m 197 #[.val (.int p1), .val (.int p2), .val (.int p3), .val (.int p4), .val (.int p5), .val (.int x10), .val (.int x11), .val (.int i1'), .val (.int u1'), .val (.int x20), .val (.int x21), .val (.int i2'), .val (.int u2'), .val (.long kk), .second, .val (.int i3'), .val (.int u3'), .val (.ref b5), .val (.ref b7), .val (.ref b9), .val (.double r1'), .second, .val (.double r2'), .second, .val (.double r3'), .second, .unset, .unset, .unset, .unset] [(.int (1 : Int32))])) st16 ?_
  refine own_go (U' := T16.setTop (mkF m 202 #[.val (.int p1), .val (.int p2), .val (.int p3), .val (.int p4), .val (.int p5), .val (.int x10), .val (.int x11), .val (.int i1'), .val (.int u1'), .val (.int x20), .val (.int x21), .val (.int i2'), .val (.int u2'), .val (.long kk), .second, .val (.int i3'), .val (.int u3'), .val (.ref b5), .val (.ref b7), .val (.ref b9), .val (.double r1'), .second, .val (.double r2'), .second, .val (.double r3'), .second, .unset, .unset, .unset, .unset] [])) (fun t k => XS.ifYes X16.here hx rfl (pc0 := 197) (pc' := 202) rfl (hb hby at_197) rfl ((if0 _ _).trans (feq (by decide)).2) (by decide) (by decide) k) ?_
  refine own_go (U' := T16.setTop (mkF m 204 #[.val (.int p1), .val (.int p2), .val (.int p3), .val (.int p4), .val (.int p5), .val (.int x10), .val (.int x11), .val (.int i1'), .val (.int u1'), .val (.int x20), .val (.int x21), .val (.int i2'), .val (.int u2'), .val (.long kk), .second, .val (.int i3'), .val (.int u3'), .val (.ref b5), .val (.ref b7), .val (.ref b9), .val (.double r1'), .second, .val (.double r2'), .second, .val (.double r3'), .second, .unset, .unset, .unset, .unset] [(.double r1')])) (fun t k => XS.dload X16.here hx rfl (hb hby at_202) rfl k) ?_
  refine own_go (U' := T16.setTop (mkF m 206 #[.val (.int p1), .val (.int p2), .val (.int p3), .val (.int p4), .val (.int p5), .val (.int x10), .val (.int x11), .val (.int i1'), .val (.int u1'), .val (.int x20), .val (.int x21), .val (.int i2'), .val (.int u2'), .val (.long kk), .second, .val (.int i3'), .val (.int u3'), .val (.ref b5), .val (.ref b7), .val (.ref b9), .val (.double r1'), .second, .val (.double r2'), .second, .val (.double r3'), .second, .unset, .unset, .unset, .unset] [(.double r3'), (.double r1')])) (fun t k => XS.dload X16.here hx rfl (hb hby at_204) rfl k) ?_
  refine own_go (U' := T16.setTop (mkF m 207 #[.val (.int p1), .val (.int p2), .val (.int p3), .val (.int p4), .val (.int p5), .val (.int x10), .val (.int x11), .val (.int i1'), .val (.int u1'), .val (.int x20), .val (.int x21), .val (.int i2'), .val (.int u2'), .val (.long kk), .second, .val (.int i3'), .val (.int u3'), .val (.ref b5), .val (.ref b7), .val (.ref b9), .val (.double r1'), .second, .val (.double r2'), .second, .val (.double r3'), .second, .unset, .unset, .unset, .unset] [(.int (cmpValue (FP.dcmp r1' r3') .l))])) (fun t k => XS.dcmpS X16.here hx rfl (hb hby at_206) rfl rfl k) ?_
  have e13 : r1' = r3' := by rw [← hv_r1', ← hv_r3']; exact own_req hi1 hu1 hi3 hu3 (by omega)
  refine own_go (U' := T16.setTop (mkF m 212 #[.val (.int p1), .val (.int p2), .val (.int p3), .val (.int p4), .val (.int p5), .val (.int x10), .val (.int x11), .val (.int i1'), .val (.int u1'), .val (.int x20), .val (.int x21), .val (.int i2'), .val (.int u2'), .val (.long kk), .second, .val (.int i3'), .val (.int u3'), .val (.ref b5), .val (.ref b7), .val (.ref b9), .val (.double r1'), .second, .val (.double r2'), .second, .val (.double r3'), .second, .unset, .unset, .unset, .unset] [])) (fun t k => XS.ifYes X16.here hx rfl (pc0 := 207) (pc' := 212) rfl (hb hby at_207) rfl ((if0 _ _).trans (teq (own_ceq nr1 nr3 (by rw [e13]) _)).1) (by decide) (by decide) k) ?_
  refine own_go (U' := T16.setTop (mkF m 214 #[.val (.int p1), .val (.int p2), .val (.int p3), .val (.int p4), .val (.int p5), .val (.int x10), .val (.int x11), .val (.int i1'), .val (.int u1'), .val (.int x20), .val (.int x21), .val (.int i2'), .val (.int u2'), .val (.long kk), .second, .val (.int i3'), .val (.int u3'), .val (.ref b5), .val (.ref b7), .val (.ref b9), .val (.double r1'), .second, .val (.double r2'), .second, .val (.double r3'), .second, .unset, .unset, .unset, .unset] [(.int u1')])) (fun t k => XS.iload X16.here hx rfl (hb hby at_212) rfl k) ?_
  have z0 : (0 : Int32).toInt = 0 := rfl
  by_cases hu1p : (0 : Int32) < u1'
  · refine own_go (U' := T16.setTop (mkF m 217 #[.val (.int p1), .val (.int p2), .val (.int p3), .val (.int p4), .val (.int p5), .val (.int x10), .val (.int x11), .val (.int i1'), .val (.int u1'), .val (.int x20), .val (.int x21), .val (.int i2'), .val (.int u2'), .val (.long kk), .second, .val (.int i3'), .val (.int u3'), .val (.ref b5), .val (.ref b7), .val (.ref b9), .val (.double r1'), .second, .val (.double r2'), .second, .val (.double r3'), .second, .unset, .unset, .unset, .unset] [])) (fun t k => XS.ifNo X16.here hx rfl (hb hby at_214) rfl ((if0 _ _).trans (tlt hu1p).2.2.2) k) ?_
    refine own_go (U' := T16.setTop (mkF m 219 #[.val (.int p1), .val (.int p2), .val (.int p3), .val (.int p4), .val (.int p5), .val (.int x10), .val (.int x11), .val (.int i1'), .val (.int u1'), .val (.int x20), .val (.int x21), .val (.int i2'), .val (.int u2'), .val (.long kk), .second, .val (.int i3'), .val (.int u3'), .val (.ref b5), .val (.ref b7), .val (.ref b9), .val (.double r1'), .second, .val (.double r2'), .second, .val (.double r3'), .second, .unset, .unset, .unset, .unset] [(.int u2')])) (fun t k => XS.iload X16.here hx rfl (hb hby at_217) rfl k) ?_
    by_cases hu2p : (0 : Int32) < u2'
    · refine own_go (U' := T16.setTop (mkF m 222 #[.val (.int p1), .val (.int p2), .val (.int p3), .val (.int p4), .val (.int p5), .val (.int x10), .val (.int x11), .val (.int i1'), .val (.int u1'), .val (.int x20), .val (.int x21), .val (.int i2'), .val (.int u2'), .val (.long kk), .second, .val (.int i3'), .val (.int u3'), .val (.ref b5), .val (.ref b7), .val (.ref b9), .val (.double r1'), .second, .val (.double r2'), .second, .val (.double r3'), .second, .unset, .unset, .unset, .unset] [])) (fun t k => XS.ifNo X16.here hx rfl (hb hby at_219) rfl ((if0 _ _).trans (tlt hu2p).2.2.2) k) ?_
      have m1p : 0 < m1' := by rw [Int32.lt_iff_toInt_lt, z0, hu1] at hu1p; omega
      have m2p : 0 < m2' := by rw [Int32.lt_iff_toInt_lt, z0, hu2] at hu2p; omega
      have zr1 : Jvm.FP.Core.zval Jvm.FP.Core.b64 (Jvm.FP.Core.val64 r1') = own_z n1' m1' := by rw [← hv_r1']; exact own_rz hi1 hu1 m1p
      have zr2 : Jvm.FP.Core.zval Jvm.FP.Core.b64 (Jvm.FP.Core.val64 r2') = own_z n2' m2' := by rw [← hv_r2']; exact own_rz hi2 hu2 m2p
      refine own_go (U' := T16.setTop (mkF m 224 #[.val (.int p1), .val (.int p2), .val (.int p3), .val (.int p4), .val (.int p5), .val (.int x10), .val (.int x11), .val (.int i1'), .val (.int u1'), .val (.int x20), .val (.int x21), .val (.int i2'), .val (.int u2'), .val (.long kk), .second, .val (.int i3'), .val (.int u3'), .val (.ref b5), .val (.ref b7), .val (.ref b9), .val (.double r1'), .second, .val (.double r2'), .second, .val (.double r3'), .second, .unset, .unset, .unset, .unset] [(.int i1')])) (fun t k => XS.iload X16.here hx rfl (hb hby at_222) rfl k) ?_
      refine own_go (U' := T16.setTop (mkF m 225 #[.val (.int p1), .val (.int p2), .val (.int p3), .val (.int p4), .val (.int p5), .val (.int x10), .val (.int x11), .val (.int i1'), .val (.int u1'), .val (.int x20), .val (.int x21), .val (.int i2'), .val (.int u2'), .val (.long kk), .second, .val (.int i3'), .val (.int u3'), .val (.ref b5), .val (.ref b7), .val (.ref b9), .val (.double r1'), .second, .val (.double r2'), .second, .val (.double r3'), .second, .unset, .unset, .unset, .unset] [(.long (i1'.toInt64))])) (fun t k => XS.i2l X16.here hx rfl (hb hby at_224) rfl k) ?_
      refine own_go (U' := T16.setTop (mkF m 227 #[.val (.int p1), .val (.int p2), .val (.int p3), .val (.int p4), .val (.int p5), .val (.int x10), .val (.int x11), .val (.int i1'), .val (.int u1'), .val (.int x20), .val (.int x21), .val (.int i2'), .val (.int u2'), .val (.long kk), .second, .val (.int i3'), .val (.int u3'), .val (.ref b5), .val (.ref b7), .val (.ref b9), .val (.double r1'), .second, .val (.double r2'), .second, .val (.double r3'), .second, .unset, .unset, .unset, .unset] [(.int u2'), (.long (i1'.toInt64))])) (fun t k => XS.iload X16.here hx rfl (hb hby at_225) rfl k) ?_
      refine own_go (U' := T16.setTop (mkF m 228 #[.val (.int p1), .val (.int p2), .val (.int p3), .val (.int p4), .val (.int p5), .val (.int x10), .val (.int x11), .val (.int i1'), .val (.int u1'), .val (.int x20), .val (.int x21), .val (.int i2'), .val (.int u2'), .val (.long kk), .second, .val (.int i3'), .val (.int u3'), .val (.ref b5), .val (.ref b7), .val (.ref b9), .val (.double r1'), .second, .val (.double r2'), .second, .val (.double r3'), .second, .unset, .unset, .unset, .unset] [(.long (u2'.toInt64)), (.long (i1'.toInt64))])) (fun t k => XS.i2l X16.here hx rfl (hb hby at_227) rfl k) ?_
      refine own_go (U' := T16.setTop (mkF m 229 #[.val (.int p1), .val (.int p2), .val (.int p3), .val (.int p4), .val (.int p5), .val (.int x10), .val (.int x11), .val (.int i1'), .val (.int u1'), .val (.int x20), .val (.int x21), .val (.int i2'), .val (.int u2'), .val (.long kk), .second, .val (.int i3'), .val (.int u3'), .val (.ref b5), .val (.ref b7), .val (.ref b9), .val (.double r1'), .second, .val (.double r2'), .second, .val (.double r3'), .second, .unset, .unset, .unset, .unset] [(.long ((i1'.toInt64) * (u2'.toInt64)))])) (fun t k => XS.lmul X16.here hx rfl (hb hby at_228) rfl k) ?_
      have hpp := own_ml (own_w64 hi1) (own_w64 hu2) (by omega) hm2
      generalize hv_pp : ((i1'.toInt64) * (u2'.toInt64)) = pp at hpp ⊢
      refine own_go (U' := T16.setTop (mkF m 231 #[.val (.int p1), .val (.int p2), .val (.int p3), .val (.int p4), .val (.int p5), .val (.int x10), .val (.int x11), .val (.int i1'), .val (.int u1'), .val (.int x20), .val (.int x21), .val (.int i2'), .val (.int u2'), .val (.long kk), .second, .val (.int i3'), .val (.int u3'), .val (.ref b5), .val (.ref b7), .val (.ref b9), .val (.double r1'), .second, .val (.double r2'), .second, .val (.double r3'), .second, .val (.long pp), .second, .unset, .unset] [])) (fun t k => XS.lstore X16.here hx rfl (hb hby at_229) rfl (l' := #[.val (.int p1), .val (.int p2), .val (.int p3), .val (.int p4), .val (.int p5), .val (.int x10), .val (.int x11), .val (.int i1'), .val (.int u1'), .val (.int x20), .val (.int x21), .val (.int i2'), .val (.int u2'), .val (.long kk), .second, .val (.int i3'), .val (.int u3'), .val (.ref b5), .val (.ref b7), .val (.ref b9), .val (.double r1'), .second, .val (.double r2'), .second, .val (.double r3'), .second, .val (.long pp), .second, .unset, .unset]) rfl k) ?_
      refine own_go (U' := T16.setTop (mkF m 233 #[.val (.int p1), .val (.int p2), .val (.int p3), .val (.int p4), .val (.int p5), .val (.int x10), .val (.int x11), .val (.int i1'), .val (.int u1'), .val (.int x20), .val (.int x21), .val (.int i2'), .val (.int u2'), .val (.long kk), .second, .val (.int i3'), .val (.int u3'), .val (.ref b5), .val (.ref b7), .val (.ref b9), .val (.double r1'), .second, .val (.double r2'), .second, .val (.double r3'), .second, .val (.long pp), .second, .unset, .unset] [(.int i2')])) (fun t k => XS.iload X16.here hx rfl (hb hby at_231) rfl k) ?_
      refine own_go (U' := T16.setTop (mkF m 234 #[.val (.int p1), .val (.int p2), .val (.int p3), .val (.int p4), .val (.int p5), .val (.int x10), .val (.int x11), .val (.int i1'), .val (.int u1'), .val (.int x20), .val (.int x21), .val (.int i2'), .val (.int u2'), .val (.long kk), .second, .val (.int i3'), .val (.int u3'), .val (.ref b5), .val (.ref b7), .val (.ref b9), .val (.double r1'), .second, .val (.double r2'), .second, .val (.double r3'), .second, .val (.long pp), .second, .unset, .unset] [(.long (i2'.toInt64))])) (fun t k => XS.i2l X16.here hx rfl (hb hby at_233) rfl k) ?_
      refine own_go (U' := T16.setTop (mkF m 236 #[.val (.int p1), .val (.int p2), .val (.int p3), .val (.int p4), .val (.int p5), .val (.int x10), .val (.int x11), .val (.int i1'), .val (.int u1'), .val (.int x20), .val (.int x21), .val (.int i2'), .val (.int u2'), .val (.long kk), .second, .val (.int i3'), .val (.int u3'), .val (.ref b5), .val (.ref b7), .val (.ref b9), .val (.double r1'), .second, .val (.double r2'), .second, .val (.double r3'), .second, .val (.long pp), .second, .unset, .unset] [(.int u1'), (.long (i2'.toInt64))])) (fun t k => XS.iload X16.here hx rfl (hb hby at_234) rfl k) ?_
      refine own_go (U' := T16.setTop (mkF m 237 #[.val (.int p1), .val (.int p2), .val (.int p3), .val (.int p4), .val (.int p5), .val (.int x10), .val (.int x11), .val (.int i1'), .val (.int u1'), .val (.int x20), .val (.int x21), .val (.int i2'), .val (.int u2'), .val (.long kk), .second, .val (.int i3'), .val (.int u3'), .val (.ref b5), .val (.ref b7), .val (.ref b9), .val (.double r1'), .second, .val (.double r2'), .second, .val (.double r3'), .second, .val (.long pp), .second, .unset, .unset] [(.long (u1'.toInt64)), (.long (i2'.toInt64))])) (fun t k => XS.i2l X16.here hx rfl (hb hby at_236) rfl k) ?_
      refine own_go (U' := T16.setTop (mkF m 238 #[.val (.int p1), .val (.int p2), .val (.int p3), .val (.int p4), .val (.int p5), .val (.int x10), .val (.int x11), .val (.int i1'), .val (.int u1'), .val (.int x20), .val (.int x21), .val (.int i2'), .val (.int u2'), .val (.long kk), .second, .val (.int i3'), .val (.int u3'), .val (.ref b5), .val (.ref b7), .val (.ref b9), .val (.double r1'), .second, .val (.double r2'), .second, .val (.double r3'), .second, .val (.long pp), .second, .unset, .unset] [(.long ((i2'.toInt64) * (u1'.toInt64)))])) (fun t k => XS.lmul X16.here hx rfl (hb hby at_237) rfl k) ?_
      have hqq := own_ml (own_w64 hi2) (own_w64 hu1) (by omega) hm1
      generalize hv_qq : ((i2'.toInt64) * (u1'.toInt64)) = qq at hqq ⊢
      refine own_go (U' := T16.setTop (mkF m 240 #[.val (.int p1), .val (.int p2), .val (.int p3), .val (.int p4), .val (.int p5), .val (.int x10), .val (.int x11), .val (.int i1'), .val (.int u1'), .val (.int x20), .val (.int x21), .val (.int i2'), .val (.int u2'), .val (.long kk), .second, .val (.int i3'), .val (.int u3'), .val (.ref b5), .val (.ref b7), .val (.ref b9), .val (.double r1'), .second, .val (.double r2'), .second, .val (.double r3'), .second, .val (.long pp), .second, .val (.long qq), .second] [])) (fun t k => XS.lstore X16.here hx rfl (hb hby at_238) rfl (l' := #[.val (.int p1), .val (.int p2), .val (.int p3), .val (.int p4), .val (.int p5), .val (.int x10), .val (.int x11), .val (.int i1'), .val (.int u1'), .val (.int x20), .val (.int x21), .val (.int i2'), .val (.int u2'), .val (.long kk), .second, .val (.int i3'), .val (.int u3'), .val (.ref b5), .val (.ref b7), .val (.ref b9), .val (.double r1'), .second, .val (.double r2'), .second, .val (.double r3'), .second, .val (.long pp), .second, .val (.long qq), .second]) rfl k) ?_
      refine own_go (U' := T16.setTop (mkF m 242 #[.val (.int p1), .val (.int p2), .val (.int p3), .val (.int p4), .val (.int p5), .val (.int x10), .val (.int x11), .val (.int i1'), .val (.int u1'), .val (.int x20), .val (.int x21), .val (.int i2'), .val (.int u2'), .val (.long kk), .second, .val (.int i3'), .val (.int u3'), .val (.ref b5), .val (.ref b7), .val (.ref b9), .val (.double r1'), .second, .val (.double r2'), .second, .val (.double r3'), .second, .val (.long pp), .second, .val (.long qq), .second] [(.long pp)])) (fun t k => XS.lload X16.here hx rfl (hb hby at_240) rfl k) ?_
      refine own_go (U' := T16.setTop (mkF m 244 #[.val (.int p1), .val (.int p2), .val (.int p3), .val (.int p4), .val (.int p5), .val (.int x10), .val (.int x11), .val (.int i1'), .val (.int u1'), .val (.int x20), .val (.int x21), .val (.int i2'), .val (.int u2'), .val (.long kk), .second, .val (.int i3'), .val (.int u3'), .val (.ref b5), .val (.ref b7), .val (.ref b9), .val (.double r1'), .second, .val (.double r2'), .second, .val (.double r3'), .second, .val (.long pp), .second, .val (.long qq), .second] [(.long qq), (.long pp)])) (fun t k => XS.lload X16.here hx rfl (hb hby at_242) rfl k) ?_
      refine own_go (U' := T16.setTop (mkF m 245 #[.val (.int p1), .val (.int p2), .val (.int p3), .val (.int p4), .val (.int p5), .val (.int x10), .val (.int x11), .val (.int i1'), .val (.int u1'), .val (.int x20), .val (.int x21), .val (.int i2'), .val (.int u2'), .val (.long kk), .second, .val (.int i3'), .val (.int u3'), .val (.ref b5), .val (.ref b7), .val (.ref b9), .val (.double r1'), .second, .val (.double r2'), .second, .val (.double r3'), .second, .val (.long pp), .second, .val (.long qq), .second] [(.int (lcmpW pp qq))])) (fun t k => XS.lcmp X16.here hx rfl (hb hby at_244) rfl k) ?_
      by_cases hpq : pp < qq
      · refine own_go (U' := T16.setTop (mkF m 248 #[.val (.int p1), .val (.int p2), .val (.int p3), .val (.int p4), .val (.int p5), .val (.int x10), .val (.int x11), .val (.int i1'), .val (.int u1'), .val (.int x20), .val (.int x21), .val (.int i2'), .val (.int u2'), .val (.long kk), .second, .val (.int i3'), .val (.int u3'), .val (.ref b5), .val (.ref b7), .val (.ref b9), .val (.double r1'), .second, .val (.double r2'), .second, .val (.double r3'), .second, .val (.long pp), .second, .val (.long qq), .second] [])) (fun t k => XS.ifNo X16.here hx rfl (hb hby at_245) rfl ((if0 _ _).trans (tlt ((lw_lt pp qq).mpr hpq)).2.1) k) ?_
        have hlt : n1' * m2' < n2' * m1' := by rw [Int64.lt_iff_toInt_lt, hpp, hqq] at hpq; omega
        have hzz := (own_zmono m1p m2p hnm1 hnm2 (Nat.le_of_lt hlt))
        refine own_go (U' := T16.setTop (mkF m 250 #[.val (.int p1), .val (.int p2), .val (.int p3), .val (.int p4), .val (.int p5), .val (.int x10), .val (.int x11), .val (.int i1'), .val (.int u1'), .val (.int x20), .val (.int x21), .val (.int i2'), .val (.int u2'), .val (.long kk), .second, .val (.int i3'), .val (.int u3'), .val (.ref b5), .val (.ref b7), .val (.ref b9), .val (.double r1'), .second, .val (.double r2'), .second, .val (.double r3'), .second, .val (.long pp), .second, .val (.long qq), .second] [(.double r1')])) (fun t k => XS.dload X16.here hx rfl (hb hby at_248) rfl k) ?_
        refine own_go (U' := T16.setTop (mkF m 252 #[.val (.int p1), .val (.int p2), .val (.int p3), .val (.int p4), .val (.int p5), .val (.int x10), .val (.int x11), .val (.int i1'), .val (.int u1'), .val (.int x20), .val (.int x21), .val (.int i2'), .val (.int u2'), .val (.long kk), .second, .val (.int i3'), .val (.int u3'), .val (.ref b5), .val (.ref b7), .val (.ref b9), .val (.double r1'), .second, .val (.double r2'), .second, .val (.double r3'), .second, .val (.long pp), .second, .val (.long qq), .second] [(.double r2'), (.double r1')])) (fun t k => XS.dload X16.here hx rfl (hb hby at_250) rfl k) ?_
        refine own_go (U' := T16.setTop (mkF m 253 #[.val (.int p1), .val (.int p2), .val (.int p3), .val (.int p4), .val (.int p5), .val (.int x10), .val (.int x11), .val (.int i1'), .val (.int u1'), .val (.int x20), .val (.int x21), .val (.int i2'), .val (.int u2'), .val (.long kk), .second, .val (.int i3'), .val (.int u3'), .val (.ref b5), .val (.ref b7), .val (.ref b9), .val (.double r1'), .second, .val (.double r2'), .second, .val (.double r3'), .second, .val (.long pp), .second, .val (.long qq), .second] [(.int (cmpValue (FP.dcmp r1' r2') .g))])) (fun t k => XS.dcmpS X16.here hx rfl (hb hby at_252) rfl rfl k) ?_
        refine own_go (U' := T16.setTop (mkF m 258 #[.val (.int p1), .val (.int p2), .val (.int p3), .val (.int p4), .val (.int p5), .val (.int x10), .val (.int x11), .val (.int i1'), .val (.int u1'), .val (.int x20), .val (.int x21), .val (.int i2'), .val (.int u2'), .val (.long kk), .second, .val (.int i3'), .val (.int u3'), .val (.ref b5), .val (.ref b7), .val (.ref b9), .val (.double r1'), .second, .val (.double r2'), .second, .val (.double r3'), .second, .val (.long pp), .second, .val (.long qq), .second] [])) (fun t k => XS.ifYes X16.here hx rfl (pc0 := 253) (pc' := 258) rfl (hb hby at_253) rfl ((if0 _ _).trans (flt (own_cle nr1 nr2 (by rw [zr1, zr2]; omega) _)).2.2.2) (by decide) (by decide) k) ?_
        refine own_go (U' := T16.setTop (mkF m 260 #[.val (.int p1), .val (.int p2), .val (.int p3), .val (.int p4), .val (.int p5), .val (.int x10), .val (.int x11), .val (.int i1'), .val (.int u1'), .val (.int x20), .val (.int x21), .val (.int i2'), .val (.int u2'), .val (.long kk), .second, .val (.int i3'), .val (.int u3'), .val (.ref b5), .val (.ref b7), .val (.ref b9), .val (.double r1'), .second, .val (.double r2'), .second, .val (.double r3'), .second, .val (.long pp), .second, .val (.long qq), .second] [(.long pp)])) (fun t k => XS.lload X16.here hx rfl (hb hby at_258) rfl k) ?_
        refine own_go (U' := T16.setTop (mkF m 262 #[.val (.int p1), .val (.int p2), .val (.int p3), .val (.int p4), .val (.int p5), .val (.int x10), .val (.int x11), .val (.int i1'), .val (.int u1'), .val (.int x20), .val (.int x21), .val (.int i2'), .val (.int u2'), .val (.long kk), .second, .val (.int i3'), .val (.int u3'), .val (.ref b5), .val (.ref b7), .val (.ref b9), .val (.double r1'), .second, .val (.double r2'), .second, .val (.double r3'), .second, .val (.long pp), .second, .val (.long qq), .second] [(.long qq), (.long pp)])) (fun t k => XS.lload X16.here hx rfl (hb hby at_260) rfl k) ?_
        refine own_go (U' := T16.setTop (mkF m 263 #[.val (.int p1), .val (.int p2), .val (.int p3), .val (.int p4), .val (.int p5), .val (.int x10), .val (.int x11), .val (.int i1'), .val (.int u1'), .val (.int x20), .val (.int x21), .val (.int i2'), .val (.int u2'), .val (.long kk), .second, .val (.int i3'), .val (.int u3'), .val (.ref b5), .val (.ref b7), .val (.ref b9), .val (.double r1'), .second, .val (.double r2'), .second, .val (.double r3'), .second, .val (.long pp), .second, .val (.long qq), .second] [(.int (lcmpW pp qq))])) (fun t k => XS.lcmp X16.here hx rfl (hb hby at_262) rfl k) ?_
        refine own_go (U' := T16.setTop (mkF m 276 #[.val (.int p1), .val (.int p2), .val (.int p3), .val (.int p4), .val (.int p5), .val (.int x10), .val (.int x11), .val (.int i1'), .val (.int u1'), .val (.int x20), .val (.int x21), .val (.int i2'), .val (.int u2'), .val (.long kk), .second, .val (.int i3'), .val (.int u3'), .val (.ref b5), .val (.ref b7), .val (.ref b9), .val (.double r1'), .second, .val (.double r2'), .second, .val (.double r3'), .second, .val (.long pp), .second, .val (.long qq), .second] [])) (fun t k => XS.ifYes X16.here hx rfl (pc0 := 263) (pc' := 276) rfl (hb hby at_263) rfl ((if0 _ _).trans (feq (fun q => (fun q => absurd hpq (by rw [q]; exact Int64.lt_irrefl)) ((lw_eq pp qq).mp q))).2) (by decide) (by decide) k) ?_
        refine own_go (U' := T16.setTop (mkF m 278 #[.val (.int p1), .val (.int p2), .val (.int p3), .val (.int p4), .val (.int p5), .val (.int x10), .val (.int x11), .val (.int i1'), .val (.int u1'), .val (.int x20), .val (.int x21), .val (.int i2'), .val (.int u2'), .val (.long kk), .second, .val (.int i3'), .val (.int u3'), .val (.ref b5), .val (.ref b7), .val (.ref b9), .val (.double r1'), .second, .val (.double r2'), .second, .val (.double r3'), .second, .val (.long pp), .second, .val (.long qq), .second] [(.long pp)])) (fun t k => XS.lload X16.here hx rfl (hb hby at_276) rfl k) ?_
        refine own_go (U' := T16.setTop (mkF m 280 #[.val (.int p1), .val (.int p2), .val (.int p3), .val (.int p4), .val (.int p5), .val (.int x10), .val (.int x11), .val (.int i1'), .val (.int u1'), .val (.int x20), .val (.int x21), .val (.int i2'), .val (.int u2'), .val (.long kk), .second, .val (.int i3'), .val (.int u3'), .val (.ref b5), .val (.ref b7), .val (.ref b9), .val (.double r1'), .second, .val (.double r2'), .second, .val (.double r3'), .second, .val (.long pp), .second, .val (.long qq), .second] [(.long qq), (.long pp)])) (fun t k => XS.lload X16.here hx rfl (hb hby at_278) rfl k) ?_
        refine own_go (U' := T16.setTop (mkF m 281 #[.val (.int p1), .val (.int p2), .val (.int p3), .val (.int p4), .val (.int p5), .val (.int x10), .val (.int x11), .val (.int i1'), .val (.int u1'), .val (.int x20), .val (.int x21), .val (.int i2'), .val (.int u2'), .val (.long kk), .second, .val (.int i3'), .val (.int u3'), .val (.ref b5), .val (.ref b7), .val (.ref b9), .val (.double r1'), .second, .val (.double r2'), .second, .val (.double r3'), .second, .val (.long pp), .second, .val (.long qq), .second] [(.int (lcmpW pp qq))])) (fun t k => XS.lcmp X16.here hx rfl (hb hby at_280) rfl k) ?_
        refine own_go (U' := T16.setTop (mkF m 294 #[.val (.int p1), .val (.int p2), .val (.int p3), .val (.int p4), .val (.int p5), .val (.int x10), .val (.int x11), .val (.int i1'), .val (.int u1'), .val (.int x20), .val (.int x21), .val (.int i2'), .val (.int u2'), .val (.long kk), .second, .val (.int i3'), .val (.int u3'), .val (.ref b5), .val (.ref b7), .val (.ref b9), .val (.double r1'), .second, .val (.double r2'), .second, .val (.double r3'), .second, .val (.long pp), .second, .val (.long qq), .second] [])) (fun t k => XS.ifYes X16.here hx rfl (pc0 := 281) (pc' := 294) rfl (hb hby at_281) rfl ((if0 _ _).trans (flt (fun q => (fun q => Int64.lt_irrefl (Int64.lt_trans hpq q)) ((lw_gt pp qq).mp q))).2.2.2) (by decide) (by decide) k) ?_
        refine own_go (U' := T16.setTop (mkF m 295 #[.val (.int p1), .val (.int p2), .val (.int p3), .val (.int p4), .val (.int p5), .val (.int x10), .val (.int x11), .val (.int i1'), .val (.int u1'), .val (.int x20), .val (.int x21), .val (.int i2'), .val (.int u2'), .val (.long kk), .second, .val (.int i3'), .val (.int u3'), .val (.ref b5), .val (.ref b7), .val (.ref b9), .val (.double r1'), .second, .val (.double r2'), .second, .val (.double r3'), .second, .val (.long pp), .second, .val (.long qq), .second] [(.int (1 : Int32))])) (fun t k => XS.iconst X16.here hx rfl (hb hby at_294) k) ?_
        refine own_retN X16 hx (t := .boolean) hret (by simp) hlk (hb hby at_295) ?_ (by decide) (by decide)
        exact ⟨rfl, N10⟩
      · refine own_go (U' := T16.setTop (mkF m 258 #[.val (.int p1), .val (.int p2), .val (.int p3), .val (.int p4), .val (.int p5), .val (.int x10), .val (.int x11), .val (.int i1'), .val (.int u1'), .val (.int x20), .val (.int x21), .val (.int i2'), .val (.int u2'), .val (.long kk), .second, .val (.int i3'), .val (.int u3'), .val (.ref b5), .val (.ref b7), .val (.ref b9), .val (.double r1'), .second, .val (.double r2'), .second, .val (.double r3'), .second, .val (.long pp), .second, .val (.long qq), .second] [])) (fun t k => XS.ifYes X16.here hx rfl (pc0 := 245) (pc' := 258) rfl (hb hby at_245) rfl ((if0 _ _).trans (flt (fun q => hpq ((lw_lt pp qq).mp q))).2.1) (by decide) (by decide) k) ?_
        have hge : n2' * m1' ≤ n1' * m2' := by rw [Int64.lt_iff_toInt_lt, hpp, hqq] at hpq; omega
        refine own_go (U' := T16.setTop (mkF m 260 #[.val (.int p1), .val (.int p2), .val (.int p3), .val (.int p4), .val (.int p5), .val (.int x10), .val (.int x11), .val (.int i1'), .val (.int u1'), .val (.int x20), .val (.int x21), .val (.int i2'), .val (.int u2'), .val (.long kk), .second, .val (.int i3'), .val (.int u3'), .val (.ref b5), .val (.ref b7), .val (.ref b9), .val (.double r1'), .second, .val (.double r2'), .second, .val (.double r3'), .second, .val (.long pp), .second, .val (.long qq), .second] [(.long pp)])) (fun t k => XS.lload X16.here hx rfl (hb hby at_258) rfl k) ?_
        refine own_go (U' := T16.setTop (mkF m 262 #[.val (.int p1), .val (.int p2), .val (.int p3), .val (.int p4), .val (.int p5), .val (.int x10), .val (.int x11), .val (.int i1'), .val (.int u1'), .val (.int x20), .val (.int x21), .val (.int i2'), .val (.int u2'), .val (.long kk), .second, .val (.int i3'), .val (.int u3'), .val (.ref b5), .val (.ref b7), .val (.ref b9), .val (.double r1'), .second, .val (.double r2'), .second, .val (.double r3'), .second, .val (.long pp), .second, .val (.long qq), .second] [(.long qq), (.long pp)])) (fun t k => XS.lload X16.here hx rfl (hb hby at_260) rfl k) ?_
        refine own_go (U' := T16.setTop (mkF m 263 #[.val (.int p1), .val (.int p2), .val (.int p3), .val (.int p4), .val (.int p5), .val (.int x10), .val (.int x11), .val (.int i1'), .val (.int u1'), .val (.int x20), .val (.int x21), .val (.int i2'), .val (.int u2'), .val (.long kk), .second, .val (.int i3'), .val (.int u3'), .val (.ref b5), .val (.ref b7), .val (.ref b9), .val (.double r1'), .second, .val (.double r2'), .second, .val (.double r3'), .second, .val (.long pp), .second, .val (.long qq), .second] [(.int (lcmpW pp qq))])) (fun t k => XS.lcmp X16.here hx rfl (hb hby at_262) rfl k) ?_
        by_cases hpe : pp = qq
        · refine own_go (U' := T16.setTop (mkF m 266 #[.val (.int p1), .val (.int p2), .val (.int p3), .val (.int p4), .val (.int p5), .val (.int x10), .val (.int x11), .val (.int i1'), .val (.int u1'), .val (.int x20), .val (.int x21), .val (.int i2'), .val (.int u2'), .val (.long kk), .second, .val (.int i3'), .val (.int u3'), .val (.ref b5), .val (.ref b7), .val (.ref b9), .val (.double r1'), .second, .val (.double r2'), .second, .val (.double r3'), .second, .val (.long pp), .second, .val (.long qq), .second] [])) (fun t k => XS.ifNo X16.here hx rfl (hb hby at_263) rfl ((if0 _ _).trans (teq ((lw_eq pp qq).mpr hpe)).2) k) ?_
          have heq : n1' * m2' = n2' * m1' := by rw [hpe, hqq] at hpp; omega
          have hza := (own_zmono m1p m2p hnm1 hnm2 (Nat.le_of_eq heq))
          have hzb := (own_zmono m2p m1p hnm2 hnm1 (Nat.le_of_eq heq.symm))
          refine own_go (U' := T16.setTop (mkF m 268 #[.val (.int p1), .val (.int p2), .val (.int p3), .val (.int p4), .val (.int p5), .val (.int x10), .val (.int x11), .val (.int i1'), .val (.int u1'), .val (.int x20), .val (.int x21), .val (.int i2'), .val (.int u2'), .val (.long kk), .second, .val (.int i3'), .val (.int u3'), .val (.ref b5), .val (.ref b7), .val (.ref b9), .val (.double r1'), .second, .val (.double r2'), .second, .val (.double r3'), .second, .val (.long pp), .second, .val (.long qq), .second] [(.double r1')])) (fun t k => XS.dload X16.here hx rfl (hb hby at_266) rfl k) ?_
          refine own_go (U' := T16.setTop (mkF m 270 #[.val (.int p1), .val (.int p2), .val (.int p3), .val (.int p4), .val (.int p5), .val (.int x10), .val (.int x11), .val (.int i1'), .val (.int u1'), .val (.int x20), .val (.int x21), .val (.int i2'), .val (.int u2'), .val (.long kk), .second, .val (.int i3'), .val (.int u3'), .val (.ref b5), .val (.ref b7), .val (.ref b9), .val (.double r1'), .second, .val (.double r2'), .second, .val (.double r3'), .second, .val (.long pp), .second, .val (.long qq), .second] [(.double r2'), (.double r1')])) (fun t k => XS.dload X16.here hx rfl (hb hby at_268) rfl k) ?_
          refine own_go (U' := T16.setTop (mkF m 271 #[.val (.int p1), .val (.int p2), .val (.int p3), .val (.int p4), .val (.int p5), .val (.int x10), .val (.int x11), .val (.int i1'), .val (.int u1'), .val (.int x20), .val (.int x21), .val (.int i2'), .val (.int u2'), .val (.long kk), .second, .val (.int i3'), .val (.int u3'), .val (.ref b5), .val (.ref b7), .val (.ref b9), .val (.double r1'), .second, .val (.double r2'), .second, .val (.double r3'), .second, .val (.long pp), .second, .val (.long qq), .second] [(.int (cmpValue (FP.dcmp r1' r2') .l))])) (fun t k => XS.dcmpS X16.here hx rfl (hb hby at_270) rfl rfl k) ?_
          refine own_go (U' := T16.setTop (mkF m 276 #[.val (.int p1), .val (.int p2), .val (.int p3), .val (.int p4), .val (.int p5), .val (.int x10), .val (.int x11), .val (.int i1'), .val (.int u1'), .val (.int x20), .val (.int x21), .val (.int i2'), .val (.int u2'), .val (.long kk), .second, .val (.int i3'), .val (.int u3'), .val (.ref b5), .val (.ref b7), .val (.ref b9), .val (.double r1'), .second, .val (.double r2'), .second, .val (.double r3'), .second, .val (.long pp), .second, .val (.long qq), .second] [])) (fun t k => XS.ifYes X16.here hx rfl (pc0 := 271) (pc' := 276) rfl (hb hby at_271) rfl ((if0 _ _).trans (teq (own_ceq nr1 nr2 (by rw [zr1, zr2]; omega) _)).1) (by decide) (by decide) k) ?_
          have hng : ¬ qq < pp := by rw [hpe]; exact Int64.lt_irrefl
          refine own_go (U' := T16.setTop (mkF m 278 #[.val (.int p1), .val (.int p2), .val (.int p3), .val (.int p4), .val (.int p5), .val (.int x10), .val (.int x11), .val (.int i1'), .val (.int u1'), .val (.int x20), .val (.int x21), .val (.int i2'), .val (.int u2'), .val (.long kk), .second, .val (.int i3'), .val (.int u3'), .val (.ref b5), .val (.ref b7), .val (.ref b9), .val (.double r1'), .second, .val (.double r2'), .second, .val (.double r3'), .second, .val (.long pp), .second, .val (.long qq), .second] [(.long pp)])) (fun t k => XS.lload X16.here hx rfl (hb hby at_276) rfl k) ?_
          refine own_go (U' := T16.setTop (mkF m 280 #[.val (.int p1), .val (.int p2), .val (.int p3), .val (.int p4), .val (.int p5), .val (.int x10), .val (.int x11), .val (.int i1'), .val (.int u1'), .val (.int x20), .val (.int x21), .val (.int i2'), .val (.int u2'), .val (.long kk), .second, .val (.int i3'), .val (.int u3'), .val (.ref b5), .val (.ref b7), .val (.ref b9), .val (.double r1'), .second, .val (.double r2'), .second, .val (.double r3'), .second, .val (.long pp), .second, .val (.long qq), .second] [(.long qq), (.long pp)])) (fun t k => XS.lload X16.here hx rfl (hb hby at_278) rfl k) ?_
          refine own_go (U' := T16.setTop (mkF m 281 #[.val (.int p1), .val (.int p2), .val (.int p3), .val (.int p4), .val (.int p5), .val (.int x10), .val (.int x11), .val (.int i1'), .val (.int u1'), .val (.int x20), .val (.int x21), .val (.int i2'), .val (.int u2'), .val (.long kk), .second, .val (.int i3'), .val (.int u3'), .val (.ref b5), .val (.ref b7), .val (.ref b9), .val (.double r1'), .second, .val (.double r2'), .second, .val (.double r3'), .second, .val (.long pp), .second, .val (.long qq), .second] [(.int (lcmpW pp qq))])) (fun t k => XS.lcmp X16.here hx rfl (hb hby at_280) rfl k) ?_
          refine own_go (U' := T16.setTop (mkF m 294 #[.val (.int p1), .val (.int p2), .val (.int p3), .val (.int p4), .val (.int p5), .val (.int x10), .val (.int x11), .val (.int i1'), .val (.int u1'), .val (.int x20), .val (.int x21), .val (.int i2'), .val (.int u2'), .val (.long kk), .second, .val (.int i3'), .val (.int u3'), .val (.ref b5), .val (.ref b7), .val (.ref b9), .val (.double r1'), .second, .val (.double r2'), .second, .val (.double r3'), .second, .val (.long pp), .second, .val (.long qq), .second] [])) (fun t k => XS.ifYes X16.here hx rfl (pc0 := 281) (pc' := 294) rfl (hb hby at_281) rfl ((if0 _ _).trans (flt (fun q => hng ((lw_gt pp qq).mp q))).2.2.2) (by decide) (by decide) k) ?_
          refine own_go (U' := T16.setTop (mkF m 295 #[.val (.int p1), .val (.int p2), .val (.int p3), .val (.int p4), .val (.int p5), .val (.int x10), .val (.int x11), .val (.int i1'), .val (.int u1'), .val (.int x20), .val (.int x21), .val (.int i2'), .val (.int u2'), .val (.long kk), .second, .val (.int i3'), .val (.int u3'), .val (.ref b5), .val (.ref b7), .val (.ref b9), .val (.double r1'), .second, .val (.double r2'), .second, .val (.double r3'), .second, .val (.long pp), .second, .val (.long qq), .second] [(.int (1 : Int32))])) (fun t k => XS.iconst X16.here hx rfl (hb hby at_294) k) ?_
          refine own_retN X16 hx (t := .boolean) hret (by simp) hlk (hb hby at_295) ?_ (by decide) (by decide)
          exact ⟨rfl, N10⟩
        · refine own_go (U' := T16.setTop (mkF m 276 #[.val (.int p1), .val (.int p2), .val (.int p3), .val (.int p4), .val (.int p5), .val (.int x10), .val (.int x11), .val (.int i1'), .val (.int u1'), .val (.int x20), .val (.int x21), .val (.int i2'), .val (.int u2'), .val (.long kk), .second, .val (.int i3'), .val (.int u3'), .val (.ref b5), .val (.ref b7), .val (.ref b9), .val (.double r1'), .second, .val (.double r2'), .second, .val (.double r3'), .second, .val (.long pp), .second, .val (.long qq), .second] [])) (fun t k => XS.ifYes X16.here hx rfl (pc0 := 263) (pc' := 276) rfl (hb hby at_263) rfl ((if0 _ _).trans (feq (fun q => hpe ((lw_eq pp qq).mp q))).2) (by decide) (by decide) k) ?_
          have hzb := (own_zmono m2p m1p hnm2 hnm1 hge)
          have hgt : qq < pp := by
            rw [Int64.lt_iff_toInt_lt]
            rw [Int64.lt_iff_toInt_lt] at hpq
            have : pp.toInt ≠ qq.toInt := fun q => hpe (Int64.toInt_inj.mp q)
            omega
          refine own_go (U' := T16.setTop (mkF m 278 #[.val (.int p1), .val (.int p2), .val (.int p3), .val (.int p4), .val (.int p5), .val (.int x10), .val (.int x11), .val (.int i1'), .val (.int u1'), .val (.int x20), .val (.int x21), .val (.int i2'), .val (.int u2'), .val (.long kk), .second, .val (.int i3'), .val (.int u3'), .val (.ref b5), .val (.ref b7), .val (.ref b9), .val (.double r1'), .second, .val (.double r2'), .second, .val (.double r3'), .second, .val (.long pp), .second, .val (.long qq), .second] [(.long pp)])) (fun t k => XS.lload X16.here hx rfl (hb hby at_276) rfl k) ?_
          refine own_go (U' := T16.setTop (mkF m 280 #[.val (.int p1), .val (.int p2), .val (.int p3), .val (.int p4), .val (.int p5), .val (.int x10), .val (.int x11), .val (.int i1'), .val (.int u1'), .val (.int x20), .val (.int x21), .val (.int i2'), .val (.int u2'), .val (.long kk), .second, .val (.int i3'), .val (.int u3'), .val (.ref b5), .val (.ref b7), .val (.ref b9), .val (.double r1'), .second, .val (.double r2'), .second, .val (.double r3'), .second, .val (.long pp), .second, .val (.long qq), .second] [(.long qq), (.long pp)])) (fun t k => XS.lload X16.here hx rfl (hb hby at_278) rfl k) ?_
          refine own_go (U' := T16.setTop (mkF m 281 #[.val (.int p1), .val (.int p2), .val (.int p3), .val (.int p4), .val (.int p5), .val (.int x10), .val (.int x11), .val (.int i1'), .val (.int u1'), .val (.int x20), .val (.int x21), .val (.int i2'), .val (.int u2'), .val (.long kk), .second, .val (.int i3'), .val (.int u3'), .val (.ref b5), .val (.ref b7), .val (.ref b9), .val (.double r1'), .second, .val (.double r2'), .second, .val (.double r3'), .second, .val (.long pp), .second, .val (.long qq), .second] [(.int (lcmpW pp qq))])) (fun t k => XS.lcmp X16.here hx rfl (hb hby at_280) rfl k) ?_
          refine own_go (U' := T16.setTop (mkF m 284 #[.val (.int p1), .val (.int p2), .val (.int p3), .val (.int p4), .val (.int p5), .val (.int x10), .val (.int x11), .val (.int i1'), .val (.int u1'), .val (.int x20), .val (.int x21), .val (.int i2'), .val (.int u2'), .val (.long kk), .second, .val (.int i3'), .val (.int u3'), .val (.ref b5), .val (.ref b7), .val (.ref b9), .val (.double r1'), .second, .val (.double r2'), .second, .val (.double r3'), .second, .val (.long pp), .second, .val (.long qq), .second] [])) (fun t k => XS.ifNo X16.here hx rfl (hb hby at_281) rfl ((if0 _ _).trans (tlt ((lw_gt pp qq).mpr hgt)).2.2.2) k) ?_
          refine own_go (U' := T16.setTop (mkF m 286 #[.val (.int p1), .val (.int p2), .val (.int p3), .val (.int p4), .val (.int p5), .val (.int x10), .val (.int x11), .val (.int i1'), .val (.int u1'), .val (.int x20), .val (.int x21), .val (.int i2'), .val (.int u2'), .val (.long kk), .second, .val (.int i3'), .val (.int u3'), .val (.ref b5), .val (.ref b7), .val (.ref b9), .val (.double r1'), .second, .val (.double r2'), .second, .val (.double r3'), .second, .val (.long pp), .second, .val (.long qq), .second] [(.double r1')])) (fun t k => XS.dload X16.here hx rfl (hb hby at_284) rfl k) ?_
          refine own_go (U' := T16.setTop (mkF m 288 #[.val (.int p1), .val (.int p2), .val (.int p3), .val (.int p4), .val (.int p5), .val (.int x10), .val (.int x11), .val (.int i1'), .val (.int u1'), .val (.int x20), .val (.int x21), .val (.int i2'), .val (.int u2'), .val (.long kk), .second, .val (.int i3'), .val (.int u3'), .val (.ref b5), .val (.ref b7), .val (.ref b9), .val (.double r1'), .second, .val (.double r2'), .second, .val (.double r3'), .second, .val (.long pp), .second, .val (.long qq), .second] [(.double r2'), (.double r1')])) (fun t k => XS.dload X16.here hx rfl (hb hby at_286) rfl k) ?_
          refine own_go (U' := T16.setTop (mkF m 289 #[.val (.int p1), .val (.int p2), .val (.int p3), .val (.int p4), .val (.int p5), .val (.int x10), .val (.int x11), .val (.int i1'), .val (.int u1'), .val (.int x20), .val (.int x21), .val (.int i2'), .val (.int u2'), .val (.long kk), .second, .val (.int i3'), .val (.int u3'), .val (.ref b5), .val (.ref b7), .val (.ref b9), .val (.double r1'), .second, .val (.double r2'), .second, .val (.double r3'), .second, .val (.long pp), .second, .val (.long qq), .second] [(.int (cmpValue (FP.dcmp r1' r2') .l))])) (fun t k => XS.dcmpS X16.here hx rfl (hb hby at_288) rfl rfl k) ?_
          refine own_go (U' := T16.setTop (mkF m 294 #[.val (.int p1), .val (.int p2), .val (.int p3), .val (.int p4), .val (.int p5), .val (.int x10), .val (.int x11), .val (.int i1'), .val (.int u1'), .val (.int x20), .val (.int x21), .val (.int i2'), .val (.int u2'), .val (.long kk), .second, .val (.int i3'), .val (.int u3'), .val (.ref b5), .val (.ref b7), .val (.ref b9), .val (.double r1'), .second, .val (.double r2'), .second, .val (.double r3'), .second, .val (.long pp), .second, .val (.long qq), .second] [])) (fun t k => XS.ifYes X16.here hx rfl (pc0 := 289) (pc' := 294) rfl (hb hby at_289) rfl ((if0 _ _).trans (flt (own_cge nr1 nr2 (by rw [zr1, zr2]; omega) _)).2.1) (by decide) (by decide) k) ?_
          refine own_go (U' := T16.setTop (mkF m 295 #[.val (.int p1), .val (.int p2), .val (.int p3), .val (.int p4), .val (.int p5), .val (.int x10), .val (.int x11), .val (.int i1'), .val (.int u1'), .val (.int x20), .val (.int x21), .val (.int i2'), .val (.int u2'), .val (.long kk), .second, .val (.int i3'), .val (.int u3'), .val (.ref b5), .val (.ref b7), .val (.ref b9), .val (.double r1'), .second, .val (.double r2'), .second, .val (.double r3'), .second, .val (.long pp), .second, .val (.long qq), .second] [(.int (1 : Int32))])) (fun t k => XS.iconst X16.here hx rfl (hb hby at_294) k) ?_
          refine own_retN X16 hx (t := .boolean) hret (by simp) hlk (hb hby at_295) ?_ (by decide) (by decide)
          exact ⟨rfl, N10⟩
    · refine own_go (U' := T16.setTop (mkF m 294 #[.val (.int p1), .val (.int p2), .val (.int p3), .val (.int p4), .val (.int p5), .val (.int x10), .val (.int x11), .val (.int i1'), .val (.int u1'), .val (.int x20), .val (.int x21), .val (.int i2'), .val (.int u2'), .val (.long kk), .second, .val (.int i3'), .val (.int u3'), .val (.ref b5), .val (.ref b7), .val (.ref b9), .val (.double r1'), .second, .val (.double r2'), .second, .val (.double r3'), .second, .unset, .unset, .unset, .unset] [])) (fun t k => XS.ifYes X16.here hx rfl (pc0 := 219) (pc' := 294) rfl (hb hby at_219) rfl ((if0 _ _).trans (flt hu2p).2.2.2) (by decide) (by decide) k) ?_
      refine own_go (U' := T16.setTop (mkF m 295 #[.val (.int p1), .val (.int p2), .val (.int p3), .val (.int p4), .val (.int p5), .val (.int x10), .val (.int x11), .val (.int i1'), .val (.int u1'), .val (.int x20), .val (.int x21), .val (.int i2'), .val (.int u2'), .val (.long kk), .second, .val (.int i3'), .val (.int u3'), .val (.ref b5), .val (.ref b7), .val (.ref b9), .val (.double r1'), .second, .val (.double r2'), .second, .val (.double r3'), .second, .unset, .unset, .unset, .unset] [(.int (1 : Int32))])) (fun t k => XS.iconst X16.here hx rfl (hb hby at_294) k) ?_
      refine own_retN X16 hx (t := .boolean) hret (by simp) hlk (hb hby at_295) ?_ (by decide) (by decide)
      exact ⟨rfl, N10⟩
  · refine own_go (U' := T16.setTop (mkF m 294 #[.val (.int p1), .val (.int p2), .val (.int p3), .val (.int p4), .val (.int p5), .val (.int x10), .val (.int x11), .val (.int i1'), .val (.int u1'), .val (.int x20), .val (.int x21), .val (.int i2'), .val (.int u2'), .val (.long kk), .second, .val (.int i3'), .val (.int u3'), .val (.ref b5), .val (.ref b7), .val (.ref b9), .val (.double r1'), .second, .val (.double r2'), .second, .val (.double r3'), .second, .unset, .unset, .unset, .unset] [])) (fun t k => XS.ifYes X16.here hx rfl (pc0 := 214) (pc' := 294) rfl (hb hby at_214) rfl ((if0 _ _).trans (flt hu1p).2.2.2) (by decide) (by decide) k) ?_
    refine own_go (U' := T16.setTop (mkF m 295 #[.val (.int p1), .val (.int p2), .val (.int p3), .val (.int p4), .val (.int p5), .val (.int x10), .val (.int x11), .val (.int i1'), .val (.int u1'), .val (.int x20), .val (.int x21), .val (.int i2'), .val (.int u2'), .val (.long kk), .second, .val (.int i3'), .val (.int u3'), .val (.ref b5), .val (.ref b7), .val (.ref b9), .val (.double r1'), .second, .val (.double r2'), .second, .val (.double r3'), .second, .unset, .unset, .unset, .unset] [(.int (1 : Int32))])) (fun t k => XS.iconst X16.here hx rfl (hb hby at_294) k) ?_
    refine own_retN X16 hx (t := .boolean) hret (by simp) hlk (hb hby at_295) ?_ (by decide) (by decide)
    exact ⟨rfl, N10⟩
set_option maxRecDepth 65536 in
set_option maxHeartbeats 40000000 in
theorem comes_1 {Post : Tables → Env → Array Value → State → Outcome → State → Prop} (hpost : ∀ tb e args s v u, (limb_1_1.after args s (.returned v) u = true ∧ limb_1_2.after args s (.returned v) u = true) → FrameEnd s (.returned v) u (Jvm.fieldLocs frame_1_writes args s ++ Jvm.arrayLocs frame_1_arrays args s ++ Jvm.staticLocs frame_1_statics s) 16 128 → Post tb e args s (.returned v) u) :
    ArmFor flags0 classFile x code maxLocals ret World_1 tables_1 room_1 Calls_1 rest_1 Pre_1 Post := by
  intro l hfl _ _ p e ha hc hk s m args below hf hA hF happ hP
  obtain ⟨hcalls, hrest, hpre⟩ := hP
  obtain ⟨-, -, -, hnamed, -, -, -, hat⟩ := (Spec.applies_iff hf).mp happ
  obtain ⟨hg, hn⟩ := and_e (Cond.before_iff.mp (show (Jvm.Cond.and given_1 narrow_1).before args s = true from hpre))
  obtain ⟨hcount, r0⟩ := and_e hg
  obtain ⟨g0, r1⟩ := and_e r0
  obtain ⟨g1, r2⟩ := and_e r1
  obtain ⟨g2, r3⟩ := and_e r2
  obtain ⟨g3, g4⟩ := and_e r3
  obtain ⟨w0, w1, w2, w3, w4, rfl⟩ : ∃ w0 w1 w2 w3 w4 : Value, args = #[w0, w1, w2, w3, w4] := by
    have hs : args.size = 5 := by simpa [Cond.value, given_1] using hcount
    obtain ⟨L⟩ := args
    match L, hs with
    | [w0, w1, w2, w3, w4], _ => exact ⟨w0, w1, w2, w3, w4, rfl⟩
  have hw := fun d (hd : d ∈ tables_1) => atoms_spec (ws := Jvm.Cond.code x code maxLocals ret :: tables_1) hat d (List.mem_cons_of_mem _ hd)
  have hfit : Fit s := fun {y c} hc i hi => by
    obtain ⟨ha, rfl⟩ := Array.getElem?_eq_some_iff.mp hc
    have q := List.all_eq_true.mp ((Array.all_eq_true_iff_forall_mem.mp hF) _ (Array.getElem_mem ha)) i (List.mem_range.mpr hi)
    simpa [Array.getElem?_eq_getElem hi] using q
  obtain ⟨i0, ei0⟩ := is_v g0
  obtain rfl : w0 = (.int i0) := Option.some.inj ei0
  obtain ⟨i1, ei1⟩ := is_v g1
  obtain rfl : w1 = (.int i1) := Option.some.inj ei1
  obtain ⟨i2, ei2⟩ := is_v g2
  obtain rfl : w2 = (.int i2) := Option.some.inj ei2
  obtain ⟨i3, ei3⟩ := is_v g3
  obtain rfl : w3 = (.int i3) := Option.some.inj ei3
  obtain ⟨i4, ei4⟩ := is_v g4
  obtain rfl : w4 = (.int i4) := Option.some.inj ei4
  obtain ⟨n, o, h1, h2, h3, _, L, rfl, ⟨rfl, N⟩, hq⟩ := own_rm0 l s _ hw tables_1 i0 i1 i2 i3 i4 s.heap s.heap.size (Old.start s) p e ha hc hk s m _ below hf ((Spec.applies_iff_loose hf).mp happ).1 ⟨rfl, State.Warmed39.refl s, rfl⟩ trivial
  refine ⟨n, _, h1, h2, h3, hpost _ _ _ _ _ _ ⟨Cond.after_iff.mpr rfl, Cond.after_iff.mpr (eq_i res_at (Term.int_eval (1)) rfl)⟩ ⟨hq.1, hq.2.1, (hq.2.2.sift fun y hy => Or.inr (N y hy)).mono (by decide) (by decide)⟩⟩
theorem main_1_1 : Claimed_1_1 := comes_1 fun _ _ _ _ _ _ h hF => ⟨h.1, hF⟩
theorem main_1_2 : Claimed_1_2 := comes_1 fun _ _ _ _ _ _ h hF => ⟨h.2, hF⟩
end Jvm.Pilot.@@N@@
namespace Jvm.Pilot.@@N@@
open Jvm Jvm.ClassFile Sem Op Lib Jvm.Free Jvm.Stand Jvm.Pilot.@@N@@.Jvm.D
/-! MADE BY PROGRAM (witnessworld.py) out of the Statement's table words and the real class files: 10 classes; the members and pool entries that the words name. The judged class is class 1, her method 2. -/
namespace start1
open Jvm.ClassFile
def u (s : String) : CpInfo := .utf8 (stringToUtf16 s)
/-- a pool by its gaps: so many unusable entries, then the entry; so many at the end -/
def gap : Nat → List CpInfo → List CpInfo
  | 0, r => r
  | n + 1, r => .unusable :: gap n r
def poolList (es : List (Nat × CpInfo)) (last : Nat) : List CpInfo := es.foldr (fun e r => gap e.1 (e.2 :: r)) (gap last [])
def pool (es : List (Nat × CpInfo)) (last : Nat) : Array CpInfo := ⟨poolList es last⟩
def fileOf (pool : Array CpInfo) (this : Nat) (attrs : Array Attribute := #[]) (ms : Array MethodInfo := #[]) (fl : Nat := 33) (sup : Nat := 0) (ifs : Array Nat := #[]) (fds : Array FieldInfo := #[]) : ClassFile where
  minorVersion := 0
  majorVersion := 65
  constantPool := pool
  accessFlags := fl
  thisClass := this
  superClass := sup
  interfaces := ifs
  fields := fds
  methods := ms
  attributes := attrs
def plain (name : String) (sup : Option ClassId) : Class where
  name := name
  kind := .ordinary
  loader := none
  accessFlags := 33
  super := sup
  interfaces := #[]
  cf := none
  fields := #[]
  methods := #[]
  instanceTypes := #[]
  staticTypes := #[]
  resolved := #[]
  callSites := []
  init := .initialized
  statics := none
  mirror := none

def pool0 : Array CpInfo := pool [(5, u "<init>"), (0, u "()V"), (1, .class_ 10), (1, u "java/lang/Object")] 113

def k0c0 : Code := { maxStack := 0, maxLocals := 1, code := object_method_1_code, exceptionTable := #[], attributes := #[] }
def k0m0 : Method := { name := "<init>", desc := "()V", sig := { parameters := [], returnType := none }, accessFlags := 1, code := some k0c0 }
/-- java/lang/Object -/
def k0 : Class := { plain "java/lang/Object" none with
  accessFlags := 33
  interfaces := #[]
  cf := some (fileOf pool0 8 #[] #[{ accessFlags := 1, nameIndex := 5, descriptorIndex := 6, attributes := #[] }] 33 0 #[] #[])
  fields := #[]
  methods := #[k0m0]
  instanceTypes := #[]
  staticTypes := #[]
  resolved := Array.replicate 124 none
  statics := none }

def pool1 : Array CpInfo := pool [(2, .class_ 4), (1, u "java/lang/Object"), (0, u "<init>"), (0, u "()V"), (0, .double 4382002437431492608), (1, .integer 2147483647), (0, .methodref 11 12), (0, .class_ 13), (0, .nameAndType 14 15), (0, u "java/lang/Math"), (0, u "min"), (0, u "(II)I"), (0, .methodref 11 17), (0, .nameAndType 18 15), (0, u "max"), (2, .long 2147483647), (1, .class_ 24), (0, u "com/example/minwise/minwise/model/Overlap"), (0, .methodref 23 26), (0, .nameAndType 5 27), (0, u "(II)V"), (0, .methodref 23 29), (0, .nameAndType 30 31), (0, u "resemblance"), (0, u "()D"), (0, .methodref 33 34), (0, .class_ 35), (0, .nameAndType 36 37), (0, u "com/example/minwise/minwise/model/OverlapResemblancePinLaw"), (0, u "single"), (0, u "(IID)Z"), (3, u "law"), (0, u "(IIIII)Z")] 2

def k1m0 : Method := { name := "<init>", desc := "()V", sig := { parameters := [], returnType := none }, accessFlags := 1, code := none }
def k1c1 : Code := { maxStack := 4, maxLocals := 8, code := method_2_code, exceptionTable := #[], attributes := #[] }
def k1m1 : Method := { name := "single", desc := "(IID)Z", sig := { parameters := [.int, .int, .double], returnType := some .boolean }, accessFlags := 10, code := some k1c1 }
def k1c2 : Code := { maxStack := 4, maxLocals := 30, code := code, exceptionTable := #[], attributes := #[] }
def k1m2 : Method := { name := "law", desc := "(IIIII)Z", sig := { parameters := [.int, .int, .int, .int, .int], returnType := some .boolean }, accessFlags := 9, code := some k1c2 }
/-- com/example/minwise/minwise/model/OverlapResemblancePinLaw -/
def k1 : Class := { plain "com/example/minwise/minwise/model/OverlapResemblancePinLaw" (some 0) with
  accessFlags := 49
  interfaces := #[]
  cf := some (fileOf pool1 33 #[] #[{ accessFlags := 1, nameIndex := 5, descriptorIndex := 6, attributes := #[] }, { accessFlags := 10, nameIndex := 36, descriptorIndex := 37, attributes := #[] }, { accessFlags := 9, nameIndex := 41, descriptorIndex := 42, attributes := #[] }] 49 2 #[] #[])
  fields := #[]
  methods := #[k1m0, k1m1, k1m2]
  instanceTypes := #[]
  staticTypes := #[]
  resolved := Array.replicate 45 none
  statics := none }

def pool2 : Array CpInfo := pool [(1, .class_ 2), (0, u "java/lang/Math"), (1, .class_ 6), (1, u "java/lang/Object"), (0, u "<init>"), (0, u "()V"), (89, .class_ 100), (1, u "java/lang/Math$RandomNumberGeneratorHolder"), (71, u "negativeZeroFloatBits"), (0, u "J"), (2, u "negativeZeroDoubleBits"), (21, u "max"), (2, u "min"), (43, u "$assertionsDisabled"), (0, u "Z"), (88, u "(II)I"), (2, u "twoToTheDoubleScaleDown"), (0, u "D"), (4, u "twoToTheDoubleScaleUp"), (9, u "E"), (3, u "PI"), (2, u "TAU"), (2, u "DEGREES_TO_RADIANS"), (0, u "RADIANS_TO_DEGREES")] 94

def k2m0 : Method := { name := "<init>", desc := "()V", sig := { parameters := [], returnType := none }, accessFlags := 2, code := none }
def k2c1 : Code := { maxStack := 2, maxLocals := 2, code := jdk_29_method_65_code, exceptionTable := #[], attributes := #[] }
def k2m1 : Method := { name := "max", desc := "(II)I", sig := { parameters := [.int, .int], returnType := some .int }, accessFlags := 9, code := some k2c1 }
def k2c2 : Code := { maxStack := 2, maxLocals := 2, code := jdk_29_method_69_code, exceptionTable := #[], attributes := #[] }
def k2m2 : Method := { name := "min", desc := "(II)I", sig := { parameters := [.int, .int], returnType := some .int }, accessFlags := 9, code := some k2c2 }
/-- java/lang/Math -/
def k2 : Class := { plain "java/lang/Math" (some 0) with
  accessFlags := 49
  interfaces := #[]
  cf := some (fileOf pool2 1 #[.nestMembers #[98]] #[{ accessFlags := 2, nameIndex := 7, descriptorIndex := 8, attributes := #[] }, { accessFlags := 9, nameIndex := 198, descriptorIndex := 335, attributes := #[] }, { accessFlags := 9, nameIndex := 201, descriptorIndex := 335, attributes := #[] }] 49 4 #[] #[{ accessFlags := 25, nameIndex := 354, descriptorIndex := 339, attributes := #[] }, { accessFlags := 25, nameIndex := 358, descriptorIndex := 339, attributes := #[] }, { accessFlags := 25, nameIndex := 361, descriptorIndex := 339, attributes := #[] }, { accessFlags := 26, nameIndex := 364, descriptorIndex := 339, attributes := #[] }, { accessFlags := 26, nameIndex := 365, descriptorIndex := 339, attributes := #[] }, { accessFlags := 26, nameIndex := 172, descriptorIndex := 173, attributes := #[] }, { accessFlags := 26, nameIndex := 176, descriptorIndex := 173, attributes := #[] }, { accessFlags := 8, nameIndex := 344, descriptorIndex := 339, attributes := #[] }, { accessFlags := 8, nameIndex := 338, descriptorIndex := 339, attributes := #[] }, { accessFlags := 4120, nameIndex := 245, descriptorIndex := 246, attributes := #[] }])
  fields := #[{ name := "E", type := .double, accessFlags := 25, slot := 0, constantValue := 0 }, { name := "PI", type := .double, accessFlags := 25, slot := 1, constantValue := 0 }, { name := "TAU", type := .double, accessFlags := 25, slot := 2, constantValue := 0 }, { name := "DEGREES_TO_RADIANS", type := .double, accessFlags := 26, slot := 3, constantValue := 0 }, { name := "RADIANS_TO_DEGREES", type := .double, accessFlags := 26, slot := 4, constantValue := 0 }, { name := "negativeZeroFloatBits", type := .long, accessFlags := 26, slot := 5, constantValue := 0 }, { name := "negativeZeroDoubleBits", type := .long, accessFlags := 26, slot := 6, constantValue := 0 }, { name := "twoToTheDoubleScaleUp", type := .double, accessFlags := 8, slot := 7, constantValue := 0 }, { name := "twoToTheDoubleScaleDown", type := .double, accessFlags := 8, slot := 8, constantValue := 0 }, { name := "$assertionsDisabled", type := .boolean, accessFlags := 4120, slot := 9, constantValue := 0 }]
  methods := #[k2m0, k2m1, k2m2]
  instanceTypes := #[]
  staticTypes := #[.double, .double, .double, .double, .double, .long, .long, .double, .double, .boolean]
  resolved := Array.replicate 460 none
  statics := none }

def pool3 : Array CpInfo := pool [(1, .methodref 2 3), (0, .class_ 4), (0, .nameAndType 5 6), (0, u "java/lang/Object"), (0, u "<init>"), (0, u "()V"), (9, .fieldref 17 18), (0, .class_ 19), (0, .nameAndType 20 21), (0, u "com/example/minwise/minwise/model/Overlap"), (0, u "intersection"), (0, u "I"), (0, .fieldref 17 23), (0, .nameAndType 24 21), (0, u "union"), (0, u "(II)V"), (4, u "resemblance"), (0, u "()D")] 17

def k3c0 : Code := { maxStack := 4, maxLocals := 3, code := prog_37_method_1_code, exceptionTable := #[], attributes := #[] }
def k3m0 : Method := { name := "<init>", desc := "(II)V", sig := { parameters := [.int, .int], returnType := none }, accessFlags := 1, code := some k3c0 }
def k3c1 : Code := { maxStack := 4, maxLocals := 1, code := prog_37_method_4_code, exceptionTable := #[], attributes := #[] }
def k3m1 : Method := { name := "resemblance", desc := "()D", sig := { parameters := [], returnType := some .double }, accessFlags := 1, code := some k3c1 }
/-- com/example/minwise/minwise/model/Overlap -/
def k3 : Class := { plain "com/example/minwise/minwise/model/Overlap" (some 0) with
  accessFlags := 49
  interfaces := #[]
  cf := some (fileOf pool3 17 #[] #[{ accessFlags := 1, nameIndex := 5, descriptorIndex := 25, attributes := #[] }, { accessFlags := 1, nameIndex := 30, descriptorIndex := 31, attributes := #[] }] 49 2 #[] #[{ accessFlags := 18, nameIndex := 20, descriptorIndex := 21, attributes := #[] }, { accessFlags := 18, nameIndex := 24, descriptorIndex := 21, attributes := #[] }])
  fields := #[{ name := "intersection", type := .int, accessFlags := 18, slot := 0, constantValue := 0 }, { name := "union", type := .int, accessFlags := 18, slot := 1, constantValue := 0 }]
  methods := #[k3m0, k3m1]
  instanceTypes := #[.int, .int]
  staticTypes := #[]
  resolved := Array.replicate 49 none
  statics := none }

def pool4 : Array CpInfo := pool [(1, u "java/lang/Cloneable"), (0, .class_ 1), (0, u "java/lang/Object"), (0, .class_ 3)] 3

/-- java/lang/Cloneable -/
def k4 : Class := { plain "java/lang/Cloneable" (some 0) with
  accessFlags := 1537
  interfaces := #[]
  cf := some (fileOf pool4 2 #[] #[] 1537 4 #[] #[])
  fields := #[]
  methods := #[]
  instanceTypes := #[]
  staticTypes := #[]
  resolved := Array.replicate 8 none
  statics := none }

def pool5 : Array CpInfo := pool [(1, u "java/io/Serializable"), (0, .class_ 1), (0, u "java/lang/Object"), (0, .class_ 3)] 3

/-- java/io/Serializable -/
def k5 : Class := { plain "java/io/Serializable" (some 0) with
  accessFlags := 1537
  interfaces := #[]
  cf := some (fileOf pool5 2 #[] #[] 1537 4 #[] #[])
  fields := #[]
  methods := #[]
  instanceTypes := #[]
  staticTypes := #[]
  resolved := Array.replicate 8 none
  statics := none }

/-- the primitive byte -/
def k6 : Class := { plain "byte" none with kind := .primitive 'B', accessFlags := 0x411 }
/-- [B -/
def k7 : Class := { plain "[B" (some 0) with kind := .array 6 .byte, interfaces := #[4, 5], accessFlags := 1041 }

/-- the primitive int -/
def k8 : Class := { plain "int" none with kind := .primitive 'I', accessFlags := 0x411 }
/-- [I -/
def k9 : Class := { plain "[I" (some 0) with kind := .array 8 .int, interfaces := #[4, 5], accessFlags := 1041 }

def heap : Heap := #[]
def classes : Array Class := #[k0, k1, k2, k3, k4, k5, k6, k7, k8, k9]
def interned : List (Array UInt16 × Addr) := []
def slotsUsed : Nat := 0
def theMethod : MethodId := ⟨1, 2⟩
def args0 : Array Value := #[.int 3, .int 7, .int 2, .int 5, .int 4]
def aboutOver (below : List Frame) : State where
  vm := { classes := classes, interned := interned.toArray }
  heap := heap
  slotsUsed := slotsUsed
  threads := #[{ frames := .invoking theMethod args0 :: below }]
def below0 : List Frame := [.native { method := ⟨0, 0⟩, args := #[] }]
def about1 : State := aboutOver below0
def p0 : Program := .bare "" "" ""
def e0 : Env := launch0.env 0 0 0
theorem w_frames : about1.frames = Frame.invoking theMethod args0 :: below0 := rfl
set_option maxRecDepth 65536 in
theorem w_args : argsFit about1.vm theMethod args0 = true := by decide +kernel
set_option maxRecDepth 65536 in
theorem w_heap : heapFits about1 = true := by decide +kernel
set_option maxRecDepth 65536 in
theorem w_runnable : about1.curStatus? = some .runnable := by decide +kernel
set_option maxRecDepth 65536 in
theorem w_alone : about1.alone = true := by decide +kernel
set_option maxRecDepth 65536 in
theorem w_named : about1.methodNamed? x = some theMethod := by decide +kernel
set_option maxRecDepth 65536 in
theorem w_hears : about1.hears theMethod below0 = true := by decide +kernel
set_option maxRecDepth 65536 in
theorem w_ripe : about1.ripe theMethod args0 below0 = true := by decide +kernel
theorem w_running : about1.status = .running := rfl
set_option maxRecDepth 65536 in
theorem w_room : about1.hasRoom e0.platform room_1 = true :=
  launch0.hasRoom_least _ room_1 (by decide +kernel) (by decide +kernel) (by decide +kernel) (by decide +kernel) (by decide +kernel) (by decide +kernel)
theorem allAtoms_all (ts : List Jvm.Cond) (a : Array Jvm.Value) (st : Jvm.State) : (allAtoms ts).before a st = ts.all (fun c => c.before a st) := by
  induction ts with
  | nil => rfl
  | cons c t ih =>
    show (Jvm.Cond.and c (allAtoms t)).before a st = _
    rw [Jvm.Cond.before_and, ih, List.all_cons]
def words1 : List Jvm.Cond := Jvm.Cond.code x code maxLocals ret :: tables_1
/-- a 'code' word, met by the world's own term for the bytes: nothing is compared byte by byte -/
theorem code_word {y : MethodName} {bytes : ByteArray} {mx : Nat} {rt : Option FieldType} {a : Array Value} {s : State} {m : MethodId} {meth : Method} {c : Code} (h1 : s.methodNamed? y = some m) (h2 : s.vm.method? m = some meth) (h3 : meth.code = some c) (h4 : c.code = bytes)
    (h5 : (c.maxLocals == mx && c.exceptionTable.isEmpty && decide (c.maxStack ≤ mostOperands) && decide (meth.sig.returnType = rt) && !meth.locks && decide (parseMethodDescriptor y.desc = some meth.sig)) = true) : (Jvm.Cond.code y bytes mx rt).before a s = true := by
  simp only [Bool.and_eq_true, beq_iff_eq, Bool.not_eq_true', decide_eq_true_eq] at h5
  obtain ⟨⟨⟨⟨⟨g1, g2⟩, g3⟩, g4⟩, g5⟩, g6⟩ := h5
  simp [Cond.before, Cond.holds, Cond.value, h1, h2, h3, h4, g1, g2, g3, g4, g5, g6]
def isCode : Jvm.Cond → Bool
  | .code _ _ _ _ => true
  | _ => false
theorem all_split {L : List Jvm.Cond} {P : Jvm.Cond → Bool} (h1 : L.all (fun c => isCode c || P c) = true) (h2 : ∀ c ∈ L.filter isCode, P c = true) : L.all P = true := by
  refine List.all_eq_true.mpr fun c hc => ?_
  have h := List.all_eq_true.mp h1 c hc
  rcases Bool.eq_false_or_eq_true (isCode c) with hi | hi
  · exact h2 c (List.mem_filter.mpr ⟨hc, hi⟩)
  · simpa [hi] using h
set_option maxRecDepth 65536 in
theorem w_c0 : (Jvm.Cond.code x code maxLocals ret).before args0 about1 = true := code_word (m := ⟨1, 2⟩) (meth := k1m2) (c := k1c2) (by decide +kernel) rfl rfl rfl (by decide +kernel)
set_option maxRecDepth 65536 in
theorem w_c1 : (Jvm.Cond.code ({ cls := "java/lang/Math", name := "min", desc := "(II)I" } : Jvm.MethodName) jdk_29_method_69_code (2 : Nat) (Option.some Jvm.ClassFile.FieldType.int)).before args0 about1 = true := code_word (m := ⟨2, 2⟩) (meth := k2m2) (c := k2c2) (by decide +kernel) rfl rfl rfl (by decide +kernel)
set_option maxRecDepth 65536 in
theorem w_c2 : (Jvm.Cond.code ({ cls := "java/lang/Math", name := "max", desc := "(II)I" } : Jvm.MethodName) jdk_29_method_65_code (2 : Nat) (Option.some Jvm.ClassFile.FieldType.int)).before args0 about1 = true := code_word (m := ⟨2, 1⟩) (meth := k2m1) (c := k2c1) (by decide +kernel) rfl rfl rfl (by decide +kernel)
set_option maxRecDepth 65536 in
theorem w_c3 : (Jvm.Cond.code ({ cls := "com/example/minwise/minwise/model/Overlap", name := "<init>", desc := "(II)V" } : Jvm.MethodName) prog_37_method_1_code (3 : Nat) (Option.none : Option Jvm.ClassFile.FieldType)).before args0 about1 = true := code_word (m := ⟨3, 0⟩) (meth := k3m0) (c := k3c0) (by decide +kernel) rfl rfl rfl (by decide +kernel)
set_option maxRecDepth 65536 in
theorem w_c4 : (Jvm.Cond.code ({ cls := "java/lang/Object", name := "<init>", desc := "()V" } : Jvm.MethodName) object_method_1_code (1 : Nat) (Option.none : Option Jvm.ClassFile.FieldType)).before args0 about1 = true := code_word (m := ⟨0, 0⟩) (meth := k0m0) (c := k0c0) (by decide +kernel) rfl rfl rfl (by decide +kernel)
set_option maxRecDepth 65536 in
theorem w_c5 : (Jvm.Cond.code ({ cls := "com/example/minwise/minwise/model/Overlap", name := "resemblance", desc := "()D" } : Jvm.MethodName) prog_37_method_4_code (1 : Nat) (Option.some Jvm.ClassFile.FieldType.double)).before args0 about1 = true := code_word (m := ⟨3, 1⟩) (meth := k3m1) (c := k3c1) (by decide +kernel) rfl rfl rfl (by decide +kernel)
set_option maxRecDepth 65536 in
theorem w_c6 : (Jvm.Cond.code ({ cls := "com/example/minwise/minwise/model/OverlapResemblancePinLaw", name := "single", desc := "(IID)Z" } : Jvm.MethodName) method_2_code (8 : Nat) (Option.some Jvm.ClassFile.FieldType.boolean)).before args0 about1 = true := code_word (m := ⟨1, 1⟩) (meth := k1m1) (c := k1c1) (by decide +kernel) rfl rfl rfl (by decide +kernel)
def codes1 : List Jvm.Cond := [Jvm.Cond.code x code maxLocals ret, Jvm.Cond.code ({ cls := "java/lang/Math", name := "min", desc := "(II)I" } : Jvm.MethodName) jdk_29_method_69_code (2 : Nat) (Option.some Jvm.ClassFile.FieldType.int), Jvm.Cond.code ({ cls := "java/lang/Math", name := "max", desc := "(II)I" } : Jvm.MethodName) jdk_29_method_65_code (2 : Nat) (Option.some Jvm.ClassFile.FieldType.int), Jvm.Cond.code ({ cls := "com/example/minwise/minwise/model/Overlap", name := "<init>", desc := "(II)V" } : Jvm.MethodName) prog_37_method_1_code (3 : Nat) (Option.none : Option Jvm.ClassFile.FieldType), Jvm.Cond.code ({ cls := "java/lang/Object", name := "<init>", desc := "()V" } : Jvm.MethodName) object_method_1_code (1 : Nat) (Option.none : Option Jvm.ClassFile.FieldType), Jvm.Cond.code ({ cls := "com/example/minwise/minwise/model/Overlap", name := "resemblance", desc := "()D" } : Jvm.MethodName) prog_37_method_4_code (1 : Nat) (Option.some Jvm.ClassFile.FieldType.double), Jvm.Cond.code ({ cls := "com/example/minwise/minwise/model/OverlapResemblancePinLaw", name := "single", desc := "(IID)Z" } : Jvm.MethodName) method_2_code (8 : Nat) (Option.some Jvm.ClassFile.FieldType.boolean)]
set_option maxRecDepth 65536 in
theorem codes_eq : words1.filter isCode = codes1 := rfl
theorem w_codes : ∀ c ∈ words1.filter isCode, c.before args0 about1 = true := by
  rw [codes_eq]
  intro c hc
  simp only [codes1, List.mem_cons, List.not_mem_nil, or_false] at hc
  rcases hc with rfl | rfl | rfl | rfl | rfl | rfl | rfl
  · exact w_c0
  · exact w_c1
  · exact w_c2
  · exact w_c3
  · exact w_c4
  · exact w_c5
  · exact w_c6
set_option maxRecDepth 65536 in
theorem w_t1 : (words1.take 24).all (fun c => isCode c || c.before args0 about1) = true := by decide +kernel
set_option maxRecDepth 65536 in
theorem w_t2 : (words1.drop 24).all (fun c => isCode c || c.before args0 about1) = true := by decide +kernel
theorem w_tables : (allAtoms (Jvm.Cond.code x code maxLocals ret :: tables_1)).before args0 about1 = true := by
  rw [allAtoms_all]
  show words1.all (fun c => c.before args0 about1) = true
  refine all_split ?_ w_codes
  rw [← List.take_append_drop 24 words1, List.all_append, w_t1, w_t2]
  rfl
set_option maxRecDepth 65536 in
theorem w_case : (Jvm.Cond.and given_1 narrow_1).before args0 about1 = true := by decide +kernel
theorem w_applies : (headSpec (Jvm.Cond.code x code maxLocals ret :: tables_1) room_1).applies x e0.platform about1 = true :=
  (Spec.applies_iff w_frames).mpr ⟨w_running, w_runnable, w_alone, w_named, w_hears, w_ripe, w_room, w_tables⟩
theorem atStart : AtStart classFile x code maxLocals ret World_1 tables_1 room_1 Calls_1 rest_1 Pre_1 launch0 p0 e0 about1 theMethod args0 below0 :=
  ⟨lists_1, trivial, launch0.admits_env _ _ _, launch0.least_env, fairChoices_fair.cas, fairChoices_fair.clock, w_frames, w_args, w_heap, w_applies, trivial, trivial, w_case⟩
end start1
theorem witness_1 : WitnessClaimed_1 := ⟨start1.p0, start1.e0, start1.about1, start1.theMethod, start1.args0, start1.below0, start1.atStart⟩
end Jvm.Pilot.@@N@@
