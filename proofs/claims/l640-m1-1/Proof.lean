import JvmDerived
import JvmDerived.Pilot.@@N@@Statement
import JvmDerived.Pilot.@@N@@Code
set_option linter.unusedVariables false
set_option linter.unusedSimpArgs false
namespace Jvm.Pilot.@@N@@
open Jvm Jvm.ClassFile Sem Op Lib Jvm.Free Jvm.Stand Jvm.LawKit Jvm.RoadKit Bundle Jvm.Pilot.@@N@@.Jvm.D
/-! own_: the walk's goal in one piece (from this state on the body returns, and what it leaves says Q), its steps, its ends, its calls -/
theorem own_succ (k : Nat) : Int32.ofNat (k + 1) = Int32.ofNat k + 1 := (Int32.ofNat_succ k).symm
theorem own_catR {v : Value} (h : v.isRef = true) : v.category = 1 := by rcases ref_cases h with rfl | ⟨a, rfl⟩ <;> rfl
theorem own_narR {v : Value} {t : FieldType} (h : v.isRef = true) : narrow t v = v := by rcases ref_cases h with rfl | ⟨a, rfl⟩ <;> cases t <;> rfl
theorem own_fitR {v : Value} {t : FieldType} (h : v.isRef = true) (ht : t.isReference = true) : fits t v = true := by rcases ref_cases h with rfl | ⟨a, rfl⟩ <;> cases t <;> first | rfl | cases ht
section OwnKit
variable {p : Program} {l : Launch} {e : Env} {R : Room} {s : State} {m : MethodId} {args : Array Value} {below : List Frame} {meth : Method} {c : Code} {T : State} {locs : List Loc} {cells slots : Nat} {Z : State} {a0 : Array Value} {h : Heap}
def own_Fin (p : Program) (e : Env) (below : List Frame) (s : State) (Q : Option Value → Heap → List Loc → Prop) (k n : Nat) (U : State) : Prop :=
  ∃ (s₂ : State) (o : Outcome), Steps p.tables e below U s₂ ∧ s₂.status = .running ∧ Ended s₂ below o ∧ ∃ v L, o = .returned v ∧ Q v s₂.heap L ∧ FrameEnd s o s₂ L k n
variable {Q : Option Value → Heap → List Loc → Prop} {k n : Nat}
theorem own_go {U U' : State} (st : ∀ t, Steps p.tables e below U' t → Steps p.tables e below U t) (F : own_Fin p e below s Q k n U') : own_Fin p e below s Q k n U := by
  obtain ⟨s2, o, h1, h2⟩ := F
  exact ⟨s2, o, st _ h1, h2⟩
theorem own_ret (X : Stand p l e R s m args below meth c T locs cells slots) (hx : p.tables.exec = Jvm.exec) {t : FieldType} (hret : meth.sig.returnType = some t) (hlk : meth.locks = false) {pc : Nat} {Ls : Array Slot} {w : Value} {i : Instr} {rest : List Value} (hn : narrow t w = w)
    (hi : (i = .ireturn ∧ (t = .int ∨ t = .boolean ∨ t = .byte ∨ t = .char ∨ t = .short) ∧ ∃ z, w = .int z) ∨ (i = .lreturn ∧ t = .long ∧ ∃ z, w = .long z) ∨ (i = .dreturn ∧ t = .double ∧ ∃ z, w = .double z) ∨ (i = .freturn ∧ t = .float ∧ ∃ z, w = .float z) ∨ (i = .areturn ∧ t.isReference = true ∧ w.isRef = true))
    (hd : decode c.code pc = .ok (i, 1)) (hQ : Q (some w) T.heap locs) (hc : cells ≤ k) (hs : slots ≤ n) : own_Fin p e below s Q k n (T.setTop (mkF m pc Ls (w :: rest))) := by
  obtain ⟨fs, hr, hrun, hended, hW, hsame⟩ := X.leave (v := some w) (fun h => by rw [hret] at h; cases h) hlk
  exact ⟨_, _, retOut X hx hret hn hi hd hr, hrun, hended, _, _, rfl, hQ, ⟨_, rfl⟩, hW, hsame.mono hc hs⟩
theorem own_retI (X : Stand p l e R s m args below meth c T locs cells slots) (hx : p.tables.exec = Jvm.exec) (hret : meth.sig.returnType = some .int) (hlk : meth.locks = false) {pc : Nat} {Ls : Array Slot} {z : Int32} {rest : List Value}
    (hd : decode c.code pc = .ok (.ireturn, 1)) (hQ : Q (some (.int z)) T.heap locs) (hc : cells ≤ k) (hs : slots ≤ n) : own_Fin p e below s Q k n (T.setTop (mkF m pc Ls (.int z :: rest))) :=
  own_ret X hx hret hlk rfl (Or.inl ⟨rfl, Or.inl rfl, z, rfl⟩) hd hQ hc hs
theorem own_retN (X : Stand p l e R s m args below meth c T locs cells slots) (hx : p.tables.exec = Jvm.exec) {t : FieldType} (hret : meth.sig.returnType = some t) (ht : t = .boolean ∨ t = .byte ∨ t = .char ∨ t = .short) (hlk : meth.locks = false) {pc : Nat} {Ls : Array Slot} {z : Int32} {rest : List Value}
    (hd : decode c.code pc = .ok (.ireturn, 1)) (hQ : Q (some (.int (nar t z))) T.heap locs) (hc : cells ≤ k) (hs : slots ≤ n) : own_Fin p e below s Q k n (T.setTop (mkF m pc Ls (.int z :: rest))) := by
  obtain ⟨fs, hr, hrun, hended, hW, hsame⟩ := X.leave (v := some (.int (nar t z))) (fun h => by rw [hret] at h; cases h) hlk
  exact ⟨_, _, retN X hx hret ht hd hr, hrun, hended, _, _, rfl, hQ, ⟨_, rfl⟩, hW, hsame.mono hc hs⟩
theorem own_retL (X : Stand p l e R s m args below meth c T locs cells slots) (hx : p.tables.exec = Jvm.exec) (hret : meth.sig.returnType = some .long) (hlk : meth.locks = false) {pc : Nat} {Ls : Array Slot} {z : Int64} {rest : List Value}
    (hd : decode c.code pc = .ok (.lreturn, 1)) (hQ : Q (some (.long z)) T.heap locs) (hc : cells ≤ k) (hs : slots ≤ n) : own_Fin p e below s Q k n (T.setTop (mkF m pc Ls (.long z :: rest))) :=
  own_ret X hx hret hlk rfl (Or.inr (Or.inl ⟨rfl, rfl, z, rfl⟩)) hd hQ hc hs
theorem own_retA (X : Stand p l e R s m args below meth c T locs cells slots) (hx : p.tables.exec = Jvm.exec) {t : FieldType} (hret : meth.sig.returnType = some t) (ht : t.isReference = true) (hlk : meth.locks = false) {pc : Nat} {Ls : Array Slot} {w : Value} {rest : List Value} (hw : w.isRef = true)
    (hd : decode c.code pc = .ok (.areturn, 1)) (hQ : Q (some w) T.heap locs) (hc : cells ≤ k) (hs : slots ≤ n) : own_Fin p e below s Q k n (T.setTop (mkF m pc Ls (w :: rest))) :=
  own_ret X hx hret hlk (by rcases ref_cases hw with rfl | ⟨z, rfl⟩ <;> cases t <;> rfl) (Or.inr (Or.inr (Or.inr (Or.inr ⟨rfl, ht, hw⟩)))) hd hQ hc hs
theorem own_retV (X : Stand p l e R s m args below meth c T locs cells slots) (hx : p.tables.exec = Jvm.exec) (hret : meth.sig.returnType = none) (hlk : meth.locks = false) {pc : Nat} {Ls : Array Slot}
    (hd : decode c.code pc = .ok (.return_, 1)) (hQ : Q none T.heap locs) (hc : cells ≤ k) (hs : slots ≤ n) : own_Fin p e below s Q k n (T.setTop (mkF m pc Ls [])) := by
  obtain ⟨fs, hr, hrun, hended, hW, hsame⟩ := X.leave (v := none) (fun _ => rfl) hlk
  exact ⟨_, _, X.returnOut hx hret hd hr, hrun, hended, _, _, rfl, hQ, ⟨_, rfl⟩, hW, hsame.mono hc hs⟩
/-- a body's contract: called with these arguments at this heap it returns, and what it leaves says Q -/
abbrev own_C (l : Launch) (Z : State) (y : MethodName) (bytes : ByteArray) (maxL : Nat) (ret : Option FieldType) (ws : List Jvm.Cond) (rm : Room) (as' : Array Value) (h0 : Heap) (Q : Option Value → Heap → List Loc → Prop) : Prop :=
  MetFree l y (head1 (Jvm.Cond.code y bytes maxL ret :: ws) rm) (fun a U => a = as' ∧ Z.Warmed39 U.vm ∧ U.heap = h0) (fun _ _ _ _ _ => True) (fun _ U o U' => ∃ v L, o = .returned v ∧ Q v U'.heap L ∧ FrameEnd U o U' L rm.cells rm.slots)
theorem own_body {y : MethodName} {bytes : ByteArray} {maxL : Nat} {ret : Option FieldType} {ws : List Jvm.Cond} {rm : Room} {as' : Array Value} {h0 : Heap} (hpn : plainFor y = true)
    (body : ∀ (p : Program) (e : Env) (s : State) (m : MethodId) (below : List Frame) (meth : Method) (c : Code) (s₁ : State), p.tables.exec = Jvm.exec → c.code = bytes → c.maxLocals = maxL → meth.sig.returnType = ret → meth.locks = false → s.vm.findClass y.cls = some m.cls → meth.name = y.name → Z.Warmed39 s.vm →
      Stand p l e rm s m as' below meth c s₁ [] 0 0 → s₁.heap = h0 → own_Fin p e below s Q rm.cells rm.slots (s₁.setTop (entryFrame m as' maxL))) : own_C l Z y bytes maxL ret ws rm as' h0 Q := by
  refine MetFree.of_bodySF hpn hisR ?_
  intro p e s m args below meth c s₁ Bd hml0 hP hK
  obtain ⟨rfl, hZ, hh⟩ := hP
  exact body p e s m below meth c s₁ Bd.exec Bd.bytes hml0 Bd.returns Bd.notSynchronized (findClass_of_methodNamed Bd.named) (name_of_methodNamed Bd.named Bd.method).1 hZ (Stand.of_body Bd) (by rw [← hh, Bd.state]; rfl)
theorem own_callS (X : Stand p l e R s m args below meth c T locs cells slots) (hx : p.tables.exec = Jvm.exec) (hZ : Z.Warmed39 s.vm) {own : String} {index : Nat} {y : MethodName} {bytes : ByteArray} {maxL : Nat} {ret : Option FieldType} (hown : s.vm.findClass own = some m.cls)
    (w1 : (Cond.methodLink own index y).before a0 Z = true) (w2 : (Cond.static y).before a0 Z = true) (w3 : (Cond.initialized y.cls).before a0 Z = true) (w4 : (Cond.code y bytes maxL ret).before a0 Z = true) (hy : y.cls ≠ "java/lang/invoke/MethodHandle" ∧ y.cls ≠ "java/lang/invoke/VarHandle")
    {rm : Room} {argsL rest : List Value} {as' : Array Value} (hM : own_C l Z y bytes maxL ret [] rm as' h Q) {W : Nat} (hf : rm.frames + 1 ≤ R.frames) (hl : W + (maxL + 11) + rm.locals ≤ R.locals) {g : JFrame} (hg : g.method = m) (hsize : g.locals.size = c.maxLocals)
    (hlen : ∀ sig, parseMethodDescriptor y.desc = some sig → argsL.length = sig.parameters.length) (hstack : g.stack = argsL.reverse ++ rest) (has : argsL.toArray = as') (hW : 2 * g.monitorRoom + (rest.map fun v => v.category).sum ≤ W) (hdg : decode c.code g.pc = .ok (.invokestatic index, 3)) (eT : T.heap = h)
    (hc : cells + rm.cells ≤ R.cells) (hs : slots + rm.slots ≤ R.slots) :
    ∃ (v : Option Value) (T' : State) (h' : Heap) (L : List Loc), T'.heap = h' ∧ Stand p l e R s m args below meth c T' (locs ++ L) (cells + rm.cells) (slots + rm.slots) ∧ Q v h' L ∧ ∀ target, Steps p.tables e below (T'.setTop { g with pc := g.pc + 3, stack := v.toList ++ rest }) target → Steps p.tables e below (T.setTop g) target := by
  obtain ⟨v, vm, ⟨T', L', k', n'⟩, -, X', ⟨Lc, hQ, l1, y1, z1⟩, st⟩ := Jvm.LawKit.callS X hx (y := y) hown (mvT hZ w1) (mvT hZ w2) (mvT hZ w3) (mvT hZ w4) hy (backOf (W := W) hM hZ w4 w3 hf hl) hg hsize hlen hstack hW hdg (fun _ _ => ⟨has, eT, hc, hs⟩)
  dsimp only [Pt.U, Pt.locs, Pt.cells, Pt.slots] at X' l1 y1 z1 st hQ
  subst l1 y1 z1
  exact ⟨v, T', _, Lc, rfl, X', hQ, st⟩
theorem own_callC (X : Stand p l e R s m args below meth c T locs cells slots) (hx : p.tables.exec = Jvm.exec) (hZ : Z.Warmed39 s.vm) {own : String} {index : Nat} {y : MethodName} {bytes : ByteArray} {maxL : Nat} (hy1 : y.name = "<init>") (hown : s.vm.findClass own = some m.cls)
    (w1 : (Cond.methodLink own index y).before a0 Z = true) (w2 : (Cond.instanceMethod y).before a0 Z = true) (w3 : (Cond.initialized y.cls).before a0 Z = true) (w4 : (Cond.code y bytes maxL none).before a0 Z = true) (hy : y.cls ≠ "java/lang/invoke/MethodHandle" ∧ y.cls ≠ "java/lang/invoke/VarHandle")
    {rm : Room} {a : Addr} {argsL rest : List Value} {as' : Array Value} (hM : own_C l Z y bytes maxL none [] rm as' h Q) {W : Nat} (hf : rm.frames + 1 ≤ R.frames) (hl : W + (maxL + 11) + rm.locals ≤ R.locals) {g : JFrame} (hg : g.method = m) (hsize : g.locals.size = c.maxLocals)
    (hlen : ∀ sig, parseMethodDescriptor y.desc = some sig → argsL.length = sig.parameters.length) (hstack : g.stack = argsL.reverse ++ .ref a :: rest) (has : (.ref a :: argsL).toArray = as') (hW : 2 * g.monitorRoom + (rest.map fun v => v.category).sum ≤ W) (hdg : decode c.code g.pc = .ok (.invokespecial index, 3)) (eT : T.heap = h)
    (hc : cells + rm.cells ≤ R.cells) (hs : slots + rm.slots ≤ R.slots) :
    ∃ (v : Option Value) (T' : State) (h' : Heap) (L : List Loc), T'.heap = h' ∧ Stand p l e R s m args below meth c T' (locs ++ L) (cells + rm.cells) (slots + rm.slots) ∧ Q v h' L ∧ ∀ target, Steps p.tables e below (T'.setTop { g with pc := g.pc + 3, stack := v.toList ++ rest }) target → Steps p.tables e below (T.setTop g) target := by
  obtain ⟨v, vm, ⟨T', L', k', n'⟩, -, X', ⟨Lc, hQ, l1, y1, z1⟩, st⟩ := X.specialBack hx (y := y) hy1 hown (mvT hZ w1) (mvT hZ w2) (mvT hZ w4) hy (backOf (W := W) hM hZ w4 w3 hf hl) hg hsize (Steps.refl _) hlen hstack hW hdg (fun _ _ => ⟨has, eT, hc, hs⟩)
  dsimp only [Pt.U, Pt.locs, Pt.cells, Pt.slots] at X' l1 y1 z1 st hQ
  subst l1 y1 z1
  exact ⟨v, T', _, Lc, rfl, X', hQ, fun _ k => st.trans k⟩
theorem own_callV (X : Stand p l e R s m args below meth c T locs cells slots) (hx : p.tables.exec = Jvm.exec) (hZ : Z.Warmed39 s.vm) {own C : String} {index : Nat} {y z : MethodName} {bytes : ByteArray} {maxL : Nat} {ret : Option FieldType} (hown : s.vm.findClass own = some m.cls)
    (w1 : (Cond.methodLink own index y).before a0 Z = true) (w2 : (Cond.declares y).before a0 Z = true) (hnf : NotFace s y) (w5 : (Cond.selects C y z).before a0 Z = true) (w6 : (Cond.instanceMethod z).before a0 Z = true) (w3 : (Cond.initialized z.cls).before a0 Z = true) (w4 : (Cond.code z bytes maxL ret).before a0 Z = true) (hy : y.cls ≠ "java/lang/invoke/MethodHandle" ∧ y.cls ≠ "java/lang/invoke/VarHandle")
    {rm : Room} {a : Addr} (E : Exa Z h a C) {argsL rest : List Value} {as' : Array Value} (hM : own_C l Z z bytes maxL ret [] rm as' h Q) {W : Nat} (hf : rm.frames + 1 ≤ R.frames) (hl : W + (maxL + 11) + rm.locals ≤ R.locals) {g : JFrame} (hg : g.method = m) (hsize : g.locals.size = c.maxLocals)
    (hlen : ∀ sig, parseMethodDescriptor y.desc = some sig → argsL.length = sig.parameters.length) (hstack : g.stack = argsL.reverse ++ .ref a :: rest) (has : (.ref a :: argsL).toArray = as') (hW : 2 * g.monitorRoom + (rest.map fun v => v.category).sum ≤ W) (hdg : decode c.code g.pc = .ok (.invokevirtual index, 3)) (eT : T.heap = h)
    (hc : cells + rm.cells ≤ R.cells) (hs : slots + rm.slots ≤ R.slots) :
    ∃ (v : Option Value) (T' : State) (h' : Heap) (L : List Loc), T'.heap = h' ∧ Stand p l e R s m args below meth c T' (locs ++ L) (cells + rm.cells) (slots + rm.slots) ∧ Q v h' L ∧ ∀ target, Steps p.tables e below (T'.setTop { g with pc := g.pc + 3, stack := v.toList ++ rest }) target → Steps p.tables e below (T.setTop g) target := by
  obtain ⟨cq, kq, qa, qb, qc⟩ := isOf hZ eT E
  obtain ⟨v, vm, ⟨T', L', k', n'⟩, -, X', ⟨Lc, hQ, l1, y1, z1⟩, st⟩ := X.virtualBack hx (y := y) (z := z) hown (mvT hZ w1) (mvT hZ w2) hnf (mvT hZ w5) (mvT hZ w6) hy (backOf (W := W) hM hZ w4 w3 hf hl) qa qc hg hsize (Steps.refl _) hlen hstack hW hdg (fun _ _ => ⟨has, eT, hc, hs⟩)
  dsimp only [Pt.U, Pt.locs, Pt.cells, Pt.slots] at X' l1 y1 z1 st hQ
  subst l1 y1 z1
  exact ⟨v, T', _, Lc, rfl, X', hQ, fun _ k => st.trans k⟩
theorem own_callI (X : Stand p l e R s m args below meth c T locs cells slots) (hx : p.tables.exec = Jvm.exec) (hZ : Z.Warmed39 s.vm) {own C : String} {index count : Nat} {y z : MethodName} {bytes : ByteArray} {maxL : Nat} {ret : Option FieldType} (hown : s.vm.findClass own = some m.cls)
    (w1 : (Cond.methodLink own index y).before a0 Z = true) (w2 : (Cond.declares y).before a0 Z = true) (w7 : (Cond.interfaceMethod y.cls y.cls y.name y.desc).before args s = true) (w5 : (Cond.selects C y z).before a0 Z = true) (w6 : (Cond.instanceMethod z).before a0 Z = true) (w8 : (Cond.publicMethod z).before a0 Z = true)
    (w9 : (Cond.unhidden C y.name y.desc).before a0 Z = true) (w10 : (Cond.castable C y.cls).before a0 Z = true) (w3 : (Cond.initialized z.cls).before a0 Z = true) (w4 : (Cond.code z bytes maxL ret).before a0 Z = true) (hy : y.cls ≠ "java/lang/invoke/MethodHandle" ∧ y.cls ≠ "java/lang/invoke/VarHandle")
    {rm : Room} {a : Addr} (E : Exa Z h a C) {argsL rest : List Value} {as' : Array Value} (hM : own_C l Z z bytes maxL ret [] rm as' h Q) {W : Nat} (hf : rm.frames + 1 ≤ R.frames) (hl : W + (maxL + 11) + rm.locals ≤ R.locals) {g : JFrame} (hg : g.method = m) (hsize : g.locals.size = c.maxLocals)
    (hlen : ∀ sig, parseMethodDescriptor y.desc = some sig → argsL.length = sig.parameters.length) (hstack : g.stack = argsL.reverse ++ .ref a :: rest) (has : (.ref a :: argsL).toArray = as') (hW : 2 * g.monitorRoom + (rest.map fun v => v.category).sum ≤ W) (hdg : decode c.code g.pc = .ok (.invokeinterface index count, 5)) (eT : T.heap = h)
    (hc : cells + rm.cells ≤ R.cells) (hs : slots + rm.slots ≤ R.slots) :
    ∃ (v : Option Value) (T' : State) (h' : Heap) (L : List Loc), T'.heap = h' ∧ Stand p l e R s m args below meth c T' (locs ++ L) (cells + rm.cells) (slots + rm.slots) ∧ Q v h' L ∧ ∀ target, Steps p.tables e below (T'.setTop { g with pc := g.pc + 5, stack := v.toList ++ rest }) target → Steps p.tables e below (T.setTop g) target := by
  obtain ⟨cq, kq, qa, qb, qc⟩ := isOf hZ eT E
  obtain ⟨v, vm, ⟨T', L', k', n'⟩, -, X', ⟨Lc, hQ, l1, y1, z1⟩, st⟩ := X.interfaceBack hx (xi := y) (y := z) hown (mvT hZ w1) (mvT hZ w2) w7 (mvT hZ w5) (mvT hZ w6) (mvT hZ w8) (mvT hZ w9) (mvT hZ w10) hy (backOf (W := W) hM hZ w4 w3 hf hl) qa qb qc hg hsize (Steps.refl _) hlen hstack hW hdg (fun _ _ => ⟨has, eT, hc, hs⟩)
  dsimp only [Pt.U, Pt.locs, Pt.cells, Pt.slots] at X' l1 y1 z1 st hQ
  subst l1 y1 z1
  exact ⟨v, T', _, Lc, rfl, X', hQ, fun _ k => st.trans k⟩
theorem own_callP (X : Stand p l e R s m args below meth c T locs cells slots) (hx : p.tables.exec = Jvm.exec) (hZ : Z.Warmed39 s.vm) {own C : String} {index : Nat} {y : MethodName} {bytes : ByteArray} {maxL : Nat} {ret : Option FieldType} (hown : s.vm.findClass own = some m.cls)
    (w1 : (Cond.methodLink own index y).before a0 Z = true) (w6 : (Cond.instanceMethod y).before a0 Z = true) (w5 : (Cond.selects y.cls y y).before a0 Z = true) (w7 : (Cond.privateMethod y).before a0 Z = true) (w3 : (Cond.initialized y.cls).before a0 Z = true) (w4 : (Cond.code y bytes maxL ret).before a0 Z = true) (hy : y.cls ≠ "java/lang/invoke/MethodHandle" ∧ y.cls ≠ "java/lang/invoke/VarHandle")
    {rm : Room} {a : Addr} (E : Exa Z h a C) {argsL rest : List Value} {as' : Array Value} (hM : own_C l Z y bytes maxL ret [] rm as' h Q) {W : Nat} (hf : rm.frames + 1 ≤ R.frames) (hl : W + (maxL + 11) + rm.locals ≤ R.locals) {g : JFrame} (hg : g.method = m) (hsize : g.locals.size = c.maxLocals)
    (hlen : ∀ sig, parseMethodDescriptor y.desc = some sig → argsL.length = sig.parameters.length) (hstack : g.stack = argsL.reverse ++ .ref a :: rest) (has : (.ref a :: argsL).toArray = as') (hW : 2 * g.monitorRoom + (rest.map fun v => v.category).sum ≤ W) (hdg : decode c.code g.pc = .ok (.invokevirtual index, 3)) (eT : T.heap = h)
    (hc : cells + rm.cells ≤ R.cells) (hs : slots + rm.slots ≤ R.slots) :
    ∃ (v : Option Value) (T' : State) (h' : Heap) (L : List Loc), T'.heap = h' ∧ Stand p l e R s m args below meth c T' (locs ++ L) (cells + rm.cells) (slots + rm.slots) ∧ Q v h' L ∧ ∀ target, Steps p.tables e below (T'.setTop { g with pc := g.pc + 3, stack := v.toList ++ rest }) target → Steps p.tables e below (T.setTop g) target := by
  obtain ⟨cq, q, q'⟩ := E.cell
  obtain ⟨v, vm, ⟨T', L', k', n'⟩, -, X', ⟨Lc, hQ, l1, y1, z1⟩, st⟩ := X.privateBack hx (y := y) hown (mvT hZ w1) (mvT hZ w6) (mvT hZ w5) (Cond.privateMethod_at (mvP hZ w7 (args := #[]))) (mvT hZ w4) hy (backOf (W := W) hM hZ w4 w3 hf hl) hg hsize (Steps.refl _) (a := a) (by rw [eT]; exact q) q' hlen hstack hW hdg (fun _ _ => ⟨has, eT, hc, hs⟩)
  dsimp only [Pt.U, Pt.locs, Pt.cells, Pt.slots] at X' l1 y1 z1 st hQ
  subst l1 y1 z1
  exact ⟨v, T', _, Lc, rfl, X', hQ, fun _ k => st.trans k⟩
theorem own_lremM {g : JFrame} {target : State} (X : Stand p l e R s m args below meth c T locs cells slots) (hx : p.tables.exec = Jvm.exec) (hg : g.method = m) {x y : Int64} {rest : List Value} (hd : decode c.code g.pc = .ok (.lrem, 1)) (hs : g.stack = .long y :: .long x :: rest) (hy : y ≠ 0)
    (hr : Steps p.tables e below (T.setTop { g with pc := g.pc + 1, stack := .long (x % y) :: rest }) target) : Steps p.tables e below (T.setTop g) target :=
  XS.lrem X.here hx hg hd hs hy (by rw [lrem_mod]; exact hr)
theorem own_mono (X : Stand p l e R s m args below meth c T locs cells slots) {cells' slots' : Nat} (hc : cells ≤ cells') (hs : slots ≤ slots') : Stand p l e R s m args below meth c T locs cells' slots' :=
  ⟨X.admits, X.cas, X.clock, X.frames, X.room, X.hears, X.method, X.code, X.here, X.tail, X.warmed, X.limits, X.bytes, X.same.mono hc hs⟩
end OwnKit
section OwnRef
variable {p : Program} {l : Launch} {e : Env} {R : Room} {s : State} {m : MethodId} {args : Array Value} {below : List Frame} {meth : Method} {c : Code} {T : State} {locs : List Loc} {cells slots : Nat} {Z : State} {a0 : Array Value} {h : Heap} {Q : Option Value → Heap → List Loc → Prop}
/-- a constructor whose pool entry stands resolved ('methodRef'), by its contract -/
theorem own_callR (X : Stand p l e R s m args below meth c T locs cells slots) (hx : p.tables.exec = Jvm.exec) (hZ : Z.Warmed39 s.vm) {own : String} {index : Nat} {y : MethodName} {bytes : ByteArray} {maxL : Nat} (hy1 : y.name = "<init>") (hown : s.vm.findClass own = some m.cls)
    (w1 : (Cond.methodRef own index y).before a0 Z = true) (w2 : (Cond.instanceMethod y).before a0 Z = true) (w3 : (Cond.initialized y.cls).before a0 Z = true) (w4 : (Cond.code y bytes maxL none).before a0 Z = true) (hy : y.cls ≠ "java/lang/invoke/MethodHandle" ∧ y.cls ≠ "java/lang/invoke/VarHandle")
    {rm : Room} {a : Addr} {argsL rest : List Value} {as' : Array Value} (hM : own_C l Z y bytes maxL none [] rm as' h Q) {W : Nat} (hf : rm.frames + 1 ≤ R.frames) (hl : W + (maxL + 11) + rm.locals ≤ R.locals) {g : JFrame} (hg : g.method = m) (hsize : g.locals.size = c.maxLocals)
    (hlen : ∀ sig, parseMethodDescriptor y.desc = some sig → argsL.length = sig.parameters.length) (hstack : g.stack = argsL.reverse ++ .ref a :: rest) (has : (.ref a :: argsL).toArray = as') (hW : 2 * g.monitorRoom + (rest.map fun v => v.category).sum ≤ W) (hdg : decode c.code g.pc = .ok (.invokespecial index, 3)) (eT : T.heap = h)
    (hc : cells + rm.cells ≤ R.cells) (hs : slots + rm.slots ≤ R.slots) :
    ∃ (v : Option Value) (T' : State) (h' : Heap) (L : List Loc), T'.heap = h' ∧ Stand p l e R s m args below meth c T' (locs ++ L) (cells + rm.cells) (slots + rm.slots) ∧ Q v h' L ∧ ∀ target, Steps p.tables e below (T'.setTop { g with pc := g.pc + 3, stack := v.toList ++ rest }) target → Steps p.tables e below (T.setTop g) target := by
  have hT : Z.Warmed39 T.vm := wtrans hZ X.warmed
  obtain ⟨mk, methM, hnamed, hmethM, hstM, habM⟩ := Cond.instanceMethod_spec (mvT hZ w2 : (Cond.instanceMethod y).before args s = true)
  obtain ⟨methM', cM, hmethM', -, -, -, -, -, -, hsigM⟩ := Cond.code_spec hnamed (mvT hZ w4 : (Cond.code y bytes maxL none).before args s = true)
  cases hmethM.symm.trans hmethM'
  have hnT : T.methodNamed? y = some mk := X.named hnamed
  have hnZT : (Z.setVm T.vm).methodNamed? y = some mk := by rw [State.methodNamed?_of_vm (U := Z.setVm T.vm) (V := T) rfl]; exact hnT
  have hnZ : Z.methodNamed? y = some mk := by rw [State.methodNamed?_setVm hT.alike] at hnZT; exact hnZT
  have hw : (Cond.methodRef own index y).before a0 (Z.setVm T.vm) = true := Cond.methodRef_warmed39 hT hnZ hy w1
  have hcur : (Z.setVm T.vm).vm.findClass own = some m.cls := by
    show T.vm.findClass own = some m.cls
    rw [X.warmed.alike.findClass]; exact hown
  obtain ⟨m', c', hm', hready, hfind, hnr⟩ := Cond.methodRef_named e (s := Z.setVm T.vm) hcur hw
  cases (State.methodFound?_of_named hnZT hy).symm.trans hm'
  cases (findClass_of_methodNamed hnZT).symm.trans hfind
  obtain ⟨kO, hkO, hnameO⟩ := className_of_methodNamed hnT
  have hmT : T.vm.method? mk = some methM := by rw [X.warmed.alike.method?]; exact hmethM
  obtain ⟨hnameMO, hdescO⟩ := name_of_methodNamed hnT hmT
  have hfound : lookupSpecial T.vm mk.cls "<init>" methM.desc = .method mk := by
    rw [hdescO, ← hy1]; exact lookupSpecial_of_named hnT hmT hstM
  obtain ⟨v, ⟨T', L', k', n'⟩, X', ⟨Lc, hQ, l1, y1, z1⟩, hsteps⟩ := backOf (W := W) (len := 3) hM hZ w4 w3 hf hl m meth c ⟨T, locs, cells, slots⟩ { g with stack := rest } (.invokespecial index) mk (.ref a :: argsL).toArray X hg hsize hdg hW hnT ⟨has, eT, hc, hs⟩
  dsimp only [Pt.U, Pt.locs, Pt.cells, Pt.slots] at X' l1 y1 z1 hsteps hQ
  subst l1 y1 z1
  refine ⟨v, T', _, Lc, rfl, X', hQ, fun target k => ?_⟩
  subst hg
  jvm_step X.here [X.here.top, hx, hdg, invokespecial.wp_init (e := e) (s := T) (f := g) (k := kO) (meth := methM) (m := mk) (a := a) (args := argsL) (rest := rest) X.here.top hnr hready hkO hmT (hnameMO.trans hy1) hstM habM hfound (hlen _ hsigM) hstack]
  first | (intro acts; rw [doInvoke_state]; exact hsteps.trans k) | (rw [doInvoke_state]; exact hsteps.trans k)
/-- a private method's own 'selects' word, out of another one of its class -/
theorem own_selP {C : String} {y y0 : MethodName} (w : (Cond.selects C y0 y0).before a0 Z = true) (h0 : y0.cls = y.cls) (wp : (Cond.privateMethod y).before a0 Z = true) (wi : (Cond.instanceMethod y).before a0 Z = true) (hy : y.cls ≠ "java/lang/invoke/MethodHandle" ∧ y.cls ≠ "java/lang/invoke/VarHandle") : (Cond.selects y.cls y y).before a0 Z = true := by
  obtain ⟨c, r, m, -, -, hm, -, k, hk, hi⟩ := Cond.selects_spec w
  exact Jvm.Stand.selects_self_of_private (h0 ▸ findClass_of_methodNamed hm) hk hi (Cond.privateMethod_at wp) wi hy
end OwnRef
section OwnArr
variable {Z : State} {h h' : Heap} {a b : Addr} {k : ClassId} {ty : FieldType} {vs : List Value} {v : Value} {sl : Nat} {wl : List Addr}
/-- the array at a holds just these values -/
def own_Ar (Z : State) (h : Heap) (a : Addr) (k : ClassId) (ty : FieldType) (vs : List Value) : Prop := ∃ c : Cell, Arr Z h a c ty ∧ c.cls = k ∧ c.slots = vs.toArray ∧ vs.length < 2 ^ 31 ∧ ∀ v ∈ vs, fits ty v = true
theorem own_Ar.lt (F : own_Ar Z h a k ty vs) : a < h.size := by obtain ⟨c, A, -⟩ := F; exact A.lt
theorem own_Ar.ext (F : own_Ar Z h a k ty vs) (E : Ext h h') : own_Ar Z h' a k ty vs := by obtain ⟨c, A, r⟩ := F; exact ⟨c, A.ext E, r⟩
theorem own_Ar.other (F : own_Ar Z h b k ty vs) (W : Wr h h' a sl v) (q : b ≠ a) : own_Ar Z h' b k ty vs := by obtain ⟨c, A, r⟩ := F; exact ⟨c, A.other W q, r⟩
theorem own_Ar.keep (F : own_Ar Z h a k ty vs) (K : Keep h h' wl) (q : a ∉ wl) : own_Ar Z h' a k ty vs := by obtain ⟨c, A, r⟩ := F; exact ⟨c, ⟨K.2.1 _ _ A.1 q, A.2⟩, r⟩
theorem own_Ar.new {z : Int32} (A : Arr Z h a (newA k ty z) ty) (hf : fits ty (defaultValue ty) = true) : own_Ar Z h a k ty (List.replicate z.toNatClampNeg (defaultValue ty)) := by
  refine ⟨_, A, rfl, by simp [newA], ?_, fun v hv => by rw [List.eq_of_mem_replicate hv]; exact hf⟩
  rw [List.length_replicate]
  have := z.toInt_lt
  rw [Int32.toNatClampNeg]
  omega
theorem own_Ar.set {j : Nat} (F : own_Ar Z h a k ty vs) (W : Wr h h' a j v) (hv : fits ty v = true) : own_Ar Z h' a k ty (vs.set j v) := by
  obtain ⟨c, A, q, s, l, f⟩ := F
  refine ⟨_, A.same W, q, ?_, by rw [List.length_set]; exact l, fun w hw => ?_⟩
  · show c.slots.setIfInBounds j v = _
    rw [s]; simp
  · rcases List.mem_or_eq_of_mem_set hw with hw | rfl
    · exact f w hw
    · exact hv
theorem own_Ar.arv (F : own_Ar Z h a k ty vs) (d : Value) : Arv Z h a k ty (Int32.ofNat vs.length) vs d := by
  obtain ⟨c, A, q, s, l, f⟩ := F
  have hl : (Int32.ofNat vs.length).toNatClampNeg = vs.length := by
    rw [Int32.toNatClampNeg, Int32.toInt_ofNat_of_lt (by omega)]; rfl
  have h0 : ¬ Int32.ofNat vs.length < 0 := by
    rw [Int32.lt_iff_toInt_lt, Int32.toInt_ofNat_of_lt (by omega)]; simp
  refine ⟨c, A, q, by rw [s, hl]; simp, h0, fun i hi => ?_, fun i hi => ?_⟩
  · rw [s] at hi ⊢
    simp only [List.size_toArray] at hi
    simp [List.getD, List.getElem?_eq_getElem hi]
  · rw [s] at hi
    simp only [List.size_toArray] at hi
    simp only [List.getD, List.getElem?_eq_getElem hi, Option.getD_some]
    exact f _ (List.getElem_mem hi)
theorem own_Ar.of_arv {z : Int32} {d : Value} (F : Arv Z h a k ty z vs d) (hl : z.toNatClampNeg = vs.length) : own_Ar Z h a k ty vs := by
  obtain ⟨c, A, q, s, l, H, f⟩ := F
  have hs : c.slots.size = vs.length := s.trans hl
  have e : c.slots = vs.toArray := by
    apply Array.ext_getElem?
    intro i
    by_cases hi : i < c.slots.size
    · rw [H i hi]
      have hi' : i < vs.length := hs ▸ hi
      simp [List.getD, List.getElem?_eq_getElem hi']
    · rw [Array.getElem?_eq_none (Nat.le_of_not_lt hi), Array.getElem?_eq_none (by simpa [← hs] using Nat.le_of_not_lt hi)]
  refine ⟨c, A, q, e, ?_, fun v hv => ?_⟩
  · rw [← hl]; have := z.toInt_lt; rw [Int32.toNatClampNeg]; omega
  · obtain ⟨i, hi, rfl⟩ := List.mem_iff_getElem.mp hv
    have := f i (hs ▸ hi)
    simpa [List.getD, List.getElem?_eq_getElem hi] using this
end OwnArr
section OwnArrSteps
variable {p : Program} {l : Launch} {e : Env} {R : Room} {s : State} {m : MethodId} {args : Array Value} {below : List Frame} {meth : Method} {c : Code} {T : State} {locs : List Loc} {cells slots : Nat} {Z : State} {a0 : Array Value} {h : Heap} {a : Addr} {k : ClassId} {ty : FieldType} {vs : List Value} {v : Value}
theorem own_inb {c : Cell} {vs : List Value} {j : Int32} (hs : c.slots = vs.toArray) (h0 : ¬ j < 0) (hj : j.toNatClampNeg < vs.length) : ¬ (j < 0 ∨ c.slots.size ≤ j.toNatClampNeg) := by
  rw [hs]; rintro (q | q)
  · exact h0 q
  · simp only [List.size_toArray] at q; omega
theorem own_arrlen (X : Stand p l e R s m args below meth c T locs cells slots) (hx : p.tables.exec = Jvm.exec) (hZ : Z.Warmed39 s.vm) (eT : T.heap = h) (F : own_Ar Z h a k ty vs) {n : Int32} (hn : Int32.ofNat vs.length = n) {g : JFrame} (hg : g.method = m) {rest : List Value} (hs : g.stack = .ref a :: rest) (hd : decode c.code g.pc = .ok (.arraylength, 1)) :
    ∀ target, Steps p.tables e below (T.setTop { g with pc := g.pc + 1, stack := .int n :: rest }) target → Steps p.tables e below (T.setTop g) target := by
  obtain ⟨cl, A, q, sz, ln, f⟩ := F
  intro t kk
  refine X.arraylength hx (by rw [eT]; exact A.1) (State.isArrayOf_alike hZ.alike A.2.1) hg hs hd t ?_
  have : cl.slots.size.toInt32 = n := by rw [sz, ← hn]; rfl
  rw [this]; exact kk
theorem own_iaload (X : Stand p l e R s m args below meth c T locs cells slots) (hx : p.tables.exec = Jvm.exec) (hZ : Z.Warmed39 s.vm) (eT : T.heap = h) (F : own_Ar Z h a k .int vs) {j : Int32} (h0 : ¬ j < 0) {i : Nat} (hj : j.toNatClampNeg = i) (hv : vs[i]? = some v) {g : JFrame} (hg : g.method = m) {rest : List Value} (hs : g.stack = .int j :: .ref a :: rest) (hd : decode c.code g.pc = .ok (.iaload, 1)) :
    ∀ target, Steps p.tables e below (T.setTop { g with pc := g.pc + 1, stack := v :: rest }) target → Steps p.tables e below (T.setTop g) target := by
  obtain ⟨cl, A, q, sz, ln, f⟩ := F
  subst hj
  exact X.iaload hx (by rw [eT]; exact A.1) (State.isArrayOf_alike hZ.alike A.2.1) A.2.2 (own_inb sz h0 (List.getElem?_eq_some_iff.mp hv).1) (by rw [sz]; simpa using hv) hg hs hd
theorem own_laload (X : Stand p l e R s m args below meth c T locs cells slots) (hx : p.tables.exec = Jvm.exec) (hZ : Z.Warmed39 s.vm) (eT : T.heap = h) (F : own_Ar Z h a k .long vs) {j : Int32} (h0 : ¬ j < 0) {i : Nat} (hj : j.toNatClampNeg = i) (hv : vs[i]? = some v) {g : JFrame} (hg : g.method = m) {rest : List Value} (hs : g.stack = .int j :: .ref a :: rest) (hd : decode c.code g.pc = .ok (.laload, 1)) :
    ∀ target, Steps p.tables e below (T.setTop { g with pc := g.pc + 1, stack := v :: rest }) target → Steps p.tables e below (T.setTop g) target := by
  obtain ⟨cl, A, q, sz, ln, f⟩ := F
  subst hj
  exact X.laload hx (by rw [eT]; exact A.1) (State.isArrayOf_alike hZ.alike A.2.1) A.2.2 (own_inb sz h0 (List.getElem?_eq_some_iff.mp hv).1) (by rw [sz]; simpa using hv) hg hs hd
theorem own_baload (X : Stand p l e R s m args below meth c T locs cells slots) (hx : p.tables.exec = Jvm.exec) (hZ : Z.Warmed39 s.vm) (eT : T.heap = h) (F : own_Ar Z h a k .byte vs) {j : Int32} (h0 : ¬ j < 0) {i : Nat} (hj : j.toNatClampNeg = i) (hv : vs[i]? = some v) {g : JFrame} (hg : g.method = m) {rest : List Value} (hs : g.stack = .int j :: .ref a :: rest) (hd : decode c.code g.pc = .ok (.baload, 1)) :
    ∀ target, Steps p.tables e below (T.setTop { g with pc := g.pc + 1, stack := v :: rest }) target → Steps p.tables e below (T.setTop g) target := by
  obtain ⟨cl, A, q, sz, ln, f⟩ := F
  subst hj
  exact X.baloadBytes hx (by rw [eT]; exact A.1) (State.isArrayOf_alike hZ.alike A.2.1) A.2.2 (own_inb sz h0 (List.getElem?_eq_some_iff.mp hv).1) (by rw [sz]; simpa using hv) hg hs hd
theorem own_aaload (X : Stand p l e R s m args below meth c T locs cells slots) (hx : p.tables.exec = Jvm.exec) (hZ : Z.Warmed39 s.vm) (eT : T.heap = h) (F : own_Ar Z h a k ty vs) (hty : ty.isReference = true) {j : Int32} (h0 : ¬ j < 0) {i : Nat} (hj : j.toNatClampNeg = i) (hv : vs[i]? = some v) {g : JFrame} (hg : g.method = m) {rest : List Value} (hs : g.stack = .int j :: .ref a :: rest) (hd : decode c.code g.pc = .ok (.aaload, 1)) :
    ∀ target, Steps p.tables e below (T.setTop { g with pc := g.pc + 1, stack := v :: rest }) target → Steps p.tables e below (T.setTop g) target := by
  obtain ⟨cl, A, q, sz, ln, f⟩ := F
  subst hj
  exact X.aaload hx (by rw [eT]; exact A.1) (State.isArrayOf_alike hZ.alike A.2.1) hty A.2.2 (own_inb sz h0 (List.getElem?_eq_some_iff.mp hv).1) (by rw [sz]; simpa using hv) hg hs hd
theorem own_iastore (X : Stand p l e R s m args below meth c T locs cells slots) (hx : p.tables.exec = Jvm.exec) (hZ : Z.Warmed39 s.vm) (eT : T.heap = h) (F : own_Ar Z h a k .int vs) {j x : Int32} (h0 : ¬ j < 0) {i : Nat} (hj : j.toNatClampNeg = i) (hi : i < vs.length) {g : JFrame} (hg : g.method = m) {rest : List Value} (hs : g.stack = .int x :: .int j :: .ref a :: rest) (hd : decode c.code g.pc = .ok (.iastore, 1)) :
    ∃ T' h', Stand p l e R s m args below meth c T' (locs ++ [⟨a, i⟩]) cells slots ∧ T'.heap = h' ∧ Wr h h' a i (.int x) ∧ own_Ar Z h' a k .int (vs.set i (.int x)) ∧ ∀ target, Steps p.tables e below (T'.setTop { g with pc := g.pc + 1, stack := rest }) target → Steps p.tables e below (T.setTop g) target := by
  have F' := F
  obtain ⟨cl, A, q, sz, ln, f⟩ := F
  subst hj
  obtain ⟨T', h', X', e', W, st⟩ := stI X hx hZ eT A (own_inb sz h0 hi) hg hs hd
  exact ⟨T', h', X', e', W, F'.set W rfl, st⟩
theorem own_lastore (X : Stand p l e R s m args below meth c T locs cells slots) (hx : p.tables.exec = Jvm.exec) (hZ : Z.Warmed39 s.vm) (eT : T.heap = h) (F : own_Ar Z h a k .long vs) {j : Int32} {x : Int64} (h0 : ¬ j < 0) {i : Nat} (hj : j.toNatClampNeg = i) (hi : i < vs.length) {g : JFrame} (hg : g.method = m) {rest : List Value} (hs : g.stack = .long x :: .int j :: .ref a :: rest) (hd : decode c.code g.pc = .ok (.lastore, 1)) :
    ∃ T' h', Stand p l e R s m args below meth c T' (locs ++ [⟨a, i⟩]) cells slots ∧ T'.heap = h' ∧ Wr h h' a i (.long x) ∧ own_Ar Z h' a k .long (vs.set i (.long x)) ∧ ∀ target, Steps p.tables e below (T'.setTop { g with pc := g.pc + 1, stack := rest }) target → Steps p.tables e below (T.setTop g) target := by
  have F' := F
  obtain ⟨cl, A, q, sz, ln, f⟩ := F
  subst hj
  obtain ⟨T', h', X', e', W, st⟩ := stJ X hx hZ eT A (own_inb sz h0 hi) hg hs hd
  exact ⟨T', h', X', e', W, F'.set W rfl, st⟩
theorem own_bastore (X : Stand p l e R s m args below meth c T locs cells slots) (hx : p.tables.exec = Jvm.exec) (hZ : Z.Warmed39 s.vm) (eT : T.heap = h) (F : own_Ar Z h a k .byte vs) {j x : Int32} (h0 : ¬ j < 0) {i : Nat} (hj : j.toNatClampNeg = i) (hi : i < vs.length) {g : JFrame} (hg : g.method = m) {rest : List Value} (hs : g.stack = .int x :: .int j :: .ref a :: rest) (hd : decode c.code g.pc = .ok (.bastore, 1)) :
    ∃ T' h', Stand p l e R s m args below meth c T' (locs ++ [⟨a, i⟩]) cells slots ∧ T'.heap = h' ∧ Wr h h' a i (.int x.toInt8.toInt32) ∧ own_Ar Z h' a k .byte (vs.set i (.int x.toInt8.toInt32)) ∧ ∀ target, Steps p.tables e below (T'.setTop { g with pc := g.pc + 1, stack := rest }) target → Steps p.tables e below (T.setTop g) target := by
  have F' := F
  obtain ⟨cl, A, q, sz, ln, f⟩ := F
  subst hj
  obtain ⟨T', h', X', e', W, st⟩ := stB X hx hZ eT A (own_inb sz h0 hi) hg hs hd
  exact ⟨T', h', X', e', W, F'.set W (fits_nar_byte _), st⟩
theorem own_aastore (X : Stand p l e R s m args below meth c T locs cells slots) (hx : p.tables.exec = Jvm.exec) (hZ : Z.Warmed39 s.vm) (eT : T.heap = h) (F : own_Ar Z h a k ty vs) (hty : ty.isReference = true) (hfv : fits ty v = true) (S : Sto Z h a v) {j : Int32} (h0 : ¬ j < 0) {i : Nat} (hj : j.toNatClampNeg = i) (hi : i < vs.length) {g : JFrame} (hg : g.method = m) {rest : List Value} (hs : g.stack = v :: .int j :: .ref a :: rest) (hd : decode c.code g.pc = .ok (.aastore, 1)) :
    ∃ T' h', Stand p l e R s m args below meth c T' (locs ++ [⟨a, i⟩]) cells slots ∧ T'.heap = h' ∧ Wr h h' a i v ∧ own_Ar Z h' a k ty (vs.set i v) ∧ ∀ target, Steps p.tables e below (T'.setTop { g with pc := g.pc + 1, stack := rest }) target → Steps p.tables e below (T.setTop g) target := by
  have F' := F
  obtain ⟨cl, A, q, sz, ln, f⟩ := F
  subst hj
  obtain ⟨T', h', X', e', W, st⟩ := stR X hx hZ eT A (own_inb sz h0 hi) hty S hg hs hd
  exact ⟨T', h', X', e', W, F'.set W hfv, st⟩
theorem own_newarr (X : Stand p l e R s m args below meth c T locs cells slots) (hx : p.tables.exec = Jvm.exec) (hZ : Z.Warmed39 s.vm) {aty : ArrayType} (w : (Cond.arrayClass (newarray.typeOf aty)).before a0 Z = true) (eT : T.heap = h) {g : JFrame} (hg : g.method = m) (hd : decode c.code g.pc = .ok (.newarray aty, 2)) {n : Int32} {rest : List Value} (hs : g.stack = .int n :: rest)
    (hn : ¬ n < 0) {cap : Nat} (hcap : n.toNatClampNeg ≤ cap) (hb : cap * 8 ≤ 536870912) (hc : cells + 1 ≤ R.cells) (hl : slots + cap ≤ R.slots) {ad : String} (had : "[" ++ (newarray.typeOf aty).toString = ad) (hf : fits (newarray.typeOf aty) (defaultValue (newarray.typeOf aty)) = true) (hvs : List.replicate n.toNatClampNeg (defaultValue (newarray.typeOf aty)) = vs) :
    ∃ T' h' cA, Stand p l e R s m args below meth c T' locs (cells + 1) (slots + cap) ∧ T'.heap = h' ∧ Ext h h' ∧ own_Ar Z h' h.size cA (newarray.typeOf aty) vs ∧ Exa Z h' h.size ad ∧
      ∀ target, Steps p.tables e below (T'.setTop { g with pc := g.pc + 2, stack := .ref h.size :: rest }) target → Steps p.tables e below (T.setTop g) target := by
  obtain ⟨T', h', cA, X', e', E, A, Ex, st⟩ := newPE X hx hZ w eT hg hd hs hn hcap hb hc hl had
  exact ⟨T', h', cA, X', e', E, hvs ▸ own_Ar.new A hf, Ex, st⟩
theorem own_anewarr (X : Stand p l e R s m args below meth c T locs cells slots) (hx : p.tables.exec = Jvm.exec) (hZ : Z.Warmed39 s.vm) {own C : String} {index : Nat} (hown : s.vm.findClass own = some m.cls) (w1 : (Cond.classLink own index C).before a0 Z = true) (w2 : (Cond.arrayOver (.object C)).before a0 Z = true) (eT : T.heap = h) {g : JFrame} (hg : g.method = m) (hd : decode c.code g.pc = .ok (.anewarray index, 3)) {n : Int32} {rest : List Value} (hs : g.stack = .int n :: rest)
    (hn : ¬ n < 0) {cap : Nat} (hcap : n.toNatClampNeg ≤ cap) (hb : cap * 8 ≤ 536870912) (hc : cells + 1 ≤ R.cells) (hl : slots + cap ≤ R.slots) (hvs : List.replicate n.toNatClampNeg Value.null = vs) :
    ∃ T' h' cA, Stand p l e R s m args below meth c T' locs (cells + 1) (slots + cap) ∧ T'.heap = h' ∧ Ext h h' ∧ own_Ar Z h' h.size cA (.object C) vs ∧ Ovr Z cA C ∧
      ∀ target, Steps p.tables e below (T'.setTop { g with pc := g.pc + 3, stack := .ref h.size :: rest }) target → Steps p.tables e below (T.setTop g) target := by
  obtain ⟨T', h', cA, X', e', E, A, O, st⟩ := newR X hx hZ hown w1 w2 eT hg hd hs hn hcap hb hc hl
  exact ⟨T', h', cA, X', e', E, hvs ▸ own_Ar.new A rfl, O, st⟩
theorem own_arrlenA (X : Stand p l e R s m args below meth c T locs cells slots) (hx : p.tables.exec = Jvm.exec) (hZ : Z.Warmed39 s.vm) (eT : T.heap = h) {cl : Cell} (A : Arr Z h a cl ty) {n : Int32} (hn : cl.slots.size.toInt32 = n) {g : JFrame} (hg : g.method = m) {rest : List Value} (hs : g.stack = .ref a :: rest) (hd : decode c.code g.pc = .ok (.arraylength, 1)) :
    ∀ target, Steps p.tables e below (T.setTop { g with pc := g.pc + 1, stack := .int n :: rest }) target → Steps p.tables e below (T.setTop g) target := by
  subst hn
  exact X.arraylength hx (by rw [eT]; exact A.1) (State.isArrayOf_alike hZ.alike A.2.1) hg hs hd
theorem own_len0 {args : Array Value} {s : State} {t : Term} {a : Addr} {n : Int32} {ty : FieldType} (ev : t.eval args s none [] s = some (.ref a)) (h6 : (Cond.arrayOf t ty).before args s = true) (h8 : (Cond.eq (.length t) (.int n)).before args s = true) : ∃ c : Cell, Arr s s.heap a c ty ∧ c.slots.size.toInt32 = n := by
  obtain ⟨c, A⟩ := Arr.start ev (Cond.before_iff.mp h6)
  have h8 := Cond.before_iff.mp h8
  obtain ⟨x, y, e1, -⟩ := cmp_v (Or.inl h8)
  obtain ⟨b, cell, q1, q2, rfl⟩ := Term.length_spec e1
  cases ev.symm.trans q1
  cases (Arr.fin (State.Warmed39.refl s).alike A).symm.trans q2
  exact ⟨_, A, gotT (Cond.eq_ints e1 (Term.int_eval n)) h8⟩
end OwnArrSteps
theorem own_ofn {i : Nat} (h : i < 100) : ¬ Int32.ofNat i < 0 ∧ (Int32.ofNat i).toNatClampNeg = i ∧ (Int32.ofNat i).toInt = i := by
  have e : (Int32.ofNat i).toInt = i := Int32.toInt_ofNat_of_lt (by omega)
  refine ⟨fun q => ?_, by rw [Int32.toNatClampNeg, e]; rfl, e⟩
  rw [Int32.lt_iff_toInt_lt, e] at q
  have : (0 : Int32).toInt = 0 := rfl
  omega
theorem own_lt {i j : Nat} (hi : i < 100) (hj : j < 100) : Int32.ofNat i < Int32.ofNat j ↔ i < j := by
  rw [Int32.lt_iff_toInt_lt, (own_ofn hi).2.2, (own_ofn hj).2.2]; omega
theorem own_eqn {i j : Nat} (hi : i < 100) (hj : j < 100) : Int32.ofNat i = Int32.ofNat j ↔ i = j := by
  rw [← Int32.toInt_inj, (own_ofn hi).2.2, (own_ofn hj).2.2]; omega
theorem own_up1 (k : Nat) : Int32.ofNat (k + 1) - (1 : Int32) = Int32.ofNat k := by
  rw [own_succ, Int32.add_sub_cancel]
theorem own_ldcF {p : Program} {l : Launch} {e : Env} {R : Room} {s : State} {m : MethodId} {args : Array Value} {below : List Frame} {meth : Method} {c : Code} {T : State} {locs : List Loc} {cells slots : Nat} {Z : State} {a0 : Array Value} (X : Stand p l e R s m args below meth c T locs cells slots) (hx : p.tables.exec = Jvm.exec) (hZ : Z.Warmed39 s.vm) {own : String} {index : Nat} {b : UInt32} (hown : s.vm.findClass own = some m.cls)
    (w : (Cond.constantFloat own index b).before a0 Z = true) {g : JFrame} (hg : g.method = m) (hdg : decode c.code g.pc = .ok (.ldc index, 2)) :
    ∀ target, Steps p.tables e below (T.setTop { g with pc := g.pc + 2, stack := .float b :: g.stack }) target → Steps p.tables e below (T.setTop g) target := by
  obtain ⟨k, cf, hk, hcf, hc⟩ := Cond.constantFloat_spec hown (mvT hZ w : (Cond.constantFloat own index b).before args s = true)
  exact X.ldcFloat hx hk hcf hc hg hdg
/-- the log's own fields -/
def own_F (Z : State) (h : Heap) (a la ra ga nu : Addr) (en sz se pr hs : Int32) (tb ea lr : Value) : Prop := Exa Z h a "com/example/obedient_dog/obedientdog/topologydiscovery/AgeLog" ∧ Fld Z h a "com/example/obedient_dog/obedientdog/topologydiscovery/AgeLog" "latest" "[I" (.ref la) ∧ Fld Z h a "com/example/obedient_dog/obedientdog/topologydiscovery/AgeLog" "raised" "[I" (.ref ra) ∧ Fld Z h a "com/example/obedient_dog/obedientdog/topologydiscovery/AgeLog" "ages" "[I" (.ref ga) ∧ Fld Z h a "com/example/obedient_dog/obedientdog/topologydiscovery/AgeLog" "numbers" "Lcom/example/obedient_dog/obedientdog/topologydiscovery/LinkNumbers;" (.ref nu) ∧ Fld Z h a "com/example/obedient_dog/obedientdog/topologydiscovery/AgeLog" "entries" "I" (.int en) ∧ Fld Z h a "com/example/obedient_dog/obedientdog/topologydiscovery/AgeLog" "size" "I" (.int sz) ∧ Fld Z h a "com/example/obedient_dog/obedientdog/topologydiscovery/AgeLog" "sealed" "I" (.int se) ∧ Fld Z h a "com/example/obedient_dog/obedientdog/topologydiscovery/AgeLog" "present" "I" (.int pr) ∧ Fld Z h a "com/example/obedient_dog/obedientdog/topologydiscovery/AgeLog" "hash" "I" (.int hs) ∧ Fld Z h a "com/example/obedient_dog/obedientdog/topologydiscovery/AgeLog" "table" "Lcom/example/obedient_dog/obedientdog/topologydiscovery/AgeTable;" tb ∧ Fld Z h a "com/example/obedient_dog/obedientdog/topologydiscovery/AgeLog" "earlier" "[I" ea ∧ Fld Z h a "com/example/obedient_dog/obedientdog/topologydiscovery/AgeLog" "later" "[I" lr
/-- .. of a new one -/
def own_F0 (Z : State) (h : Heap) (a : Addr) : Prop := Exa Z h a "com/example/obedient_dog/obedientdog/topologydiscovery/AgeLog" ∧ Fld Z h a "com/example/obedient_dog/obedientdog/topologydiscovery/AgeLog" "latest" "[I" .null ∧ Fld Z h a "com/example/obedient_dog/obedientdog/topologydiscovery/AgeLog" "raised" "[I" .null ∧ Fld Z h a "com/example/obedient_dog/obedientdog/topologydiscovery/AgeLog" "ages" "[I" .null ∧ Fld Z h a "com/example/obedient_dog/obedientdog/topologydiscovery/AgeLog" "numbers" "Lcom/example/obedient_dog/obedientdog/topologydiscovery/LinkNumbers;" .null ∧ Fld Z h a "com/example/obedient_dog/obedientdog/topologydiscovery/AgeLog" "entries" "I" (.int 0) ∧ Fld Z h a "com/example/obedient_dog/obedientdog/topologydiscovery/AgeLog" "size" "I" (.int 0) ∧ Fld Z h a "com/example/obedient_dog/obedientdog/topologydiscovery/AgeLog" "sealed" "I" (.int 0) ∧ Fld Z h a "com/example/obedient_dog/obedientdog/topologydiscovery/AgeLog" "present" "I" (.int 0) ∧ Fld Z h a "com/example/obedient_dog/obedientdog/topologydiscovery/AgeLog" "hash" "I" (.int 0) ∧ Fld Z h a "com/example/obedient_dog/obedientdog/topologydiscovery/AgeLog" "table" "Lcom/example/obedient_dog/obedientdog/topologydiscovery/AgeTable;" .null ∧ Fld Z h a "com/example/obedient_dog/obedientdog/topologydiscovery/AgeLog" "earlier" "[I" .null ∧ Fld Z h a "com/example/obedient_dog/obedientdog/topologydiscovery/AgeLog" "later" "[I" .null
abbrev own_is (l : List Nat) : List Value := l.map fun n => Value.int (Int32.ofNat n)
abbrev own_zs : List Value := List.replicate 16 (.int 0)
theorem own_is_at {l : List Nat} {i : Nat} (h : i < l.length) : (own_is l)[i]? = some (.int (Int32.ofNat (l.getD i 0))) := by simp [own_is, List.getD, List.getElem?_eq_getElem h]
theorem own_is_set (l : List Nat) (i v : Nat) : (own_is l).set i (.int (Int32.ofNat v)) = own_is (l.set i v) := by simp [own_is, List.map_set]
theorem own_pd0 : parseMethodDescriptor "(I)I" = some ⟨[.int], some .int⟩ := by decide +kernel
theorem own_pd1 : parseMethodDescriptor "(III)V" = some ⟨[.int, .int, .int], none⟩ := by decide +kernel
theorem own_pd2 : parseMethodDescriptor "(II)I" = some ⟨[.int, .int], some .int⟩ := by decide +kernel
theorem own_pd3 : parseMethodDescriptor "(II)V" = some ⟨[.int, .int], none⟩ := by decide +kernel
theorem own_pd4 : parseMethodDescriptor "()V" = some ⟨[], none⟩ := by decide +kernel
theorem own_pd5 : parseMethodDescriptor "(II)Z" = some ⟨[.int, .int], some .boolean⟩ := by decide +kernel
theorem dha_0 : decode prog_46_method_5_code 0 = .ok (.aload_n 0, 1) := by decide +kernel
theorem dha_1 : decode prog_46_method_5_code 1 = .ok (.getfield 23, 3) := by decide +kernel
theorem dha_4 : decode prog_46_method_5_code 4 = .ok (.iload_n 1, 1) := by decide +kernel
theorem dha_5 : decode prog_46_method_5_code 5 = .ok (.iaload, 1) := by decide +kernel
theorem dha_6 : decode prog_46_method_5_code 6 = .ok (.ireturn, 1) := by decide +kernel
theorem own_pn0 : plainName "com/example/obedient_dog/obedientdog/topologydiscovery/LinkNumbers" = true := by first | (simp [plainName, overriddenIn]; done) | decide +kernel
theorem own_efha (m : MethodId) (nu : Addr) (p1 : Int32) : entryFrame m #[(.ref nu), (.int p1)] 2 = mkF m 0 #[.val (.ref nu), .val (.int p1)] [] := by first | (simp [entryFrame, mkF, argsToLocals, Value.category]; done) | rfl
set_option maxRecDepth 65536 in
set_option maxHeartbeats 40000000 in
theorem own_rmha (l : Launch) (Z : State) (a0 : Array Value) (hw : ∀ d ∈ tables_1, d.before a0 Z = true) (nu : Addr) (p1 : Int32) (h0 : Heap) (i : Nat) (hi : i < 16) (hp : p1 = Int32.ofNat i) (ha : Addr) (kh : ClassId) (E_nu : Exa Z h0 nu "com/example/obedient_dog/obedientdog/topologydiscovery/LinkNumbers") (F_hashes_nu : Fld Z h0 nu "com/example/obedient_dog/obedientdog/topologydiscovery/LinkNumbers" "hashes" "[I" (.ref ha)) (V_ha : own_Ar Z h0 ha kh .int own_zs) :
    own_C l Z (⟨"com/example/obedient_dog/obedientdog/topologydiscovery/LinkNumbers", "hash", "(I)I"⟩ : MethodName) prog_46_method_5_code 2 (some .int) [] ({ frames := 0, cells := 0, slots := 0, locals := 0 } : Room) #[(.ref nu), (.int p1)] h0 (fun v h L => v = some (.int 0) ∧ L = [] ∧ h = h0) := by
  refine own_body (plainFor_of_name own_pn0) fun p e s m below meth c s₁ hx hby hml hret hlk hown hnm hZ X0 e0 => ?_
  rw [own_efha m nu p1]
  subst hp
  have oi := own_ofn (i := i) (by omega)
  refine own_go (U' := s₁.setTop (mkF m 1 #[.val (.ref nu), .val (.int (Int32.ofNat i))] [(.ref nu)])) (fun t k => XS.aloadN X0.here hx rfl (hb hby dha_0) rfl rfl k) ?_
  obtain ⟨T1, X1, e1, st1⟩ := getF X0 hx hZ hown (host := "") (Or.inl (hw _ (List.mem_of_getElem? (i := 57) rfl))) Via.refl e0 F_hashes_nu (g := (mkF m 1 #[.val (.ref nu), .val (.int (Int32.ofNat i))] [(.ref nu)])) rfl rfl (hb hby dha_1)
  refine own_go (U' := T1.setTop (mkF m 4 #[.val (.ref nu), .val (.int (Int32.ofNat i))] [(.ref ha)])) st1 ?_
  refine own_go (U' := T1.setTop (mkF m 5 #[.val (.ref nu), .val (.int (Int32.ofNat i))] [(.int (Int32.ofNat i)), (.ref ha)])) (fun t k => XS.iloadN X1.here hx rfl (hb hby dha_4) rfl k) ?_
  refine own_go (U' := T1.setTop (mkF m 6 #[.val (.ref nu), .val (.int (Int32.ofNat i))] [(.int (0 : Int32))])) (own_iaload X1 hx hZ e1 V_ha (j := (Int32.ofNat i)) oi.1 (i := i) oi.2.1 (v := (.int (0 : Int32))) (by rw [List.getElem?_replicate, if_pos hi]) (g := (mkF m 5 #[.val (.ref nu), .val (.int (Int32.ofNat i))] [(.int (Int32.ofNat i)), (.ref ha)])) rfl rfl (hb hby dha_5)) ?_
  refine own_retI X1 hx hret hlk (hb hby dha_6) ?_ (by decide) (by decide)
  exact ⟨rfl, rfl, e1⟩
theorem dct_0 : decode prog_39_method_15_code 0 = .ok (.aload_n 0, 1) := by decide +kernel
theorem dct_1 : decode prog_39_method_15_code 1 = .ok (.dup, 1) := by decide +kernel
theorem dct_2 : decode prog_39_method_15_code 2 = .ok (.getfield 87, 3) := by decide +kernel
theorem dct_5 : decode prog_39_method_15_code 5 = .ok (.iload_n 2, 1) := by decide +kernel
theorem dct_6 : decode prog_39_method_15_code 6 = .ok (.iconst 2, 1) := by decide +kernel
theorem dct_7 : decode prog_39_method_15_code 7 = .ok (.irem, 1) := by decide +kernel
theorem dct_8 : decode prog_39_method_15_code 8 = .ok (.ifCond .ne 7, 3) := by decide +kernel
theorem dct_11 : decode prog_39_method_15_code 11 = .ok (.iload_n 3, 1) := by decide +kernel
theorem dct_12 : decode prog_39_method_15_code 12 = .ok (.goto 4, 3) := by decide +kernel
theorem dct_15 : decode prog_39_method_15_code 15 = .ok (.iconst 0, 1) := by decide +kernel
theorem dct_16 : decode prog_39_method_15_code 16 = .ok (.iadd, 1) := by decide +kernel
theorem dct_17 : decode prog_39_method_15_code 17 = .ok (.putfield 87, 3) := by decide +kernel
theorem dct_20 : decode prog_39_method_15_code 20 = .ok (.aload_n 0, 1) := by decide +kernel
theorem dct_21 : decode prog_39_method_15_code 21 = .ok (.dup, 1) := by decide +kernel
theorem dct_22 : decode prog_39_method_15_code 22 = .ok (.getfield 90, 3) := by decide +kernel
theorem dct_25 : decode prog_39_method_15_code 25 = .ok (.iload_n 3, 1) := by decide +kernel
theorem dct_26 : decode prog_39_method_15_code 26 = .ok (.aload_n 0, 1) := by decide +kernel
theorem dct_27 : decode prog_39_method_15_code 27 = .ok (.getfield 19, 3) := by decide +kernel
theorem dct_30 : decode prog_39_method_15_code 30 = .ok (.iload_n 1, 1) := by decide +kernel
theorem dct_31 : decode prog_39_method_15_code 31 = .ok (.invokevirtual 102, 3) := by decide +kernel
theorem dct_34 : decode prog_39_method_15_code 34 = .ok (.iload_n 2, 1) := by decide +kernel
theorem dct_35 : decode prog_39_method_15_code 35 = .ok (.ixor, 1) := by decide +kernel
theorem dct_36 : decode prog_39_method_15_code 36 = .ok (.imul, 1) := by decide +kernel
theorem dct_37 : decode prog_39_method_15_code 37 = .ok (.iadd, 1) := by decide +kernel
theorem dct_38 : decode prog_39_method_15_code 38 = .ok (.putfield 90, 3) := by decide +kernel
theorem dct_41 : decode prog_39_method_15_code 41 = .ok (.return_, 1) := by decide +kernel
theorem own_pn1 : plainName "com/example/obedient_dog/obedientdog/topologydiscovery/AgeLog" = true := by first | (simp [plainName, overriddenIn]; done) | decide +kernel
theorem own_efct (m : MethodId) (a : Addr) (p1 p2 p3 : Int32) : entryFrame m #[(.ref a), (.int p1), (.int p2), (.int p3)] 4 = mkF m 0 #[.val (.ref a), .val (.int p1), .val (.int p2), .val (.int p3)] [] := by first | (simp [entryFrame, mkF, argsToLocals, Value.category]; done) | rfl
set_option maxRecDepth 65536 in
set_option maxHeartbeats 40000000 in
theorem own_rmct (l : Launch) (Z : State) (a0 : Array Value) (hw : ∀ d ∈ tables_1, d.before a0 Z = true) (a : Addr) (p1 p2 p3 : Int32) (h0 : Heap) (n0 : Nat) (g_a : n0 ≤ a) (la ra ga nu ha : Addr) (kh : ClassId) (en sz se pr hs : Int32) (tb ea lr : Value) (htb : tb.isRef = true) (hea : ea.isRef = true) (hlr : lr.isRef = true) (i : Nat) (hi : i < 16) (hp : p1 = Int32.ofNat i) (F_a : own_F Z h0 a la ra ga nu en sz se pr hs tb ea lr) (E_nu : Exa Z h0 nu "com/example/obedient_dog/obedientdog/topologydiscovery/LinkNumbers") (F_hashes_nu : Fld Z h0 nu "com/example/obedient_dog/obedientdog/topologydiscovery/LinkNumbers" "hashes" "[I" (.ref ha)) (V_ha : own_Ar Z h0 ha kh .int own_zs) :
    own_C l Z (⟨"com/example/obedient_dog/obedientdog/topologydiscovery/AgeLog", "count", "(III)V"⟩ : MethodName) prog_39_method_15_code 4 none [] ({ frames := 1, cells := 0, slots := 0, locals := 17 } : Room) #[(.ref a), (.int p1), (.int p2), (.int p3)] h0 (fun v h L => v = none ∧ Fr n0 L ∧ Keep h0 h [a] ∧ ∃ pr hs, own_F Z h a la ra ga nu en sz se pr hs tb ea lr) := by
  refine own_body (plainFor_of_name own_pn1) fun p e s m below meth c s₁ hx hby hml hret hlk hown hnm hZ X0 e0 => ?_
  rw [own_efct m a p1 p2 p3]
  have N0 := Fr.nil n0
  have K := Keep.refl h0 [a]
  obtain ⟨E_a, F_latest_a, F_raised_a, F_ages_a, F_numbers_a, F_entries_a, F_size_a, F_sealed_a, F_present_a, F_hash_a, F_table_a, F_earlier_a, F_later_a⟩ := F_a
  have ne_a_ha : a ≠ ha := by
    obtain ⟨cb, Ab, -⟩ := V_ha
    exact ne_arr E_a (hw _ (List.mem_of_getElem? (i := 1) rfl)) Ab
  have ne_nu_ha : nu ≠ ha := by
    obtain ⟨cb, Ab, -⟩ := V_ha
    exact ne_arr E_nu (hw _ (List.mem_of_getElem? (i := 4) rfl)) Ab
  have ne_a_nu : a ≠ nu := ne_exa E_a E_nu (by decide)
  refine own_go (U' := s₁.setTop (mkF m 1 #[.val (.ref a), .val (.int p1), .val (.int p2), .val (.int p3)] [(.ref a)])) (fun t k => XS.aloadN X0.here hx rfl (hb hby dct_0) rfl rfl k) ?_
  refine own_go (U' := s₁.setTop (mkF m 2 #[.val (.ref a), .val (.int p1), .val (.int p2), .val (.int p3)] [(.ref a), (.ref a)])) (fun t k => XS.dup X0.here hx rfl (hb hby dct_1) rfl rfl k) ?_
  obtain ⟨T1, X1, e1, st1⟩ := getF X0 hx hZ hown (host := "") (Or.inl (hw _ (List.mem_of_getElem? (i := 93) rfl))) Via.refl e0 F_present_a (g := (mkF m 2 #[.val (.ref a), .val (.int p1), .val (.int p2), .val (.int p3)] [(.ref a), (.ref a)])) rfl rfl (hb hby dct_2)
  refine own_go (U' := T1.setTop (mkF m 5 #[.val (.ref a), .val (.int p1), .val (.int p2), .val (.int p3)] [(.int pr), (.ref a)])) st1 ?_
  refine own_go (U' := T1.setTop (mkF m 6 #[.val (.ref a), .val (.int p1), .val (.int p2), .val (.int p3)] [(.int p2), (.int pr), (.ref a)])) (fun t k => XS.iloadN X1.here hx rfl (hb hby dct_5) rfl k) ?_
  refine own_go (U' := T1.setTop (mkF m 7 #[.val (.ref a), .val (.int p1), .val (.int p2), .val (.int p3)] [(.int (2 : Int32)), (.int p2), (.int pr), (.ref a)])) (fun t k => XS.iconst X1.here hx rfl (hb hby dct_6) k) ?_
  refine own_go (U' := T1.setTop (mkF m 8 #[.val (.ref a), .val (.int p1), .val (.int p2), .val (.int p3)] [(.int (p2 % (2 : Int32))), (.int pr), (.ref a)])) (fun t k => iremM X1 hx rfl (hb hby dct_7) rfl (by decide) k) ?_
  refine own_go (U' := T1.setTop (mkF m 16 #[.val (.ref a), .val (.int p1), .val (.int p2), .val (.int p3)] [(.int (if (p2 % (2 : Int32)) = (0 : Int32) then p3 else (0 : Int32))), (.int pr), (.ref a)])) (fun t k => ?_) ?_
  · show Steps p.tables e below (T1.setTop (mkF m 8 #[.val (.ref a), .val (.int p1), .val (.int p2), .val (.int p3)] [(.int (p2 % (2 : Int32))), (.int pr), (.ref a)])) _
    by_cases hd8 : (p2 % (2 : Int32)) = (0 : Int32)
    · simp only [if_pos hd8] at k
      refine XS.ifNo X1.here hx rfl (hb hby dct_8) rfl ((if0 _ _).trans (teq hd8).2) ?_
      show Steps p.tables e below (T1.setTop (mkF m 11 #[.val (.ref a), .val (.int p1), .val (.int p2), .val (.int p3)] [(.int pr), (.ref a)])) _
      refine XS.iloadN X1.here hx rfl (hb hby dct_11) rfl ?_
      show Steps p.tables e below (T1.setTop (mkF m 12 #[.val (.ref a), .val (.int p1), .val (.int p2), .val (.int p3)] [(.int p3), (.int pr), (.ref a)])) _
      refine XS.goto X1.here hx rfl (pc0 := 12) (pc' := 16) rfl (hb hby dct_12) (by decide) (by decide) ?_
      show Steps p.tables e below (T1.setTop (mkF m 16 #[.val (.ref a), .val (.int p1), .val (.int p2), .val (.int p3)] [(.int p3), (.int pr), (.ref a)])) _
      exact k
    · simp only [if_neg hd8] at k
      refine XS.ifYes X1.here hx rfl (pc0 := 8) (pc' := 15) rfl (hb hby dct_8) rfl ((if0 _ _).trans (feq hd8).2) (by decide) (by decide) ?_
      show Steps p.tables e below (T1.setTop (mkF m 15 #[.val (.ref a), .val (.int p1), .val (.int p2), .val (.int p3)] [(.int pr), (.ref a)])) _
      refine XS.iconst X1.here hx rfl (hb hby dct_15) ?_
      show Steps p.tables e below (T1.setTop (mkF m 16 #[.val (.ref a), .val (.int p1), .val (.int p2), .val (.int p3)] [(.int (0 : Int32)), (.int pr), (.ref a)])) _
      exact k
  refine own_go (U' := T1.setTop (mkF m 17 #[.val (.ref a), .val (.int p1), .val (.int p2), .val (.int p3)] [(.int (pr + (if (p2 % (2 : Int32)) = (0 : Int32) then p3 else (0 : Int32)))), (.ref a)])) (fun t k => XS.iadd X1.here hx rfl (hb hby dct_16) rfl k) ?_
  obtain ⟨T2, h2, X2, e2, W2, st2⟩ := putF X1 hx hZ hown (host := "") (Or.inl (hw _ (List.mem_of_getElem? (i := 93) rfl))) Via.refl e1 F_present_a E_a (Or.inl (hw _ (List.mem_of_getElem? (i := 94) rfl))) (hw _ (List.mem_of_getElem? (i := 1) rfl)) (ty := .int) (by decide) rfl rfl (g := (mkF m 17 #[.val (.ref a), .val (.int p1), .val (.int p2), .val (.int p3)] [(.int (pr + (if (p2 % (2 : Int32)) = (0 : Int32) then p3 else (0 : Int32)))), (.ref a)])) rfl rfl (hb hby dct_17)
  have K := K.wr W2 (Or.inl (List.mem_of_getElem? (i := 0) rfl))
  have E_a := E_a.wr W2
  have F_latest_a := F_latest_a.other W2 (Or.inr (slot_ne (Or.inl (hw _ (List.mem_of_getElem? (i := 64) rfl))) (Or.inl (hw _ (List.mem_of_getElem? (i := 94) rfl))) (by decide) (t := (.array .int)) (t' := .int) (by decide) (by decide)))
  have F_raised_a := F_raised_a.other W2 (Or.inr (slot_ne (Or.inl (hw _ (List.mem_of_getElem? (i := 66) rfl))) (Or.inl (hw _ (List.mem_of_getElem? (i := 94) rfl))) (by decide) (t := (.array .int)) (t' := .int) (by decide) (by decide)))
  have F_ages_a := F_ages_a.other W2 (Or.inr (slot_ne (Or.inl (hw _ (List.mem_of_getElem? (i := 68) rfl))) (Or.inl (hw _ (List.mem_of_getElem? (i := 94) rfl))) (by decide) (t := (.array .int)) (t' := .int) (by decide) (by decide)))
  have F_numbers_a := F_numbers_a.other W2 (Or.inr (slot_ne (Or.inr (hw _ (List.mem_of_getElem? (i := 70) rfl))) (Or.inl (hw _ (List.mem_of_getElem? (i := 94) rfl))) (by decide) (t := (.object "com/example/obedient_dog/obedientdog/topologydiscovery/LinkNumbers")) (t' := .int) (by decide) (by decide)))
  have F_entries_a := F_entries_a.other W2 (Or.inr (slot_ne (Or.inl (hw _ (List.mem_of_getElem? (i := 86) rfl))) (Or.inl (hw _ (List.mem_of_getElem? (i := 94) rfl))) (by decide) (t := .int) (t' := .int) (by decide) (by decide)))
  have F_size_a := F_size_a.other W2 (Or.inr (slot_ne (Or.inl (hw _ (List.mem_of_getElem? (i := 88) rfl))) (Or.inl (hw _ (List.mem_of_getElem? (i := 94) rfl))) (by decide) (t := .int) (t' := .int) (by decide) (by decide)))
  have F_sealed_a := F_sealed_a.other W2 (Or.inr (slot_ne (Or.inl (hw _ (List.mem_of_getElem? (i := 110) rfl))) (Or.inl (hw _ (List.mem_of_getElem? (i := 94) rfl))) (by decide) (t := .int) (t' := .int) (by decide) (by decide)))
  have F_hash_a := F_hash_a.other W2 (Or.inr (slot_ne (Or.inl (hw _ (List.mem_of_getElem? (i := 96) rfl))) (Or.inl (hw _ (List.mem_of_getElem? (i := 94) rfl))) (by decide) (t := .int) (t' := .int) (by decide) (by decide)))
  have F_table_a := F_table_a.other W2 (Or.inr (slot_ne (Or.inl (hw _ (List.mem_of_getElem? (i := 103) rfl))) (Or.inl (hw _ (List.mem_of_getElem? (i := 94) rfl))) (by decide) (t := (.object "com/example/obedient_dog/obedientdog/topologydiscovery/AgeTable")) (t' := .int) (by decide) (by decide)))
  have F_earlier_a := F_earlier_a.other W2 (Or.inr (slot_ne (Or.inl (hw _ (List.mem_of_getElem? (i := 138) rfl))) (Or.inl (hw _ (List.mem_of_getElem? (i := 94) rfl))) (by decide) (t := (.array .int)) (t' := .int) (by decide) (by decide)))
  have F_later_a := F_later_a.other W2 (Or.inr (slot_ne (Or.inl (hw _ (List.mem_of_getElem? (i := 140) rfl))) (Or.inl (hw _ (List.mem_of_getElem? (i := 94) rfl))) (by decide) (t := (.array .int)) (t' := .int) (by decide) (by decide)))
  have E_nu := E_nu.wr W2
  have F_hashes_nu := F_hashes_nu.other W2 (Or.inl (Ne.symm ne_a_nu))
  have V_ha := V_ha.other W2 (Ne.symm ne_a_ha)
  have F_present_a := F_present_a.same W2
  have N2 := Fr.snoc X2 N0 g_a
  refine own_go (U' := T2.setTop (mkF m 20 #[.val (.ref a), .val (.int p1), .val (.int p2), .val (.int p3)] [])) st2 ?_
  refine own_go (U' := T2.setTop (mkF m 21 #[.val (.ref a), .val (.int p1), .val (.int p2), .val (.int p3)] [(.ref a)])) (fun t k => XS.aloadN X2.here hx rfl (hb hby dct_20) rfl rfl k) ?_
  refine own_go (U' := T2.setTop (mkF m 22 #[.val (.ref a), .val (.int p1), .val (.int p2), .val (.int p3)] [(.ref a), (.ref a)])) (fun t k => XS.dup X2.here hx rfl (hb hby dct_21) rfl rfl k) ?_
  obtain ⟨T3, X3, e3, st3⟩ := getF X2 hx hZ hown (host := "") (Or.inl (hw _ (List.mem_of_getElem? (i := 95) rfl))) Via.refl e2 F_hash_a (g := (mkF m 22 #[.val (.ref a), .val (.int p1), .val (.int p2), .val (.int p3)] [(.ref a), (.ref a)])) rfl rfl (hb hby dct_22)
  refine own_go (U' := T3.setTop (mkF m 25 #[.val (.ref a), .val (.int p1), .val (.int p2), .val (.int p3)] [(.int hs), (.ref a)])) st3 ?_
  refine own_go (U' := T3.setTop (mkF m 26 #[.val (.ref a), .val (.int p1), .val (.int p2), .val (.int p3)] [(.int p3), (.int hs), (.ref a)])) (fun t k => XS.iloadN X3.here hx rfl (hb hby dct_25) rfl k) ?_
  refine own_go (U' := T3.setTop (mkF m 27 #[.val (.ref a), .val (.int p1), .val (.int p2), .val (.int p3)] [(.ref a), (.int p3), (.int hs), (.ref a)])) (fun t k => XS.aloadN X3.here hx rfl (hb hby dct_26) rfl rfl k) ?_
  obtain ⟨T4, X4, e4, st4⟩ := getF X3 hx hZ hown (host := "") (Or.inl (hw _ (List.mem_of_getElem? (i := 69) rfl))) Via.refl e3 F_numbers_a (g := (mkF m 27 #[.val (.ref a), .val (.int p1), .val (.int p2), .val (.int p3)] [(.ref a), (.int p3), (.int hs), (.ref a)])) rfl rfl (hb hby dct_27)
  refine own_go (U' := T4.setTop (mkF m 30 #[.val (.ref a), .val (.int p1), .val (.int p2), .val (.int p3)] [(.ref nu), (.int p3), (.int hs), (.ref a)])) st4 ?_
  refine own_go (U' := T4.setTop (mkF m 31 #[.val (.ref a), .val (.int p1), .val (.int p2), .val (.int p3)] [(.int p1), (.ref nu), (.int p3), (.int hs), (.ref a)])) (fun t k => XS.iloadN X4.here hx rfl (hb hby dct_30) rfl k) ?_
  obtain ⟨v5, T5, h5, L5, e5, X5, hQ5, st5⟩ := own_callV X4 hx hZ (y := (⟨"com/example/obedient_dog/obedientdog/topologydiscovery/LinkNumbers", "hash", "(I)I"⟩ : MethodName)) (z := (⟨"com/example/obedient_dog/obedientdog/topologydiscovery/LinkNumbers", "hash", "(I)I"⟩ : MethodName)) hown (hw _ (List.mem_of_getElem? (i := 97) rfl)) (hw _ (List.mem_of_getElem? (i := 98) rfl)) (notFace_of_selects (args := #[]) (mvT hZ (hw _ (List.mem_of_getElem? (i := 100) rfl)))) (hw _ (List.mem_of_getElem? (i := 100) rfl)) (hw _ (List.mem_of_getElem? (i := 99) rfl)) (hw _ (List.mem_of_getElem? (i := 5) rfl)) (hw _ (List.mem_of_getElem? (i := 101) rfl)) (by decide) E_nu (own_rmha l Z a0 hw nu p1 h2 i hi hp ha kh E_nu F_hashes_nu V_ha) (W := 3) (by decide) (by decide) (g := (mkF m 31 #[.val (.ref a), .val (.int p1), .val (.int p2), .val (.int p3)] [(.int p1), (.ref nu), (.int p3), (.int hs), (.ref a)])) rfl (by rw [hml]; rfl) (argsL := [(.int p1)]) (rest := [(.int p3), (.int hs), (.ref a)]) (lenOf own_pd0 rfl) rfl rfl (by show 2 * 0 + _ ≤ _; exact Nat.le_of_eq rfl) (hb hby dct_31) e4 (by decide) (by decide)
  obtain ⟨rfl, rfl, eh5⟩ := hQ5
  have e5 := e5.trans eh5
  rw [List.append_nil] at X5
  refine own_go (U' := T5.setTop (mkF m 34 #[.val (.ref a), .val (.int p1), .val (.int p2), .val (.int p3)] [(.int (0 : Int32)), (.int p3), (.int hs), (.ref a)])) st5 ?_
  refine own_go (U' := T5.setTop (mkF m 35 #[.val (.ref a), .val (.int p1), .val (.int p2), .val (.int p3)] [(.int p2), (.int (0 : Int32)), (.int p3), (.int hs), (.ref a)])) (fun t k => XS.iloadN X5.here hx rfl (hb hby dct_34) rfl k) ?_
  refine own_go (U' := T5.setTop (mkF m 36 #[.val (.ref a), .val (.int p1), .val (.int p2), .val (.int p3)] [(.int ((0 : Int32) ^^^ p2)), (.int p3), (.int hs), (.ref a)])) (fun t k => XS.ixor X5.here hx rfl (hb hby dct_35) rfl k) ?_
  refine own_go (U' := T5.setTop (mkF m 37 #[.val (.ref a), .val (.int p1), .val (.int p2), .val (.int p3)] [(.int (p3 * ((0 : Int32) ^^^ p2))), (.int hs), (.ref a)])) (fun t k => XS.imul X5.here hx rfl (hb hby dct_36) rfl k) ?_
  refine own_go (U' := T5.setTop (mkF m 38 #[.val (.ref a), .val (.int p1), .val (.int p2), .val (.int p3)] [(.int (hs + (p3 * ((0 : Int32) ^^^ p2)))), (.ref a)])) (fun t k => XS.iadd X5.here hx rfl (hb hby dct_37) rfl k) ?_
  obtain ⟨T6, h6, X6, e6, W6, st6⟩ := putF X5 hx hZ hown (host := "") (Or.inl (hw _ (List.mem_of_getElem? (i := 95) rfl))) Via.refl e5 F_hash_a E_a (Or.inl (hw _ (List.mem_of_getElem? (i := 96) rfl))) (hw _ (List.mem_of_getElem? (i := 1) rfl)) (ty := .int) (by decide) rfl rfl (g := (mkF m 38 #[.val (.ref a), .val (.int p1), .val (.int p2), .val (.int p3)] [(.int (hs + (p3 * ((0 : Int32) ^^^ p2)))), (.ref a)])) rfl rfl (hb hby dct_38)
  have K := K.wr W6 (Or.inl (List.mem_of_getElem? (i := 0) rfl))
  have E_a := E_a.wr W6
  have F_latest_a := F_latest_a.other W6 (Or.inr (slot_ne (Or.inl (hw _ (List.mem_of_getElem? (i := 64) rfl))) (Or.inl (hw _ (List.mem_of_getElem? (i := 96) rfl))) (by decide) (t := (.array .int)) (t' := .int) (by decide) (by decide)))
  have F_raised_a := F_raised_a.other W6 (Or.inr (slot_ne (Or.inl (hw _ (List.mem_of_getElem? (i := 66) rfl))) (Or.inl (hw _ (List.mem_of_getElem? (i := 96) rfl))) (by decide) (t := (.array .int)) (t' := .int) (by decide) (by decide)))
  have F_ages_a := F_ages_a.other W6 (Or.inr (slot_ne (Or.inl (hw _ (List.mem_of_getElem? (i := 68) rfl))) (Or.inl (hw _ (List.mem_of_getElem? (i := 96) rfl))) (by decide) (t := (.array .int)) (t' := .int) (by decide) (by decide)))
  have F_numbers_a := F_numbers_a.other W6 (Or.inr (slot_ne (Or.inr (hw _ (List.mem_of_getElem? (i := 70) rfl))) (Or.inl (hw _ (List.mem_of_getElem? (i := 96) rfl))) (by decide) (t := (.object "com/example/obedient_dog/obedientdog/topologydiscovery/LinkNumbers")) (t' := .int) (by decide) (by decide)))
  have F_entries_a := F_entries_a.other W6 (Or.inr (slot_ne (Or.inl (hw _ (List.mem_of_getElem? (i := 86) rfl))) (Or.inl (hw _ (List.mem_of_getElem? (i := 96) rfl))) (by decide) (t := .int) (t' := .int) (by decide) (by decide)))
  have F_size_a := F_size_a.other W6 (Or.inr (slot_ne (Or.inl (hw _ (List.mem_of_getElem? (i := 88) rfl))) (Or.inl (hw _ (List.mem_of_getElem? (i := 96) rfl))) (by decide) (t := .int) (t' := .int) (by decide) (by decide)))
  have F_sealed_a := F_sealed_a.other W6 (Or.inr (slot_ne (Or.inl (hw _ (List.mem_of_getElem? (i := 110) rfl))) (Or.inl (hw _ (List.mem_of_getElem? (i := 96) rfl))) (by decide) (t := .int) (t' := .int) (by decide) (by decide)))
  have F_present_a := F_present_a.other W6 (Or.inr (slot_ne (Or.inl (hw _ (List.mem_of_getElem? (i := 94) rfl))) (Or.inl (hw _ (List.mem_of_getElem? (i := 96) rfl))) (by decide) (t := .int) (t' := .int) (by decide) (by decide)))
  have F_table_a := F_table_a.other W6 (Or.inr (slot_ne (Or.inl (hw _ (List.mem_of_getElem? (i := 103) rfl))) (Or.inl (hw _ (List.mem_of_getElem? (i := 96) rfl))) (by decide) (t := (.object "com/example/obedient_dog/obedientdog/topologydiscovery/AgeTable")) (t' := .int) (by decide) (by decide)))
  have F_earlier_a := F_earlier_a.other W6 (Or.inr (slot_ne (Or.inl (hw _ (List.mem_of_getElem? (i := 138) rfl))) (Or.inl (hw _ (List.mem_of_getElem? (i := 96) rfl))) (by decide) (t := (.array .int)) (t' := .int) (by decide) (by decide)))
  have F_later_a := F_later_a.other W6 (Or.inr (slot_ne (Or.inl (hw _ (List.mem_of_getElem? (i := 140) rfl))) (Or.inl (hw _ (List.mem_of_getElem? (i := 96) rfl))) (by decide) (t := (.array .int)) (t' := .int) (by decide) (by decide)))
  have E_nu := E_nu.wr W6
  have F_hashes_nu := F_hashes_nu.other W6 (Or.inl (Ne.symm ne_a_nu))
  have V_ha := V_ha.other W6 (Ne.symm ne_a_ha)
  have F_hash_a := F_hash_a.same W6
  have N6 := Fr.snoc X6 N2 g_a
  refine own_go (U' := T6.setTop (mkF m 41 #[.val (.ref a), .val (.int p1), .val (.int p2), .val (.int p3)] [])) st6 ?_
  refine own_retV X6 hx hret hlk (hb hby dct_41) ?_ (by decide) (by decide)
  rw [e6]
  exact ⟨rfl, N6, K, _, _, ⟨E_a, F_latest_a, F_raised_a, F_ages_a, F_numbers_a, F_entries_a, F_size_a, F_sealed_a, F_present_a, F_hash_a, F_table_a, F_earlier_a, F_later_a⟩⟩
theorem dap_0 : decode prog_39_method_13_code 0 = .ok (.aload_n 0, 1) := by decide +kernel
theorem dap_1 : decode prog_39_method_13_code 1 = .ok (.getfield 84, 3) := by decide +kernel
theorem dap_4 : decode prog_39_method_13_code 4 = .ok (.aload_n 0, 1) := by decide +kernel
theorem dap_5 : decode prog_39_method_13_code 5 = .ok (.getfield 13, 3) := by decide +kernel
theorem dap_8 : decode prog_39_method_13_code 8 = .ok (.arraylength, 1) := by decide +kernel
theorem dap_9 : decode prog_39_method_13_code 9 = .ok (.if_icmp .ne 75, 3) := by decide +kernel
theorem dap_12 : decode prog_39_method_13_code 12 = .ok (.iconst 2, 1) := by decide +kernel
theorem dap_13 : decode prog_39_method_13_code 13 = .ok (.aload_n 0, 1) := by decide +kernel
theorem dap_14 : decode prog_39_method_13_code 14 = .ok (.getfield 84, 3) := by decide +kernel
theorem dap_17 : decode prog_39_method_13_code 17 = .ok (.imul, 1) := by decide +kernel
theorem dap_18 : decode prog_39_method_13_code 18 = .ok (.aload_n 0, 1) := by decide +kernel
theorem dap_19 : decode prog_39_method_13_code 19 = .ok (.getfield 19, 3) := by decide +kernel
theorem dap_22 : decode prog_39_method_13_code 22 = .ok (.invokevirtual 48, 3) := by decide +kernel
theorem dap_25 : decode prog_39_method_13_code 25 = .ok (.invokestatic 42, 3) := by decide +kernel
theorem dap_28 : decode prog_39_method_13_code 28 = .ok (.istore_n 3, 1) := by decide +kernel
theorem dap_29 : decode prog_39_method_13_code 29 = .ok (.aload_n 0, 1) := by decide +kernel
theorem dap_30 : decode prog_39_method_13_code 30 = .ok (.aload_n 0, 1) := by decide +kernel
theorem dap_31 : decode prog_39_method_13_code 31 = .ok (.getfield 13, 3) := by decide +kernel
theorem dap_34 : decode prog_39_method_13_code 34 = .ok (.iload_n 3, 1) := by decide +kernel
theorem dap_35 : decode prog_39_method_13_code 35 = .ok (.invokestatic 54, 3) := by decide +kernel
theorem dap_38 : decode prog_39_method_13_code 38 = .ok (.putfield 13, 3) := by decide +kernel
theorem dap_41 : decode prog_39_method_13_code 41 = .ok (.aload_n 0, 1) := by decide +kernel
theorem dap_42 : decode prog_39_method_13_code 42 = .ok (.aload_n 0, 1) := by decide +kernel
theorem dap_43 : decode prog_39_method_13_code 43 = .ok (.getfield 16, 3) := by decide +kernel
theorem dap_46 : decode prog_39_method_13_code 46 = .ok (.iload_n 3, 1) := by decide +kernel
theorem dap_47 : decode prog_39_method_13_code 47 = .ok (.invokestatic 54, 3) := by decide +kernel
theorem dap_50 : decode prog_39_method_13_code 50 = .ok (.putfield 16, 3) := by decide +kernel
theorem dap_53 : decode prog_39_method_13_code 53 = .ok (.aload_n 0, 1) := by decide +kernel
theorem dap_54 : decode prog_39_method_13_code 54 = .ok (.getfield 96, 3) := by decide +kernel
theorem dap_57 : decode prog_39_method_13_code 57 = .ok (.ifnull 27, 3) := by decide +kernel
theorem dap_60 : decode prog_39_method_13_code 60 = .ok (.aload_n 0, 1) := by decide +kernel
theorem dap_61 : decode prog_39_method_13_code 61 = .ok (.aload_n 0, 1) := by decide +kernel
theorem dap_62 : decode prog_39_method_13_code 62 = .ok (.getfield 96, 3) := by decide +kernel
theorem dap_65 : decode prog_39_method_13_code 65 = .ok (.iload_n 3, 1) := by decide +kernel
theorem dap_66 : decode prog_39_method_13_code 66 = .ok (.invokestatic 54, 3) := by decide +kernel
theorem dap_69 : decode prog_39_method_13_code 69 = .ok (.putfield 96, 3) := by decide +kernel
theorem dap_72 : decode prog_39_method_13_code 72 = .ok (.aload_n 0, 1) := by decide +kernel
theorem dap_73 : decode prog_39_method_13_code 73 = .ok (.aload_n 0, 1) := by decide +kernel
theorem dap_74 : decode prog_39_method_13_code 74 = .ok (.getfield 99, 3) := by decide +kernel
theorem dap_77 : decode prog_39_method_13_code 77 = .ok (.iload_n 3, 1) := by decide +kernel
theorem dap_78 : decode prog_39_method_13_code 78 = .ok (.invokestatic 54, 3) := by decide +kernel
theorem dap_81 : decode prog_39_method_13_code 81 = .ok (.putfield 99, 3) := by decide +kernel
theorem dap_84 : decode prog_39_method_13_code 84 = .ok (.aload_n 0, 1) := by decide +kernel
theorem dap_85 : decode prog_39_method_13_code 85 = .ok (.getfield 13, 3) := by decide +kernel
theorem dap_88 : decode prog_39_method_13_code 88 = .ok (.aload_n 0, 1) := by decide +kernel
theorem dap_89 : decode prog_39_method_13_code 89 = .ok (.getfield 84, 3) := by decide +kernel
theorem dap_92 : decode prog_39_method_13_code 92 = .ok (.iload_n 1, 1) := by decide +kernel
theorem dap_93 : decode prog_39_method_13_code 93 = .ok (.iastore, 1) := by decide +kernel
theorem dap_94 : decode prog_39_method_13_code 94 = .ok (.aload_n 0, 1) := by decide +kernel
theorem dap_95 : decode prog_39_method_13_code 95 = .ok (.getfield 16, 3) := by decide +kernel
theorem dap_98 : decode prog_39_method_13_code 98 = .ok (.aload_n 0, 1) := by decide +kernel
theorem dap_99 : decode prog_39_method_13_code 99 = .ok (.getfield 84, 3) := by decide +kernel
theorem dap_102 : decode prog_39_method_13_code 102 = .ok (.iload_n 2, 1) := by decide +kernel
theorem dap_103 : decode prog_39_method_13_code 103 = .ok (.iastore, 1) := by decide +kernel
theorem dap_104 : decode prog_39_method_13_code 104 = .ok (.aload_n 0, 1) := by decide +kernel
theorem dap_105 : decode prog_39_method_13_code 105 = .ok (.dup, 1) := by decide +kernel
theorem dap_106 : decode prog_39_method_13_code 106 = .ok (.getfield 84, 3) := by decide +kernel
theorem dap_109 : decode prog_39_method_13_code 109 = .ok (.iconst 1, 1) := by decide +kernel
theorem dap_110 : decode prog_39_method_13_code 110 = .ok (.iadd, 1) := by decide +kernel
theorem dap_111 : decode prog_39_method_13_code 111 = .ok (.putfield 84, 3) := by decide +kernel
theorem dap_114 : decode prog_39_method_13_code 114 = .ok (.aload_n 0, 1) := by decide +kernel
theorem dap_115 : decode prog_39_method_13_code 115 = .ok (.getfield 84, 3) := by decide +kernel
theorem dap_118 : decode prog_39_method_13_code 118 = .ok (.iconst 1, 1) := by decide +kernel
theorem dap_119 : decode prog_39_method_13_code 119 = .ok (.isub, 1) := by decide +kernel
theorem dap_120 : decode prog_39_method_13_code 120 = .ok (.ireturn, 1) := by decide +kernel
theorem own_efap (m : MethodId) (a : Addr) (p1 p2 : Int32) : entryFrame m #[(.ref a), (.int p1), (.int p2)] 4 = mkF m 0 #[.val (.ref a), .val (.int p1), .val (.int p2), .unset] [] := by first | (simp [entryFrame, mkF, argsToLocals, Value.category]; done) | rfl
set_option maxRecDepth 65536 in
set_option maxHeartbeats 40000000 in
theorem own_rmap (l : Launch) (Z : State) (a0 : Array Value) (hw : ∀ d ∈ tables_1, d.before a0 Z = true) (a : Addr) (p1 p2 : Int32) (h0 : Heap) (n0 : Nat) (g_a : n0 ≤ a) (la ra ga nu ha : Addr) (kh : ClassId) (en sz se pr hs : Int32) (tb ea lr : Value) (htb : tb.isRef = true) (hea : ea.isRef = true) (hlr : lr.isRef = true) (ki : Nat) (hk : ki < 8) (he : en = Int32.ofNat ki) (rs gs : List Value) (kr kg : ClassId) (g_ra : n0 ≤ ra) (g_ga : n0 ≤ ga) (ne_ra_ga : ra ≠ ga) (F_a : own_F Z h0 a la ra ga nu en sz se pr hs tb ea lr) (V_ra : own_Ar Z h0 ra kr .int rs) (h_ra : rs.length = 8) (V_ga : own_Ar Z h0 ga kg .int gs) (h_ga : gs.length = 8) :
    own_C l Z (⟨"com/example/obedient_dog/obedientdog/topologydiscovery/AgeLog", "append", "(II)I"⟩ : MethodName) prog_39_method_13_code 4 (some .int) [] ({ frames := 0, cells := 0, slots := 0, locals := 0 } : Room) #[(.ref a), (.int p1), (.int p2)] h0 (fun v h L => v = some (.int (Int32.ofNat ki)) ∧ Fr n0 L ∧ Keep h0 h [a, ra, ga] ∧ (own_F Z h a la ra ga nu (Int32.ofNat (ki + 1)) sz se pr hs tb ea lr) ∧ own_Ar Z h ra kr .int (rs.set ki (.int p1)) ∧ own_Ar Z h ga kg .int (gs.set ki (.int p2))) := by
  refine own_body (plainFor_of_name own_pn1) fun p e s m below meth c s₁ hx hby hml hret hlk hown hnm hZ X0 e0 => ?_
  rw [own_efap m a p1 p2]
  have N0 := Fr.nil n0
  have K := Keep.refl h0 [a, ra, ga]
  subst he
  obtain ⟨E_a, F_latest_a, F_raised_a, F_ages_a, F_numbers_a, F_entries_a, F_size_a, F_sealed_a, F_present_a, F_hash_a, F_table_a, F_earlier_a, F_later_a⟩ := F_a
  have ne_a_ra : a ≠ ra := by
    obtain ⟨cb, Ab, -⟩ := V_ra
    exact ne_arr E_a (hw _ (List.mem_of_getElem? (i := 1) rfl)) Ab
  have ne_a_ga : a ≠ ga := by
    obtain ⟨cb, Ab, -⟩ := V_ga
    exact ne_arr E_a (hw _ (List.mem_of_getElem? (i := 1) rfl)) Ab
  have ok := own_ofn (i := ki) (by omega)
  refine own_go (U' := s₁.setTop (mkF m 1 #[.val (.ref a), .val (.int p1), .val (.int p2), .unset] [(.ref a)])) (fun t k => XS.aloadN X0.here hx rfl (hb hby dap_0) rfl rfl k) ?_
  obtain ⟨T1, X1, e1, st1⟩ := getF X0 hx hZ hown (host := "") (Or.inl (hw _ (List.mem_of_getElem? (i := 85) rfl))) Via.refl e0 F_entries_a (g := (mkF m 1 #[.val (.ref a), .val (.int p1), .val (.int p2), .unset] [(.ref a)])) rfl rfl (hb hby dap_1)
  refine own_go (U' := T1.setTop (mkF m 4 #[.val (.ref a), .val (.int p1), .val (.int p2), .unset] [(.int (Int32.ofNat ki))])) st1 ?_
  refine own_go (U' := T1.setTop (mkF m 5 #[.val (.ref a), .val (.int p1), .val (.int p2), .unset] [(.ref a), (.int (Int32.ofNat ki))])) (fun t k => XS.aloadN X1.here hx rfl (hb hby dap_4) rfl rfl k) ?_
  obtain ⟨T2, X2, e2, st2⟩ := getF X1 hx hZ hown (host := "") (Or.inl (hw _ (List.mem_of_getElem? (i := 65) rfl))) Via.refl e1 F_raised_a (g := (mkF m 5 #[.val (.ref a), .val (.int p1), .val (.int p2), .unset] [(.ref a), (.int (Int32.ofNat ki))])) rfl rfl (hb hby dap_5)
  refine own_go (U' := T2.setTop (mkF m 8 #[.val (.ref a), .val (.int p1), .val (.int p2), .unset] [(.ref ra), (.int (Int32.ofNat ki))])) st2 ?_
  refine own_go (U' := T2.setTop (mkF m 9 #[.val (.ref a), .val (.int p1), .val (.int p2), .unset] [(.int (8 : Int32)), (.int (Int32.ofNat ki))])) (own_arrlen X2 hx hZ e2 V_ra (n := (8 : Int32)) (by rw [h_ra]; rfl) (g := (mkF m 8 #[.val (.ref a), .val (.int p1), .val (.int p2), .unset] [(.ref ra), (.int (Int32.ofNat ki))])) rfl rfl (hb hby dap_8)) ?_
  refine own_go (U' := T2.setTop (mkF m 84 #[.val (.ref a), .val (.int p1), .val (.int p2), .unset] [])) (fun t k => XS.icmpYes X2.here hx rfl (pc0 := 9) (pc' := 84) rfl (hb hby dap_9) rfl (feq (fun q => absurd ((own_eqn (j := 8) (by omega) (by omega)).mp q) (by omega))).2 (by decide) (by decide) k) ?_
  refine own_go (U' := T2.setTop (mkF m 85 #[.val (.ref a), .val (.int p1), .val (.int p2), .unset] [(.ref a)])) (fun t k => XS.aloadN X2.here hx rfl (hb hby dap_84) rfl rfl k) ?_
  obtain ⟨T3, X3, e3, st3⟩ := getF X2 hx hZ hown (host := "") (Or.inl (hw _ (List.mem_of_getElem? (i := 65) rfl))) Via.refl e2 F_raised_a (g := (mkF m 85 #[.val (.ref a), .val (.int p1), .val (.int p2), .unset] [(.ref a)])) rfl rfl (hb hby dap_85)
  refine own_go (U' := T3.setTop (mkF m 88 #[.val (.ref a), .val (.int p1), .val (.int p2), .unset] [(.ref ra)])) st3 ?_
  refine own_go (U' := T3.setTop (mkF m 89 #[.val (.ref a), .val (.int p1), .val (.int p2), .unset] [(.ref a), (.ref ra)])) (fun t k => XS.aloadN X3.here hx rfl (hb hby dap_88) rfl rfl k) ?_
  obtain ⟨T4, X4, e4, st4⟩ := getF X3 hx hZ hown (host := "") (Or.inl (hw _ (List.mem_of_getElem? (i := 85) rfl))) Via.refl e3 F_entries_a (g := (mkF m 89 #[.val (.ref a), .val (.int p1), .val (.int p2), .unset] [(.ref a), (.ref ra)])) rfl rfl (hb hby dap_89)
  refine own_go (U' := T4.setTop (mkF m 92 #[.val (.ref a), .val (.int p1), .val (.int p2), .unset] [(.int (Int32.ofNat ki)), (.ref ra)])) st4 ?_
  refine own_go (U' := T4.setTop (mkF m 93 #[.val (.ref a), .val (.int p1), .val (.int p2), .unset] [(.int p1), (.int (Int32.ofNat ki)), (.ref ra)])) (fun t k => XS.iloadN X4.here hx rfl (hb hby dap_92) rfl k) ?_
  obtain ⟨T5, h5, X5, e5, W5, A5, st5⟩ := own_iastore X4 hx hZ e4 V_ra (j := (Int32.ofNat ki)) ok.1 (i := ki) ok.2.1 (by omega) (g := (mkF m 93 #[.val (.ref a), .val (.int p1), .val (.int p2), .unset] [(.int p1), (.int (Int32.ofNat ki)), (.ref ra)])) rfl rfl (hb hby dap_93)
  have K := K.wr W5 (Or.inl (List.mem_of_getElem? (i := 1) rfl))
  have E_a := E_a.wr W5
  have F_latest_a := F_latest_a.other W5 (Or.inl ne_a_ra)
  have F_raised_a := F_raised_a.other W5 (Or.inl ne_a_ra)
  have F_ages_a := F_ages_a.other W5 (Or.inl ne_a_ra)
  have F_numbers_a := F_numbers_a.other W5 (Or.inl ne_a_ra)
  have F_entries_a := F_entries_a.other W5 (Or.inl ne_a_ra)
  have F_size_a := F_size_a.other W5 (Or.inl ne_a_ra)
  have F_sealed_a := F_sealed_a.other W5 (Or.inl ne_a_ra)
  have F_present_a := F_present_a.other W5 (Or.inl ne_a_ra)
  have F_hash_a := F_hash_a.other W5 (Or.inl ne_a_ra)
  have F_table_a := F_table_a.other W5 (Or.inl ne_a_ra)
  have F_earlier_a := F_earlier_a.other W5 (Or.inl ne_a_ra)
  have F_later_a := F_later_a.other W5 (Or.inl ne_a_ra)
  have V_ga := V_ga.other W5 (Ne.symm ne_ra_ga)
  have V_ra : own_Ar Z h5 ra kr .int (rs.set ki (.int p1)) := A5
  have N5 := Fr.snoc X5 N0 g_ra
  refine own_go (U' := T5.setTop (mkF m 94 #[.val (.ref a), .val (.int p1), .val (.int p2), .unset] [])) st5 ?_
  refine own_go (U' := T5.setTop (mkF m 95 #[.val (.ref a), .val (.int p1), .val (.int p2), .unset] [(.ref a)])) (fun t k => XS.aloadN X5.here hx rfl (hb hby dap_94) rfl rfl k) ?_
  obtain ⟨T6, X6, e6, st6⟩ := getF X5 hx hZ hown (host := "") (Or.inl (hw _ (List.mem_of_getElem? (i := 67) rfl))) Via.refl e5 F_ages_a (g := (mkF m 95 #[.val (.ref a), .val (.int p1), .val (.int p2), .unset] [(.ref a)])) rfl rfl (hb hby dap_95)
  refine own_go (U' := T6.setTop (mkF m 98 #[.val (.ref a), .val (.int p1), .val (.int p2), .unset] [(.ref ga)])) st6 ?_
  refine own_go (U' := T6.setTop (mkF m 99 #[.val (.ref a), .val (.int p1), .val (.int p2), .unset] [(.ref a), (.ref ga)])) (fun t k => XS.aloadN X6.here hx rfl (hb hby dap_98) rfl rfl k) ?_
  obtain ⟨T7, X7, e7, st7⟩ := getF X6 hx hZ hown (host := "") (Or.inl (hw _ (List.mem_of_getElem? (i := 85) rfl))) Via.refl e6 F_entries_a (g := (mkF m 99 #[.val (.ref a), .val (.int p1), .val (.int p2), .unset] [(.ref a), (.ref ga)])) rfl rfl (hb hby dap_99)
  refine own_go (U' := T7.setTop (mkF m 102 #[.val (.ref a), .val (.int p1), .val (.int p2), .unset] [(.int (Int32.ofNat ki)), (.ref ga)])) st7 ?_
  refine own_go (U' := T7.setTop (mkF m 103 #[.val (.ref a), .val (.int p1), .val (.int p2), .unset] [(.int p2), (.int (Int32.ofNat ki)), (.ref ga)])) (fun t k => XS.iloadN X7.here hx rfl (hb hby dap_102) rfl k) ?_
  obtain ⟨T8, h8, X8, e8, W8, A8, st8⟩ := own_iastore X7 hx hZ e7 V_ga (j := (Int32.ofNat ki)) ok.1 (i := ki) ok.2.1 (by omega) (g := (mkF m 103 #[.val (.ref a), .val (.int p1), .val (.int p2), .unset] [(.int p2), (.int (Int32.ofNat ki)), (.ref ga)])) rfl rfl (hb hby dap_103)
  have K := K.wr W8 (Or.inl (List.mem_of_getElem? (i := 2) rfl))
  have E_a := E_a.wr W8
  have F_latest_a := F_latest_a.other W8 (Or.inl ne_a_ga)
  have F_raised_a := F_raised_a.other W8 (Or.inl ne_a_ga)
  have F_ages_a := F_ages_a.other W8 (Or.inl ne_a_ga)
  have F_numbers_a := F_numbers_a.other W8 (Or.inl ne_a_ga)
  have F_entries_a := F_entries_a.other W8 (Or.inl ne_a_ga)
  have F_size_a := F_size_a.other W8 (Or.inl ne_a_ga)
  have F_sealed_a := F_sealed_a.other W8 (Or.inl ne_a_ga)
  have F_present_a := F_present_a.other W8 (Or.inl ne_a_ga)
  have F_hash_a := F_hash_a.other W8 (Or.inl ne_a_ga)
  have F_table_a := F_table_a.other W8 (Or.inl ne_a_ga)
  have F_earlier_a := F_earlier_a.other W8 (Or.inl ne_a_ga)
  have F_later_a := F_later_a.other W8 (Or.inl ne_a_ga)
  have V_ra := V_ra.other W8 ne_ra_ga
  have V_ga : own_Ar Z h8 ga kg .int (gs.set ki (.int p2)) := A8
  have N8 := Fr.snoc X8 N5 g_ga
  refine own_go (U' := T8.setTop (mkF m 104 #[.val (.ref a), .val (.int p1), .val (.int p2), .unset] [])) st8 ?_
  refine own_go (U' := T8.setTop (mkF m 105 #[.val (.ref a), .val (.int p1), .val (.int p2), .unset] [(.ref a)])) (fun t k => XS.aloadN X8.here hx rfl (hb hby dap_104) rfl rfl k) ?_
  refine own_go (U' := T8.setTop (mkF m 106 #[.val (.ref a), .val (.int p1), .val (.int p2), .unset] [(.ref a), (.ref a)])) (fun t k => XS.dup X8.here hx rfl (hb hby dap_105) rfl rfl k) ?_
  obtain ⟨T9, X9, e9, st9⟩ := getF X8 hx hZ hown (host := "") (Or.inl (hw _ (List.mem_of_getElem? (i := 85) rfl))) Via.refl e8 F_entries_a (g := (mkF m 106 #[.val (.ref a), .val (.int p1), .val (.int p2), .unset] [(.ref a), (.ref a)])) rfl rfl (hb hby dap_106)
  refine own_go (U' := T9.setTop (mkF m 109 #[.val (.ref a), .val (.int p1), .val (.int p2), .unset] [(.int (Int32.ofNat ki)), (.ref a)])) st9 ?_
  refine own_go (U' := T9.setTop (mkF m 110 #[.val (.ref a), .val (.int p1), .val (.int p2), .unset] [(.int (1 : Int32)), (.int (Int32.ofNat ki)), (.ref a)])) (fun t k => XS.iconst X9.here hx rfl (hb hby dap_109) k) ?_
  refine own_go (U' := T9.setTop (mkF m 111 #[.val (.ref a), .val (.int p1), .val (.int p2), .unset] [(.int ((Int32.ofNat ki) + (1 : Int32))), (.ref a)])) (fun t k => XS.iadd X9.here hx rfl (hb hby dap_110) rfl k) ?_
  rw [← own_succ]
  obtain ⟨T10, h10, X10, e10, W10, st10⟩ := putF X9 hx hZ hown (host := "") (Or.inl (hw _ (List.mem_of_getElem? (i := 85) rfl))) Via.refl e9 F_entries_a E_a (Or.inl (hw _ (List.mem_of_getElem? (i := 86) rfl))) (hw _ (List.mem_of_getElem? (i := 1) rfl)) (ty := .int) (by decide) rfl rfl (g := (mkF m 111 #[.val (.ref a), .val (.int p1), .val (.int p2), .unset] [(.int (Int32.ofNat (ki + 1))), (.ref a)])) rfl rfl (hb hby dap_111)
  have K := K.wr W10 (Or.inl (List.mem_of_getElem? (i := 0) rfl))
  have E_a := E_a.wr W10
  have F_latest_a := F_latest_a.other W10 (Or.inr (slot_ne (Or.inl (hw _ (List.mem_of_getElem? (i := 64) rfl))) (Or.inl (hw _ (List.mem_of_getElem? (i := 86) rfl))) (by decide) (t := (.array .int)) (t' := .int) (by decide) (by decide)))
  have F_raised_a := F_raised_a.other W10 (Or.inr (slot_ne (Or.inl (hw _ (List.mem_of_getElem? (i := 66) rfl))) (Or.inl (hw _ (List.mem_of_getElem? (i := 86) rfl))) (by decide) (t := (.array .int)) (t' := .int) (by decide) (by decide)))
  have F_ages_a := F_ages_a.other W10 (Or.inr (slot_ne (Or.inl (hw _ (List.mem_of_getElem? (i := 68) rfl))) (Or.inl (hw _ (List.mem_of_getElem? (i := 86) rfl))) (by decide) (t := (.array .int)) (t' := .int) (by decide) (by decide)))
  have F_numbers_a := F_numbers_a.other W10 (Or.inr (slot_ne (Or.inr (hw _ (List.mem_of_getElem? (i := 70) rfl))) (Or.inl (hw _ (List.mem_of_getElem? (i := 86) rfl))) (by decide) (t := (.object "com/example/obedient_dog/obedientdog/topologydiscovery/LinkNumbers")) (t' := .int) (by decide) (by decide)))
  have F_size_a := F_size_a.other W10 (Or.inr (slot_ne (Or.inl (hw _ (List.mem_of_getElem? (i := 88) rfl))) (Or.inl (hw _ (List.mem_of_getElem? (i := 86) rfl))) (by decide) (t := .int) (t' := .int) (by decide) (by decide)))
  have F_sealed_a := F_sealed_a.other W10 (Or.inr (slot_ne (Or.inl (hw _ (List.mem_of_getElem? (i := 110) rfl))) (Or.inl (hw _ (List.mem_of_getElem? (i := 86) rfl))) (by decide) (t := .int) (t' := .int) (by decide) (by decide)))
  have F_present_a := F_present_a.other W10 (Or.inr (slot_ne (Or.inl (hw _ (List.mem_of_getElem? (i := 94) rfl))) (Or.inl (hw _ (List.mem_of_getElem? (i := 86) rfl))) (by decide) (t := .int) (t' := .int) (by decide) (by decide)))
  have F_hash_a := F_hash_a.other W10 (Or.inr (slot_ne (Or.inl (hw _ (List.mem_of_getElem? (i := 96) rfl))) (Or.inl (hw _ (List.mem_of_getElem? (i := 86) rfl))) (by decide) (t := .int) (t' := .int) (by decide) (by decide)))
  have F_table_a := F_table_a.other W10 (Or.inr (slot_ne (Or.inl (hw _ (List.mem_of_getElem? (i := 103) rfl))) (Or.inl (hw _ (List.mem_of_getElem? (i := 86) rfl))) (by decide) (t := (.object "com/example/obedient_dog/obedientdog/topologydiscovery/AgeTable")) (t' := .int) (by decide) (by decide)))
  have F_earlier_a := F_earlier_a.other W10 (Or.inr (slot_ne (Or.inl (hw _ (List.mem_of_getElem? (i := 138) rfl))) (Or.inl (hw _ (List.mem_of_getElem? (i := 86) rfl))) (by decide) (t := (.array .int)) (t' := .int) (by decide) (by decide)))
  have F_later_a := F_later_a.other W10 (Or.inr (slot_ne (Or.inl (hw _ (List.mem_of_getElem? (i := 140) rfl))) (Or.inl (hw _ (List.mem_of_getElem? (i := 86) rfl))) (by decide) (t := (.array .int)) (t' := .int) (by decide) (by decide)))
  have V_ra := V_ra.other W10 (Ne.symm ne_a_ra)
  have V_ga := V_ga.other W10 (Ne.symm ne_a_ga)
  have F_entries_a := F_entries_a.same W10
  have N10 := Fr.snoc X10 N8 g_a
  refine own_go (U' := T10.setTop (mkF m 114 #[.val (.ref a), .val (.int p1), .val (.int p2), .unset] [])) st10 ?_
  refine own_go (U' := T10.setTop (mkF m 115 #[.val (.ref a), .val (.int p1), .val (.int p2), .unset] [(.ref a)])) (fun t k => XS.aloadN X10.here hx rfl (hb hby dap_114) rfl rfl k) ?_
  obtain ⟨T11, X11, e11, st11⟩ := getF X10 hx hZ hown (host := "") (Or.inl (hw _ (List.mem_of_getElem? (i := 85) rfl))) Via.refl e10 F_entries_a (g := (mkF m 115 #[.val (.ref a), .val (.int p1), .val (.int p2), .unset] [(.ref a)])) rfl rfl (hb hby dap_115)
  refine own_go (U' := T11.setTop (mkF m 118 #[.val (.ref a), .val (.int p1), .val (.int p2), .unset] [(.int (Int32.ofNat (ki + 1)))])) st11 ?_
  refine own_go (U' := T11.setTop (mkF m 119 #[.val (.ref a), .val (.int p1), .val (.int p2), .unset] [(.int (1 : Int32)), (.int (Int32.ofNat (ki + 1)))])) (fun t k => XS.iconst X11.here hx rfl (hb hby dap_118) k) ?_
  refine own_go (U' := T11.setTop (mkF m 120 #[.val (.ref a), .val (.int p1), .val (.int p2), .unset] [(.int ((Int32.ofNat (ki + 1)) - (1 : Int32)))])) (fun t k => XS.isub X11.here hx rfl (hb hby dap_119) rfl k) ?_
  rw [own_up1]
  refine own_retI X11 hx hret hlk (hb hby dap_120) ?_ (by decide) (by decide)
  rw [e11]
  exact ⟨rfl, N10, K, ⟨E_a, F_latest_a, F_raised_a, F_ages_a, F_numbers_a, F_entries_a, F_size_a, F_sealed_a, F_present_a, F_hash_a, F_table_a, F_earlier_a, F_later_a⟩, V_ra, V_ga⟩
theorem dad_0 : decode prog_39_method_5_code 0 = .ok (.iload_n 1, 1) := by decide +kernel
theorem dad_1 : decode prog_39_method_5_code 1 = .ok (.aload_n 0, 1) := by decide +kernel
theorem dad_2 : decode prog_39_method_5_code 2 = .ok (.getfield 9, 3) := by decide +kernel
theorem dad_5 : decode prog_39_method_5_code 5 = .ok (.arraylength, 1) := by decide +kernel
theorem dad_6 : decode prog_39_method_5_code 6 = .ok (.if_icmp .lt 37, 3) := by decide +kernel
theorem dad_9 : decode prog_39_method_5_code 9 = .ok (.aload_n 0, 1) := by decide +kernel
theorem dad_10 : decode prog_39_method_5_code 10 = .ok (.aload_n 0, 1) := by decide +kernel
theorem dad_11 : decode prog_39_method_5_code 11 = .ok (.getfield 9, 3) := by decide +kernel
theorem dad_14 : decode prog_39_method_5_code 14 = .ok (.iconst 2, 1) := by decide +kernel
theorem dad_15 : decode prog_39_method_5_code 15 = .ok (.aload_n 0, 1) := by decide +kernel
theorem dad_16 : decode prog_39_method_5_code 16 = .ok (.getfield 9, 3) := by decide +kernel
theorem dad_19 : decode prog_39_method_5_code 19 = .ok (.arraylength, 1) := by decide +kernel
theorem dad_20 : decode prog_39_method_5_code 20 = .ok (.imul, 1) := by decide +kernel
theorem dad_21 : decode prog_39_method_5_code 21 = .ok (.iload_n 1, 1) := by decide +kernel
theorem dad_22 : decode prog_39_method_5_code 22 = .ok (.iconst 1, 1) := by decide +kernel
theorem dad_23 : decode prog_39_method_5_code 23 = .ok (.iadd, 1) := by decide +kernel
theorem dad_24 : decode prog_39_method_5_code 24 = .ok (.invokestatic 42, 3) := by decide +kernel
theorem dad_27 : decode prog_39_method_5_code 27 = .ok (.aload_n 0, 1) := by decide +kernel
theorem dad_28 : decode prog_39_method_5_code 28 = .ok (.getfield 19, 3) := by decide +kernel
theorem dad_31 : decode prog_39_method_5_code 31 = .ok (.invokevirtual 48, 3) := by decide +kernel
theorem dad_34 : decode prog_39_method_5_code 34 = .ok (.invokestatic 42, 3) := by decide +kernel
theorem dad_37 : decode prog_39_method_5_code 37 = .ok (.invokestatic 54, 3) := by decide +kernel
theorem dad_40 : decode prog_39_method_5_code 40 = .ok (.putfield 9, 3) := by decide +kernel
theorem dad_43 : decode prog_39_method_5_code 43 = .ok (.aload_n 0, 1) := by decide +kernel
theorem dad_44 : decode prog_39_method_5_code 44 = .ok (.getfield 9, 3) := by decide +kernel
theorem dad_47 : decode prog_39_method_5_code 47 = .ok (.iload_n 1, 1) := by decide +kernel
theorem dad_48 : decode prog_39_method_5_code 48 = .ok (.aload_n 0, 1) := by decide +kernel
theorem dad_49 : decode prog_39_method_5_code 49 = .ok (.iload_n 1, 1) := by decide +kernel
theorem dad_50 : decode prog_39_method_5_code 50 = .ok (.iload_n 2, 1) := by decide +kernel
theorem dad_51 : decode prog_39_method_5_code 51 = .ok (.invokevirtual 60, 3) := by decide +kernel
theorem dad_54 : decode prog_39_method_5_code 54 = .ok (.iconst 1, 1) := by decide +kernel
theorem dad_55 : decode prog_39_method_5_code 55 = .ok (.iadd, 1) := by decide +kernel
theorem dad_56 : decode prog_39_method_5_code 56 = .ok (.iastore, 1) := by decide +kernel
theorem dad_57 : decode prog_39_method_5_code 57 = .ok (.aload_n 0, 1) := by decide +kernel
theorem dad_58 : decode prog_39_method_5_code 58 = .ok (.dup, 1) := by decide +kernel
theorem dad_59 : decode prog_39_method_5_code 59 = .ok (.getfield 63, 3) := by decide +kernel
theorem dad_62 : decode prog_39_method_5_code 62 = .ok (.iconst 1, 1) := by decide +kernel
theorem dad_63 : decode prog_39_method_5_code 63 = .ok (.iadd, 1) := by decide +kernel
theorem dad_64 : decode prog_39_method_5_code 64 = .ok (.putfield 63, 3) := by decide +kernel
theorem dad_67 : decode prog_39_method_5_code 67 = .ok (.aload_n 0, 1) := by decide +kernel
theorem dad_68 : decode prog_39_method_5_code 68 = .ok (.iload_n 1, 1) := by decide +kernel
theorem dad_69 : decode prog_39_method_5_code 69 = .ok (.iload_n 2, 1) := by decide +kernel
theorem dad_70 : decode prog_39_method_5_code 70 = .ok (.iconst 1, 1) := by decide +kernel
theorem dad_71 : decode prog_39_method_5_code 71 = .ok (.invokevirtual 66, 3) := by decide +kernel
theorem dad_74 : decode prog_39_method_5_code 74 = .ok (.aload_n 0, 1) := by decide +kernel
theorem dad_75 : decode prog_39_method_5_code 75 = .ok (.aconst_null, 1) := by decide +kernel
theorem dad_76 : decode prog_39_method_5_code 76 = .ok (.putfield 70, 3) := by decide +kernel
theorem dad_79 : decode prog_39_method_5_code 79 = .ok (.return_, 1) := by decide +kernel
theorem own_efad (m : MethodId) (a : Addr) (p1 p2 : Int32) : entryFrame m #[(.ref a), (.int p1), (.int p2)] 3 = mkF m 0 #[.val (.ref a), .val (.int p1), .val (.int p2)] [] := by first | (simp [entryFrame, mkF, argsToLocals, Value.category]; done) | rfl
set_option maxRecDepth 65536 in
set_option maxHeartbeats 40000000 in
theorem own_rmad (l : Launch) (Z : State) (a0 : Array Value) (hw : ∀ d ∈ tables_1, d.before a0 Z = true) (a : Addr) (p1 p2 : Int32) (h0 : Heap) (n0 : Nat) (g_a : n0 ≤ a) (la ra ga nu ha : Addr) (kh : ClassId) (en sz se pr hs : Int32) (tb ea lr : Value) (htb : tb.isRef = true) (hea : ea.isRef = true) (hlr : lr.isRef = true) (i ki : Nat) (hi : i < 8) (hp : p1 = Int32.ofNat i) (hk : ki < 8) (he : en = Int32.ofNat ki) (lt rs gs : List Value) (kl kr kg : ClassId) (g_la : n0 ≤ la) (g_ra : n0 ≤ ra) (g_ga : n0 ≤ ga) (ne_ra_ga : ra ≠ ga) (ne_la_ra : la ≠ ra) (ne_la_ga : la ≠ ga) (ne_ha_la : ha ≠ la) (ne_ha_ra : ha ≠ ra) (ne_ha_ga : ha ≠ ga) (F_a : own_F Z h0 a la ra ga nu en sz se pr hs tb ea lr) (V_la : own_Ar Z h0 la kl .int lt) (h_la : lt.length = 8) (V_ra : own_Ar Z h0 ra kr .int rs) (h_ra : rs.length = 8) (V_ga : own_Ar Z h0 ga kg .int gs) (h_ga : gs.length = 8) (E_nu : Exa Z h0 nu "com/example/obedient_dog/obedientdog/topologydiscovery/LinkNumbers") (F_hashes_nu : Fld Z h0 nu "com/example/obedient_dog/obedientdog/topologydiscovery/LinkNumbers" "hashes" "[I" (.ref ha)) (V_ha : own_Ar Z h0 ha kh .int own_zs) :
    own_C l Z (⟨"com/example/obedient_dog/obedientdog/topologydiscovery/AgeLog", "add", "(II)V"⟩ : MethodName) prog_39_method_5_code 3 none [] ({ frames := 2, cells := 0, slots := 0, locals := 34 } : Room) #[(.ref a), (.int p1), (.int p2)] h0 (fun v h L => v = none ∧ Fr n0 L ∧ Keep h0 h [a, la, ra, ga] ∧ ∃ sz pr hs, (own_F Z h a la ra ga nu (Int32.ofNat (ki + 1)) sz se pr hs .null ea lr) ∧ own_Ar Z h la kl .int (lt.set i (.int (Int32.ofNat (ki + 1)))) ∧ own_Ar Z h ra kr .int (rs.set ki (.int p1)) ∧ own_Ar Z h ga kg .int (gs.set ki (.int p2))) := by
  refine own_body (plainFor_of_name own_pn1) fun p e s m below meth c s₁ hx hby hml hret hlk hown hnm hZ X0 e0 => ?_
  rw [own_efad m a p1 p2]
  have N0 := Fr.nil n0
  have K := Keep.refl h0 [a, la, ra, ga]
  obtain ⟨E_a, F_latest_a, F_raised_a, F_ages_a, F_numbers_a, F_entries_a, F_size_a, F_sealed_a, F_present_a, F_hash_a, F_table_a, F_earlier_a, F_later_a⟩ := F_a
  have ne_a_la : a ≠ la := by
    obtain ⟨cb, Ab, -⟩ := V_la
    exact ne_arr E_a (hw _ (List.mem_of_getElem? (i := 1) rfl)) Ab
  have ne_a_ra : a ≠ ra := by
    obtain ⟨cb, Ab, -⟩ := V_ra
    exact ne_arr E_a (hw _ (List.mem_of_getElem? (i := 1) rfl)) Ab
  have ne_a_ga : a ≠ ga := by
    obtain ⟨cb, Ab, -⟩ := V_ga
    exact ne_arr E_a (hw _ (List.mem_of_getElem? (i := 1) rfl)) Ab
  have ne_a_ha : a ≠ ha := by
    obtain ⟨cb, Ab, -⟩ := V_ha
    exact ne_arr E_a (hw _ (List.mem_of_getElem? (i := 1) rfl)) Ab
  have ne_nu_la : nu ≠ la := by
    obtain ⟨cb, Ab, -⟩ := V_la
    exact ne_arr E_nu (hw _ (List.mem_of_getElem? (i := 4) rfl)) Ab
  have ne_nu_ra : nu ≠ ra := by
    obtain ⟨cb, Ab, -⟩ := V_ra
    exact ne_arr E_nu (hw _ (List.mem_of_getElem? (i := 4) rfl)) Ab
  have ne_nu_ga : nu ≠ ga := by
    obtain ⟨cb, Ab, -⟩ := V_ga
    exact ne_arr E_nu (hw _ (List.mem_of_getElem? (i := 4) rfl)) Ab
  have ne_nu_ha : nu ≠ ha := by
    obtain ⟨cb, Ab, -⟩ := V_ha
    exact ne_arr E_nu (hw _ (List.mem_of_getElem? (i := 4) rfl)) Ab
  have ne_a_nu : a ≠ nu := ne_exa E_a E_nu (by decide)
  have oi := own_ofn (i := i) (by omega)
  refine own_go (U' := s₁.setTop (mkF m 1 #[.val (.ref a), .val (.int p1), .val (.int p2)] [(.int p1)])) (fun t k => XS.iloadN X0.here hx rfl (hb hby dad_0) rfl k) ?_
  refine own_go (U' := s₁.setTop (mkF m 2 #[.val (.ref a), .val (.int p1), .val (.int p2)] [(.ref a), (.int p1)])) (fun t k => XS.aloadN X0.here hx rfl (hb hby dad_1) rfl rfl k) ?_
  obtain ⟨T1, X1, e1, st1⟩ := getF X0 hx hZ hown (host := "") (Or.inl (hw _ (List.mem_of_getElem? (i := 63) rfl))) Via.refl e0 F_latest_a (g := (mkF m 2 #[.val (.ref a), .val (.int p1), .val (.int p2)] [(.ref a), (.int p1)])) rfl rfl (hb hby dad_2)
  refine own_go (U' := T1.setTop (mkF m 5 #[.val (.ref a), .val (.int p1), .val (.int p2)] [(.ref la), (.int p1)])) st1 ?_
  refine own_go (U' := T1.setTop (mkF m 6 #[.val (.ref a), .val (.int p1), .val (.int p2)] [(.int (8 : Int32)), (.int p1)])) (own_arrlen X1 hx hZ e1 V_la (n := (8 : Int32)) (by rw [h_la]; rfl) (g := (mkF m 5 #[.val (.ref a), .val (.int p1), .val (.int p2)] [(.ref la), (.int p1)])) rfl rfl (hb hby dad_5)) ?_
  refine own_go (U' := T1.setTop (mkF m 43 #[.val (.ref a), .val (.int p1), .val (.int p2)] [])) (fun t k => XS.icmpYes X1.here hx rfl (pc0 := 6) (pc' := 43) rfl (hb hby dad_6) rfl (tlt (by rw [hp]; exact (own_lt (j := 8) (by omega) (by omega)).mpr hi)).1 (by decide) (by decide) k) ?_
  refine own_go (U' := T1.setTop (mkF m 44 #[.val (.ref a), .val (.int p1), .val (.int p2)] [(.ref a)])) (fun t k => XS.aloadN X1.here hx rfl (hb hby dad_43) rfl rfl k) ?_
  obtain ⟨T2, X2, e2, st2⟩ := getF X1 hx hZ hown (host := "") (Or.inl (hw _ (List.mem_of_getElem? (i := 63) rfl))) Via.refl e1 F_latest_a (g := (mkF m 44 #[.val (.ref a), .val (.int p1), .val (.int p2)] [(.ref a)])) rfl rfl (hb hby dad_44)
  refine own_go (U' := T2.setTop (mkF m 47 #[.val (.ref a), .val (.int p1), .val (.int p2)] [(.ref la)])) st2 ?_
  refine own_go (U' := T2.setTop (mkF m 48 #[.val (.ref a), .val (.int p1), .val (.int p2)] [(.int p1), (.ref la)])) (fun t k => XS.iloadN X2.here hx rfl (hb hby dad_47) rfl k) ?_
  refine own_go (U' := T2.setTop (mkF m 49 #[.val (.ref a), .val (.int p1), .val (.int p2)] [(.ref a), (.int p1), (.ref la)])) (fun t k => XS.aloadN X2.here hx rfl (hb hby dad_48) rfl rfl k) ?_
  refine own_go (U' := T2.setTop (mkF m 50 #[.val (.ref a), .val (.int p1), .val (.int p2)] [(.int p1), (.ref a), (.int p1), (.ref la)])) (fun t k => XS.iloadN X2.here hx rfl (hb hby dad_49) rfl k) ?_
  refine own_go (U' := T2.setTop (mkF m 51 #[.val (.ref a), .val (.int p1), .val (.int p2)] [(.int p2), (.int p1), (.ref a), (.int p1), (.ref la)])) (fun t k => XS.iloadN X2.here hx rfl (hb hby dad_50) rfl k) ?_
  obtain ⟨v3, T3, h3, L3, e3, X3, hQ3, st3⟩ := own_callP X2 hx hZ (y := (⟨"com/example/obedient_dog/obedientdog/topologydiscovery/AgeLog", "append", "(II)I"⟩ : MethodName)) hown (hw _ (List.mem_of_getElem? (i := 81) rfl)) (hw _ (List.mem_of_getElem? (i := 82) rfl)) (own_selP (y0 := (⟨"com/example/obedient_dog/obedientdog/topologydiscovery/AgeLog", "raise", "(II)Z"⟩ : MethodName)) (hw _ (List.mem_of_getElem? (i := 74) rfl)) rfl (hw _ (List.mem_of_getElem? (i := 83) rfl)) (hw _ (List.mem_of_getElem? (i := 82) rfl)) (by decide)) (hw _ (List.mem_of_getElem? (i := 83) rfl)) (hw _ (List.mem_of_getElem? (i := 2) rfl)) (hw _ (List.mem_of_getElem? (i := 84) rfl)) (by decide) E_a (own_rmap l Z a0 hw a p1 p2 h0 n0 g_a la ra ga nu ha kh en sz se pr hs tb ea lr htb hea hlr ki hk he rs gs kr kg g_ra g_ga ne_ra_ga ⟨E_a, F_latest_a, F_raised_a, F_ages_a, F_numbers_a, F_entries_a, F_size_a, F_sealed_a, F_present_a, F_hash_a, F_table_a, F_earlier_a, F_later_a⟩ V_ra h_ra V_ga h_ga) (W := 2) (by decide) (by decide) (g := (mkF m 51 #[.val (.ref a), .val (.int p1), .val (.int p2)] [(.int p2), (.int p1), (.ref a), (.int p1), (.ref la)])) rfl (by rw [hml]; rfl) (argsL := [(.int p1), (.int p2)]) (rest := [(.int p1), (.ref la)]) (lenOf own_pd2 rfl) rfl rfl (by show 2 * 0 + _ ≤ _; exact Nat.le_of_eq rfl) (hb hby dad_51) e2 (by decide) (by decide)
  obtain ⟨rfl, Nq, Kq, F_a, V_ra, V_ga⟩ := hQ3
  have K := K.trans Kq (allS (Or.inl (List.mem_of_getElem? (i := 0) rfl)) (allS (Or.inl (List.mem_of_getElem? (i := 2) rfl)) (allS (Or.inl (List.mem_of_getElem? (i := 3) rfl)) all0)))
  have E_a := E_a.keep Kq
  have E_nu := E_nu.keep Kq
  have F_hashes_nu := F_hashes_nu.keep Kq (ninS (Ne.symm ne_a_nu) (ninS ne_nu_ra (ninS ne_nu_ga nin0)))
  have V_ha := V_ha.keep Kq (ninS (Ne.symm ne_a_ha) (ninS ne_ha_ra (ninS ne_ha_ga nin0)))
  have V_la := V_la.keep Kq (ninS (Ne.symm ne_a_la) (ninS ne_la_ra (ninS ne_la_ga nin0)))
  obtain ⟨E_a, F_latest_a, F_raised_a, F_ages_a, F_numbers_a, F_entries_a, F_size_a, F_sealed_a, F_present_a, F_hash_a, F_table_a, F_earlier_a, F_later_a⟩ := F_a
  have N3 := Fr.app N0 Nq
  refine own_go (U' := T3.setTop (mkF m 54 #[.val (.ref a), .val (.int p1), .val (.int p2)] [(.int (Int32.ofNat ki)), (.int p1), (.ref la)])) st3 ?_
  refine own_go (U' := T3.setTop (mkF m 55 #[.val (.ref a), .val (.int p1), .val (.int p2)] [(.int (1 : Int32)), (.int (Int32.ofNat ki)), (.int p1), (.ref la)])) (fun t k => XS.iconst X3.here hx rfl (hb hby dad_54) k) ?_
  refine own_go (U' := T3.setTop (mkF m 56 #[.val (.ref a), .val (.int p1), .val (.int p2)] [(.int ((Int32.ofNat ki) + (1 : Int32))), (.int p1), (.ref la)])) (fun t k => XS.iadd X3.here hx rfl (hb hby dad_55) rfl k) ?_
  rw [← own_succ, hp]
  subst hp
  obtain ⟨T4, h4, X4, e4, W4, A4, st4⟩ := own_iastore X3 hx hZ e3 V_la (j := (Int32.ofNat i)) oi.1 (i := i) oi.2.1 (by omega) (g := (mkF m 56 #[.val (.ref a), .val (.int (Int32.ofNat i)), .val (.int p2)] [(.int (Int32.ofNat (ki + 1))), (.int (Int32.ofNat i)), (.ref la)])) rfl rfl (hb hby dad_56)
  have K := K.wr W4 (Or.inl (List.mem_of_getElem? (i := 1) rfl))
  have E_a := E_a.wr W4
  have E_nu := E_nu.wr W4
  have F_hashes_nu := F_hashes_nu.other W4 (Or.inl ne_nu_la)
  have V_ha := V_ha.other W4 ne_ha_la
  have F_latest_a := F_latest_a.other W4 (Or.inl ne_a_la)
  have F_raised_a := F_raised_a.other W4 (Or.inl ne_a_la)
  have F_ages_a := F_ages_a.other W4 (Or.inl ne_a_la)
  have F_numbers_a := F_numbers_a.other W4 (Or.inl ne_a_la)
  have F_entries_a := F_entries_a.other W4 (Or.inl ne_a_la)
  have F_size_a := F_size_a.other W4 (Or.inl ne_a_la)
  have F_sealed_a := F_sealed_a.other W4 (Or.inl ne_a_la)
  have F_present_a := F_present_a.other W4 (Or.inl ne_a_la)
  have F_hash_a := F_hash_a.other W4 (Or.inl ne_a_la)
  have F_table_a := F_table_a.other W4 (Or.inl ne_a_la)
  have F_earlier_a := F_earlier_a.other W4 (Or.inl ne_a_la)
  have F_later_a := F_later_a.other W4 (Or.inl ne_a_la)
  have V_ra := V_ra.other W4 (Ne.symm ne_la_ra)
  have V_ga := V_ga.other W4 (Ne.symm ne_la_ga)
  have V_la : own_Ar Z h4 la kl .int (lt.set i (.int (Int32.ofNat (ki + 1)))) := A4
  have N4 := Fr.snoc X4 N3 g_la
  refine own_go (U' := T4.setTop (mkF m 57 #[.val (.ref a), .val (.int (Int32.ofNat i)), .val (.int p2)] [])) st4 ?_
  refine own_go (U' := T4.setTop (mkF m 58 #[.val (.ref a), .val (.int (Int32.ofNat i)), .val (.int p2)] [(.ref a)])) (fun t k => XS.aloadN X4.here hx rfl (hb hby dad_57) rfl rfl k) ?_
  refine own_go (U' := T4.setTop (mkF m 59 #[.val (.ref a), .val (.int (Int32.ofNat i)), .val (.int p2)] [(.ref a), (.ref a)])) (fun t k => XS.dup X4.here hx rfl (hb hby dad_58) rfl rfl k) ?_
  obtain ⟨T5, X5, e5, st5⟩ := getF X4 hx hZ hown (host := "") (Or.inl (hw _ (List.mem_of_getElem? (i := 87) rfl))) Via.refl e4 F_size_a (g := (mkF m 59 #[.val (.ref a), .val (.int (Int32.ofNat i)), .val (.int p2)] [(.ref a), (.ref a)])) rfl rfl (hb hby dad_59)
  refine own_go (U' := T5.setTop (mkF m 62 #[.val (.ref a), .val (.int (Int32.ofNat i)), .val (.int p2)] [(.int sz), (.ref a)])) st5 ?_
  refine own_go (U' := T5.setTop (mkF m 63 #[.val (.ref a), .val (.int (Int32.ofNat i)), .val (.int p2)] [(.int (1 : Int32)), (.int sz), (.ref a)])) (fun t k => XS.iconst X5.here hx rfl (hb hby dad_62) k) ?_
  refine own_go (U' := T5.setTop (mkF m 64 #[.val (.ref a), .val (.int (Int32.ofNat i)), .val (.int p2)] [(.int (sz + (1 : Int32))), (.ref a)])) (fun t k => XS.iadd X5.here hx rfl (hb hby dad_63) rfl k) ?_
  obtain ⟨T6, h6, X6, e6, W6, st6⟩ := putF X5 hx hZ hown (host := "") (Or.inl (hw _ (List.mem_of_getElem? (i := 87) rfl))) Via.refl e5 F_size_a E_a (Or.inl (hw _ (List.mem_of_getElem? (i := 88) rfl))) (hw _ (List.mem_of_getElem? (i := 1) rfl)) (ty := .int) (by decide) rfl rfl (g := (mkF m 64 #[.val (.ref a), .val (.int (Int32.ofNat i)), .val (.int p2)] [(.int (sz + (1 : Int32))), (.ref a)])) rfl rfl (hb hby dad_64)
  have K := K.wr W6 (Or.inl (List.mem_of_getElem? (i := 0) rfl))
  have E_a := E_a.wr W6
  have E_nu := E_nu.wr W6
  have F_hashes_nu := F_hashes_nu.other W6 (Or.inl (Ne.symm ne_a_nu))
  have V_ha := V_ha.other W6 (Ne.symm ne_a_ha)
  have V_la := V_la.other W6 (Ne.symm ne_a_la)
  have F_latest_a := F_latest_a.other W6 (Or.inr (slot_ne (Or.inl (hw _ (List.mem_of_getElem? (i := 64) rfl))) (Or.inl (hw _ (List.mem_of_getElem? (i := 88) rfl))) (by decide) (t := (.array .int)) (t' := .int) (by decide) (by decide)))
  have F_raised_a := F_raised_a.other W6 (Or.inr (slot_ne (Or.inl (hw _ (List.mem_of_getElem? (i := 66) rfl))) (Or.inl (hw _ (List.mem_of_getElem? (i := 88) rfl))) (by decide) (t := (.array .int)) (t' := .int) (by decide) (by decide)))
  have F_ages_a := F_ages_a.other W6 (Or.inr (slot_ne (Or.inl (hw _ (List.mem_of_getElem? (i := 68) rfl))) (Or.inl (hw _ (List.mem_of_getElem? (i := 88) rfl))) (by decide) (t := (.array .int)) (t' := .int) (by decide) (by decide)))
  have F_numbers_a := F_numbers_a.other W6 (Or.inr (slot_ne (Or.inr (hw _ (List.mem_of_getElem? (i := 70) rfl))) (Or.inl (hw _ (List.mem_of_getElem? (i := 88) rfl))) (by decide) (t := (.object "com/example/obedient_dog/obedientdog/topologydiscovery/LinkNumbers")) (t' := .int) (by decide) (by decide)))
  have F_entries_a := F_entries_a.other W6 (Or.inr (slot_ne (Or.inl (hw _ (List.mem_of_getElem? (i := 86) rfl))) (Or.inl (hw _ (List.mem_of_getElem? (i := 88) rfl))) (by decide) (t := .int) (t' := .int) (by decide) (by decide)))
  have F_sealed_a := F_sealed_a.other W6 (Or.inr (slot_ne (Or.inl (hw _ (List.mem_of_getElem? (i := 110) rfl))) (Or.inl (hw _ (List.mem_of_getElem? (i := 88) rfl))) (by decide) (t := .int) (t' := .int) (by decide) (by decide)))
  have F_present_a := F_present_a.other W6 (Or.inr (slot_ne (Or.inl (hw _ (List.mem_of_getElem? (i := 94) rfl))) (Or.inl (hw _ (List.mem_of_getElem? (i := 88) rfl))) (by decide) (t := .int) (t' := .int) (by decide) (by decide)))
  have F_hash_a := F_hash_a.other W6 (Or.inr (slot_ne (Or.inl (hw _ (List.mem_of_getElem? (i := 96) rfl))) (Or.inl (hw _ (List.mem_of_getElem? (i := 88) rfl))) (by decide) (t := .int) (t' := .int) (by decide) (by decide)))
  have F_table_a := F_table_a.other W6 (Or.inr (slot_ne (Or.inl (hw _ (List.mem_of_getElem? (i := 103) rfl))) (Or.inl (hw _ (List.mem_of_getElem? (i := 88) rfl))) (by decide) (t := (.object "com/example/obedient_dog/obedientdog/topologydiscovery/AgeTable")) (t' := .int) (by decide) (by decide)))
  have F_earlier_a := F_earlier_a.other W6 (Or.inr (slot_ne (Or.inl (hw _ (List.mem_of_getElem? (i := 138) rfl))) (Or.inl (hw _ (List.mem_of_getElem? (i := 88) rfl))) (by decide) (t := (.array .int)) (t' := .int) (by decide) (by decide)))
  have F_later_a := F_later_a.other W6 (Or.inr (slot_ne (Or.inl (hw _ (List.mem_of_getElem? (i := 140) rfl))) (Or.inl (hw _ (List.mem_of_getElem? (i := 88) rfl))) (by decide) (t := (.array .int)) (t' := .int) (by decide) (by decide)))
  have V_ra := V_ra.other W6 (Ne.symm ne_a_ra)
  have V_ga := V_ga.other W6 (Ne.symm ne_a_ga)
  have F_size_a := F_size_a.same W6
  have N6 := Fr.snoc X6 N4 g_a
  refine own_go (U' := T6.setTop (mkF m 67 #[.val (.ref a), .val (.int (Int32.ofNat i)), .val (.int p2)] [])) st6 ?_
  refine own_go (U' := T6.setTop (mkF m 68 #[.val (.ref a), .val (.int (Int32.ofNat i)), .val (.int p2)] [(.ref a)])) (fun t k => XS.aloadN X6.here hx rfl (hb hby dad_67) rfl rfl k) ?_
  refine own_go (U' := T6.setTop (mkF m 69 #[.val (.ref a), .val (.int (Int32.ofNat i)), .val (.int p2)] [(.int (Int32.ofNat i)), (.ref a)])) (fun t k => XS.iloadN X6.here hx rfl (hb hby dad_68) rfl k) ?_
  refine own_go (U' := T6.setTop (mkF m 70 #[.val (.ref a), .val (.int (Int32.ofNat i)), .val (.int p2)] [(.int p2), (.int (Int32.ofNat i)), (.ref a)])) (fun t k => XS.iloadN X6.here hx rfl (hb hby dad_69) rfl k) ?_
  refine own_go (U' := T6.setTop (mkF m 71 #[.val (.ref a), .val (.int (Int32.ofNat i)), .val (.int p2)] [(.int (1 : Int32)), (.int p2), (.int (Int32.ofNat i)), (.ref a)])) (fun t k => XS.iconst X6.here hx rfl (hb hby dad_70) k) ?_
  obtain ⟨v7, T7, h7, L7, e7, X7, hQ7, st7⟩ := own_callP X6 hx hZ (y := (⟨"com/example/obedient_dog/obedientdog/topologydiscovery/AgeLog", "count", "(III)V"⟩ : MethodName)) hown (hw _ (List.mem_of_getElem? (i := 89) rfl)) (hw _ (List.mem_of_getElem? (i := 90) rfl)) (own_selP (y0 := (⟨"com/example/obedient_dog/obedientdog/topologydiscovery/AgeLog", "raise", "(II)Z"⟩ : MethodName)) (hw _ (List.mem_of_getElem? (i := 74) rfl)) rfl (hw _ (List.mem_of_getElem? (i := 91) rfl)) (hw _ (List.mem_of_getElem? (i := 90) rfl)) (by decide)) (hw _ (List.mem_of_getElem? (i := 91) rfl)) (hw _ (List.mem_of_getElem? (i := 2) rfl)) (hw _ (List.mem_of_getElem? (i := 92) rfl)) (by decide) E_a (own_rmct l Z a0 hw a (Int32.ofNat i) p2 1 h6 n0 g_a la ra ga nu ha kh _ _ _ _ _ _ _ _ htb hea hlr i (by omega) rfl ⟨E_a, F_latest_a, F_raised_a, F_ages_a, F_numbers_a, F_entries_a, F_size_a, F_sealed_a, F_present_a, F_hash_a, F_table_a, F_earlier_a, F_later_a⟩ E_nu F_hashes_nu V_ha) (W := 0) (by decide) (by decide) (g := (mkF m 71 #[.val (.ref a), .val (.int (Int32.ofNat i)), .val (.int p2)] [(.int (1 : Int32)), (.int p2), (.int (Int32.ofNat i)), (.ref a)])) rfl (by rw [hml]; rfl) (argsL := [(.int (Int32.ofNat i)), (.int p2), (.int (1 : Int32))]) (rest := []) (lenOf own_pd1 rfl) rfl rfl (by show 2 * 0 + _ ≤ _; exact Nat.le_of_eq rfl) (hb hby dad_71) e6 (by decide) (by decide)
  obtain ⟨rfl, Nq, Kq, pr2, hs2, F_a⟩ := hQ7
  have K := K.trans Kq (allS (Or.inl (List.mem_of_getElem? (i := 0) rfl)) all0)
  have E_a := E_a.keep Kq
  have E_nu := E_nu.keep Kq
  have F_hashes_nu := F_hashes_nu.keep Kq (ninS (Ne.symm ne_a_nu) nin0)
  have V_ha := V_ha.keep Kq (ninS (Ne.symm ne_a_ha) nin0)
  have V_la := V_la.keep Kq (ninS (Ne.symm ne_a_la) nin0)
  have V_ra := V_ra.keep Kq (ninS (Ne.symm ne_a_ra) nin0)
  have V_ga := V_ga.keep Kq (ninS (Ne.symm ne_a_ga) nin0)
  obtain ⟨E_a, F_latest_a, F_raised_a, F_ages_a, F_numbers_a, F_entries_a, F_size_a, F_sealed_a, F_present_a, F_hash_a, F_table_a, F_earlier_a, F_later_a⟩ := F_a
  have N7 := Fr.app N6 Nq
  refine own_go (U' := T7.setTop (mkF m 74 #[.val (.ref a), .val (.int (Int32.ofNat i)), .val (.int p2)] [])) st7 ?_
  refine own_go (U' := T7.setTop (mkF m 75 #[.val (.ref a), .val (.int (Int32.ofNat i)), .val (.int p2)] [(.ref a)])) (fun t k => XS.aloadN X7.here hx rfl (hb hby dad_74) rfl rfl k) ?_
  refine own_go (U' := T7.setTop (mkF m 76 #[.val (.ref a), .val (.int (Int32.ofNat i)), .val (.int p2)] [.null, (.ref a)])) (fun t k => XS.aconstNull X7.here hx rfl (hb hby dad_75) k) ?_
  obtain ⟨T8, h8, X8, e8, W8, st8⟩ := putF X7 hx hZ hown (host := "") (Or.inl (hw _ (List.mem_of_getElem? (i := 102) rfl))) Via.refl e7 F_table_a E_a (Or.inl (hw _ (List.mem_of_getElem? (i := 103) rfl))) (hw _ (List.mem_of_getElem? (i := 1) rfl)) (ty := (.object "com/example/obedient_dog/obedientdog/topologydiscovery/AgeTable")) (by decide) rfl rfl (g := (mkF m 76 #[.val (.ref a), .val (.int (Int32.ofNat i)), .val (.int p2)] [.null, (.ref a)])) rfl rfl (hb hby dad_76)
  have K := K.wr W8 (Or.inl (List.mem_of_getElem? (i := 0) rfl))
  have E_a := E_a.wr W8
  have E_nu := E_nu.wr W8
  have F_hashes_nu := F_hashes_nu.other W8 (Or.inl (Ne.symm ne_a_nu))
  have V_ha := V_ha.other W8 (Ne.symm ne_a_ha)
  have V_la := V_la.other W8 (Ne.symm ne_a_la)
  have V_ra := V_ra.other W8 (Ne.symm ne_a_ra)
  have V_ga := V_ga.other W8 (Ne.symm ne_a_ga)
  have F_latest_a := F_latest_a.other W8 (Or.inr (slot_ne (Or.inl (hw _ (List.mem_of_getElem? (i := 64) rfl))) (Or.inl (hw _ (List.mem_of_getElem? (i := 103) rfl))) (by decide) (t := (.array .int)) (t' := (.object "com/example/obedient_dog/obedientdog/topologydiscovery/AgeTable")) (by decide) (by decide)))
  have F_raised_a := F_raised_a.other W8 (Or.inr (slot_ne (Or.inl (hw _ (List.mem_of_getElem? (i := 66) rfl))) (Or.inl (hw _ (List.mem_of_getElem? (i := 103) rfl))) (by decide) (t := (.array .int)) (t' := (.object "com/example/obedient_dog/obedientdog/topologydiscovery/AgeTable")) (by decide) (by decide)))
  have F_ages_a := F_ages_a.other W8 (Or.inr (slot_ne (Or.inl (hw _ (List.mem_of_getElem? (i := 68) rfl))) (Or.inl (hw _ (List.mem_of_getElem? (i := 103) rfl))) (by decide) (t := (.array .int)) (t' := (.object "com/example/obedient_dog/obedientdog/topologydiscovery/AgeTable")) (by decide) (by decide)))
  have F_numbers_a := F_numbers_a.other W8 (Or.inr (slot_ne (Or.inr (hw _ (List.mem_of_getElem? (i := 70) rfl))) (Or.inl (hw _ (List.mem_of_getElem? (i := 103) rfl))) (by decide) (t := (.object "com/example/obedient_dog/obedientdog/topologydiscovery/LinkNumbers")) (t' := (.object "com/example/obedient_dog/obedientdog/topologydiscovery/AgeTable")) (by decide) (by decide)))
  have F_entries_a := F_entries_a.other W8 (Or.inr (slot_ne (Or.inl (hw _ (List.mem_of_getElem? (i := 86) rfl))) (Or.inl (hw _ (List.mem_of_getElem? (i := 103) rfl))) (by decide) (t := .int) (t' := (.object "com/example/obedient_dog/obedientdog/topologydiscovery/AgeTable")) (by decide) (by decide)))
  have F_size_a := F_size_a.other W8 (Or.inr (slot_ne (Or.inl (hw _ (List.mem_of_getElem? (i := 88) rfl))) (Or.inl (hw _ (List.mem_of_getElem? (i := 103) rfl))) (by decide) (t := .int) (t' := (.object "com/example/obedient_dog/obedientdog/topologydiscovery/AgeTable")) (by decide) (by decide)))
  have F_sealed_a := F_sealed_a.other W8 (Or.inr (slot_ne (Or.inl (hw _ (List.mem_of_getElem? (i := 110) rfl))) (Or.inl (hw _ (List.mem_of_getElem? (i := 103) rfl))) (by decide) (t := .int) (t' := (.object "com/example/obedient_dog/obedientdog/topologydiscovery/AgeTable")) (by decide) (by decide)))
  have F_present_a := F_present_a.other W8 (Or.inr (slot_ne (Or.inl (hw _ (List.mem_of_getElem? (i := 94) rfl))) (Or.inl (hw _ (List.mem_of_getElem? (i := 103) rfl))) (by decide) (t := .int) (t' := (.object "com/example/obedient_dog/obedientdog/topologydiscovery/AgeTable")) (by decide) (by decide)))
  have F_hash_a := F_hash_a.other W8 (Or.inr (slot_ne (Or.inl (hw _ (List.mem_of_getElem? (i := 96) rfl))) (Or.inl (hw _ (List.mem_of_getElem? (i := 103) rfl))) (by decide) (t := .int) (t' := (.object "com/example/obedient_dog/obedientdog/topologydiscovery/AgeTable")) (by decide) (by decide)))
  have F_earlier_a := F_earlier_a.other W8 (Or.inr (slot_ne (Or.inl (hw _ (List.mem_of_getElem? (i := 138) rfl))) (Or.inl (hw _ (List.mem_of_getElem? (i := 103) rfl))) (by decide) (t := (.array .int)) (t' := (.object "com/example/obedient_dog/obedientdog/topologydiscovery/AgeTable")) (by decide) (by decide)))
  have F_later_a := F_later_a.other W8 (Or.inr (slot_ne (Or.inl (hw _ (List.mem_of_getElem? (i := 140) rfl))) (Or.inl (hw _ (List.mem_of_getElem? (i := 103) rfl))) (by decide) (t := (.array .int)) (t' := (.object "com/example/obedient_dog/obedientdog/topologydiscovery/AgeTable")) (by decide) (by decide)))
  have F_table_a := F_table_a.same W8
  have N8 := Fr.snoc X8 N7 g_a
  refine own_go (U' := T8.setTop (mkF m 79 #[.val (.ref a), .val (.int (Int32.ofNat i)), .val (.int p2)] [])) st8 ?_
  refine own_retV X8 hx hret hlk (hb hby dad_79) ?_ (by decide) (by decide)
  rw [e8]
  exact ⟨rfl, N8, K, _, _, _, ⟨E_a, F_latest_a, F_raised_a, F_ages_a, F_numbers_a, F_entries_a, F_size_a, F_sealed_a, F_present_a, F_hash_a, F_table_a, F_earlier_a, F_later_a⟩, V_la, V_ra, V_ga⟩
theorem dc0_0 : decode prog_39_method_14_code 0 = .ok (.aload_n 0, 1) := by decide +kernel
theorem dc0_1 : decode prog_39_method_14_code 1 = .ok (.getfield 96, 3) := by decide +kernel
theorem dc0_4 : decode prog_39_method_14_code 4 = .ok (.ifnonnull 25, 3) := by decide +kernel
theorem dc0_7 : decode prog_39_method_14_code 7 = .ok (.aload_n 0, 1) := by decide +kernel
theorem dc0_8 : decode prog_39_method_14_code 8 = .ok (.aload_n 0, 1) := by decide +kernel
theorem dc0_9 : decode prog_39_method_14_code 9 = .ok (.getfield 13, 3) := by decide +kernel
theorem dc0_12 : decode prog_39_method_14_code 12 = .ok (.arraylength, 1) := by decide +kernel
theorem dc0_13 : decode prog_39_method_14_code 13 = .ok (.newarray .int, 2) := by decide +kernel
theorem dc0_15 : decode prog_39_method_14_code 15 = .ok (.putfield 96, 3) := by decide +kernel
theorem dc0_18 : decode prog_39_method_14_code 18 = .ok (.aload_n 0, 1) := by decide +kernel
theorem dc0_19 : decode prog_39_method_14_code 19 = .ok (.aload_n 0, 1) := by decide +kernel
theorem dc0_20 : decode prog_39_method_14_code 20 = .ok (.getfield 13, 3) := by decide +kernel
theorem dc0_23 : decode prog_39_method_14_code 23 = .ok (.arraylength, 1) := by decide +kernel
theorem dc0_24 : decode prog_39_method_14_code 24 = .ok (.newarray .int, 2) := by decide +kernel
theorem dc0_26 : decode prog_39_method_14_code 26 = .ok (.putfield 99, 3) := by decide +kernel
theorem dc0_29 : decode prog_39_method_14_code 29 = .ok (.aload_n 0, 1) := by decide +kernel
theorem dc0_30 : decode prog_39_method_14_code 30 = .ok (.getfield 96, 3) := by decide +kernel
theorem dc0_33 : decode prog_39_method_14_code 33 = .ok (.iload_n 2, 1) := by decide +kernel
theorem dc0_34 : decode prog_39_method_14_code 34 = .ok (.iload_n 1, 1) := by decide +kernel
theorem dc0_35 : decode prog_39_method_14_code 35 = .ok (.iconst 1, 1) := by decide +kernel
theorem dc0_36 : decode prog_39_method_14_code 36 = .ok (.iadd, 1) := by decide +kernel
theorem dc0_37 : decode prog_39_method_14_code 37 = .ok (.iastore, 1) := by decide +kernel
theorem dc0_38 : decode prog_39_method_14_code 38 = .ok (.aload_n 0, 1) := by decide +kernel
theorem dc0_39 : decode prog_39_method_14_code 39 = .ok (.getfield 99, 3) := by decide +kernel
theorem dc0_42 : decode prog_39_method_14_code 42 = .ok (.iload_n 1, 1) := by decide +kernel
theorem dc0_43 : decode prog_39_method_14_code 43 = .ok (.iload_n 2, 1) := by decide +kernel
theorem dc0_44 : decode prog_39_method_14_code 44 = .ok (.iastore, 1) := by decide +kernel
theorem dc0_45 : decode prog_39_method_14_code 45 = .ok (.return_, 1) := by decide +kernel
theorem own_efc0 (m : MethodId) (a : Addr) (p1 p2 : Int32) : entryFrame m #[(.ref a), (.int p1), (.int p2)] 3 = mkF m 0 #[.val (.ref a), .val (.int p1), .val (.int p2)] [] := by first | (simp [entryFrame, mkF, argsToLocals, Value.category]; done) | rfl
set_option maxRecDepth 65536 in
set_option maxHeartbeats 40000000 in
theorem own_rmc0 (l : Launch) (Z : State) (a0 : Array Value) (hw : ∀ d ∈ tables_1, d.before a0 Z = true) (a : Addr) (p1 p2 : Int32) (h0 : Heap) (n0 : Nat) (O : Old Z n0 h0) (g_a : n0 ≤ a) (la ra ga nu ha : Addr) (kh : ClassId) (en sz se pr hs : Int32) (tb : Value) (htb : tb.isRef = true) (i ki : Nat) (hi : i < 8) (hk : ki < 8) (hp : p1 = Int32.ofNat i) (hq : p2 = Int32.ofNat ki) (rs : List Value) (kr : ClassId) (F_a : own_F Z h0 a la ra ga nu en sz se pr hs tb .null .null) (V_ra : own_Ar Z h0 ra kr .int rs) (h_ra : rs.length = 8) :
    own_C l Z (⟨"com/example/obedient_dog/obedientdog/topologydiscovery/AgeLog", "chain", "(II)V"⟩ : MethodName) prog_39_method_14_code 3 none [] ({ frames := 0, cells := 2, slots := 16, locals := 0 } : Room) #[(.ref a), (.int p1), (.int p2)] h0 (fun v h L => v = none ∧ Fr n0 L ∧ Keep h0 h [a] ∧ ∃ xe xl ke kl2, (own_F Z h a la ra ga nu en sz se pr hs tb (.ref xe) (.ref xl)) ∧ own_Ar Z h xe ke .int (own_is ((List.replicate 8 0).set ki (i + 1))) ∧ own_Ar Z h xl kl2 .int (own_is ((List.replicate 8 0).set i ki)) ∧ h0.size ≤ xe ∧ h0.size ≤ xl ∧ n0 ≤ xe ∧ n0 ≤ xl ∧ xe ≠ xl) := by
  refine own_body (plainFor_of_name own_pn1) fun p e s m below meth c s₁ hx hby hml hret hlk hown hnm hZ X0 e0 => ?_
  rw [own_efc0 m a p1 p2]
  have N0 := Fr.nil n0
  have K := Keep.refl h0 [a]
  obtain ⟨E_a, F_latest_a, F_raised_a, F_ages_a, F_numbers_a, F_entries_a, F_size_a, F_sealed_a, F_present_a, F_hash_a, F_table_a, F_earlier_a, F_later_a⟩ := F_a
  have ne_a_ra : a ≠ ra := by
    obtain ⟨cb, Ab, -⟩ := V_ra
    exact ne_arr E_a (hw _ (List.mem_of_getElem? (i := 1) rfl)) Ab
  subst hp hq
  have oi := own_ofn (i := i) (by omega)
  have ok := own_ofn (i := ki) (by omega)
  refine own_go (U' := s₁.setTop (mkF m 1 #[.val (.ref a), .val (.int (Int32.ofNat i)), .val (.int (Int32.ofNat ki))] [(.ref a)])) (fun t k => XS.aloadN X0.here hx rfl (hb hby dc0_0) rfl rfl k) ?_
  obtain ⟨T1, X1, e1, st1⟩ := getF X0 hx hZ hown (host := "") (Or.inl (hw _ (List.mem_of_getElem? (i := 137) rfl))) Via.refl e0 F_earlier_a (g := (mkF m 1 #[.val (.ref a), .val (.int (Int32.ofNat i)), .val (.int (Int32.ofNat ki))] [(.ref a)])) rfl rfl (hb hby dc0_1)
  refine own_go (U' := T1.setTop (mkF m 4 #[.val (.ref a), .val (.int (Int32.ofNat i)), .val (.int (Int32.ofNat ki))] [.null])) st1 ?_
  refine own_go (U' := T1.setTop (mkF m 7 #[.val (.ref a), .val (.int (Int32.ofNat i)), .val (.int (Int32.ofNat ki))] [])) (fun t k => XS.ifnonnullNo X1.here hx rfl (hb hby dc0_4) rfl k) ?_
  refine own_go (U' := T1.setTop (mkF m 8 #[.val (.ref a), .val (.int (Int32.ofNat i)), .val (.int (Int32.ofNat ki))] [(.ref a)])) (fun t k => XS.aloadN X1.here hx rfl (hb hby dc0_7) rfl rfl k) ?_
  refine own_go (U' := T1.setTop (mkF m 9 #[.val (.ref a), .val (.int (Int32.ofNat i)), .val (.int (Int32.ofNat ki))] [(.ref a), (.ref a)])) (fun t k => XS.aloadN X1.here hx rfl (hb hby dc0_8) rfl rfl k) ?_
  obtain ⟨T2, X2, e2, st2⟩ := getF X1 hx hZ hown (host := "") (Or.inl (hw _ (List.mem_of_getElem? (i := 65) rfl))) Via.refl e1 F_raised_a (g := (mkF m 9 #[.val (.ref a), .val (.int (Int32.ofNat i)), .val (.int (Int32.ofNat ki))] [(.ref a), (.ref a)])) rfl rfl (hb hby dc0_9)
  refine own_go (U' := T2.setTop (mkF m 12 #[.val (.ref a), .val (.int (Int32.ofNat i)), .val (.int (Int32.ofNat ki))] [(.ref ra), (.ref a)])) st2 ?_
  refine own_go (U' := T2.setTop (mkF m 13 #[.val (.ref a), .val (.int (Int32.ofNat i)), .val (.int (Int32.ofNat ki))] [(.int (8 : Int32)), (.ref a)])) (own_arrlen X2 hx hZ e2 V_ra (n := (8 : Int32)) (by rw [h_ra]; rfl) (g := (mkF m 12 #[.val (.ref a), .val (.int (Int32.ofNat i)), .val (.int (Int32.ofNat ki))] [(.ref ra), (.ref a)])) rfl rfl (hb hby dc0_12)) ?_
  obtain ⟨T3, h3, k3, X3, e3, E3, A3, Y3, st3⟩ := own_newarr X2 hx hZ (hw _ (List.mem_of_getElem? (i := 56) rfl)) e2 (g := (mkF m 13 #[.val (.ref a), .val (.int (Int32.ofNat i)), .val (.int (Int32.ofNat ki))] [(.int (8 : Int32)), (.ref a)])) rfl (hb hby dc0_13) rfl (by decide) (cap := 8) (by decide) (by decide) (by decide) (by decide) (ad := "[I") (by decide) rfl (vs := (own_is (List.replicate 8 0))) rfl
  obtain ⟨b3, g3⟩ : ∃ z, z = h0.size := ⟨_, rfl⟩
  rw [← g3] at A3 Y3 st3
  have ne_a_b3 : a ≠ b3 := Nat.ne_of_lt (Nat.lt_of_lt_of_eq E_a.lt g3.symm)
  have ne_ra_b3 : ra ≠ b3 := Nat.ne_of_lt (Nat.lt_of_lt_of_eq V_ra.lt g3.symm)
  have g_b3 : n0 ≤ b3 := Nat.le_trans (Nat.le_trans (Nat.le_of_eq O.1.symm) O.2.1) (Nat.le_of_eq g3.symm)
  have sz_b3 : h0.size ≤ b3 := Nat.le_trans K.1 (Nat.le_of_eq g3.symm)
  have K := K.ext E3
  have O := O.ext E3
  have E_a := E_a.ext E3
  have F_latest_a := F_latest_a.ext E3
  have F_raised_a := F_raised_a.ext E3
  have F_ages_a := F_ages_a.ext E3
  have F_numbers_a := F_numbers_a.ext E3
  have F_entries_a := F_entries_a.ext E3
  have F_size_a := F_size_a.ext E3
  have F_sealed_a := F_sealed_a.ext E3
  have F_present_a := F_present_a.ext E3
  have F_hash_a := F_hash_a.ext E3
  have F_table_a := F_table_a.ext E3
  have F_earlier_a := F_earlier_a.ext E3
  have F_later_a := F_later_a.ext E3
  have V_ra := V_ra.ext E3
  have V_b3 : own_Ar Z h3 b3 k3 .int (own_is (List.replicate 8 0)) := A3
  have E_b3 := Y3
  refine own_go (U' := T3.setTop (mkF m 15 #[.val (.ref a), .val (.int (Int32.ofNat i)), .val (.int (Int32.ofNat ki))] [(.ref b3), (.ref a)])) st3 ?_
  obtain ⟨T4, h4, X4, e4, W4, st4⟩ := putF X3 hx hZ hown (host := "") (Or.inl (hw _ (List.mem_of_getElem? (i := 137) rfl))) Via.refl e3 F_earlier_a E_a (Or.inl (hw _ (List.mem_of_getElem? (i := 138) rfl))) (hw _ (List.mem_of_getElem? (i := 1) rfl)) (ty := (.array .int)) (by decide) rfl rfl (g := (mkF m 15 #[.val (.ref a), .val (.int (Int32.ofNat i)), .val (.int (Int32.ofNat ki))] [(.ref b3), (.ref a)])) rfl rfl (hb hby dc0_15)
  have K := K.wr W4 (Or.inl (List.mem_of_getElem? (i := 0) rfl))
  have O := O.wr W4 g_a
  have E_a := E_a.wr W4
  have F_latest_a := F_latest_a.other W4 (Or.inr (slot_ne (Or.inl (hw _ (List.mem_of_getElem? (i := 64) rfl))) (Or.inl (hw _ (List.mem_of_getElem? (i := 138) rfl))) (by decide) (t := (.array .int)) (t' := (.array .int)) (by decide) (by decide)))
  have F_raised_a := F_raised_a.other W4 (Or.inr (slot_ne (Or.inl (hw _ (List.mem_of_getElem? (i := 66) rfl))) (Or.inl (hw _ (List.mem_of_getElem? (i := 138) rfl))) (by decide) (t := (.array .int)) (t' := (.array .int)) (by decide) (by decide)))
  have F_ages_a := F_ages_a.other W4 (Or.inr (slot_ne (Or.inl (hw _ (List.mem_of_getElem? (i := 68) rfl))) (Or.inl (hw _ (List.mem_of_getElem? (i := 138) rfl))) (by decide) (t := (.array .int)) (t' := (.array .int)) (by decide) (by decide)))
  have F_numbers_a := F_numbers_a.other W4 (Or.inr (slot_ne (Or.inr (hw _ (List.mem_of_getElem? (i := 70) rfl))) (Or.inl (hw _ (List.mem_of_getElem? (i := 138) rfl))) (by decide) (t := (.object "com/example/obedient_dog/obedientdog/topologydiscovery/LinkNumbers")) (t' := (.array .int)) (by decide) (by decide)))
  have F_entries_a := F_entries_a.other W4 (Or.inr (slot_ne (Or.inl (hw _ (List.mem_of_getElem? (i := 86) rfl))) (Or.inl (hw _ (List.mem_of_getElem? (i := 138) rfl))) (by decide) (t := .int) (t' := (.array .int)) (by decide) (by decide)))
  have F_size_a := F_size_a.other W4 (Or.inr (slot_ne (Or.inl (hw _ (List.mem_of_getElem? (i := 88) rfl))) (Or.inl (hw _ (List.mem_of_getElem? (i := 138) rfl))) (by decide) (t := .int) (t' := (.array .int)) (by decide) (by decide)))
  have F_sealed_a := F_sealed_a.other W4 (Or.inr (slot_ne (Or.inl (hw _ (List.mem_of_getElem? (i := 110) rfl))) (Or.inl (hw _ (List.mem_of_getElem? (i := 138) rfl))) (by decide) (t := .int) (t' := (.array .int)) (by decide) (by decide)))
  have F_present_a := F_present_a.other W4 (Or.inr (slot_ne (Or.inl (hw _ (List.mem_of_getElem? (i := 94) rfl))) (Or.inl (hw _ (List.mem_of_getElem? (i := 138) rfl))) (by decide) (t := .int) (t' := (.array .int)) (by decide) (by decide)))
  have F_hash_a := F_hash_a.other W4 (Or.inr (slot_ne (Or.inl (hw _ (List.mem_of_getElem? (i := 96) rfl))) (Or.inl (hw _ (List.mem_of_getElem? (i := 138) rfl))) (by decide) (t := .int) (t' := (.array .int)) (by decide) (by decide)))
  have F_table_a := F_table_a.other W4 (Or.inr (slot_ne (Or.inl (hw _ (List.mem_of_getElem? (i := 103) rfl))) (Or.inl (hw _ (List.mem_of_getElem? (i := 138) rfl))) (by decide) (t := (.object "com/example/obedient_dog/obedientdog/topologydiscovery/AgeTable")) (t' := (.array .int)) (by decide) (by decide)))
  have F_later_a := F_later_a.other W4 (Or.inr (slot_ne (Or.inl (hw _ (List.mem_of_getElem? (i := 140) rfl))) (Or.inl (hw _ (List.mem_of_getElem? (i := 138) rfl))) (by decide) (t := (.array .int)) (t' := (.array .int)) (by decide) (by decide)))
  have V_ra := V_ra.other W4 (Ne.symm ne_a_ra)
  have V_b3 := V_b3.other W4 (Ne.symm ne_a_b3)
  have E_b3 := E_b3.wr W4
  have F_earlier_a := F_earlier_a.same W4
  have N4 := Fr.snoc X4 N0 g_a
  refine own_go (U' := T4.setTop (mkF m 18 #[.val (.ref a), .val (.int (Int32.ofNat i)), .val (.int (Int32.ofNat ki))] [])) st4 ?_
  refine own_go (U' := T4.setTop (mkF m 19 #[.val (.ref a), .val (.int (Int32.ofNat i)), .val (.int (Int32.ofNat ki))] [(.ref a)])) (fun t k => XS.aloadN X4.here hx rfl (hb hby dc0_18) rfl rfl k) ?_
  refine own_go (U' := T4.setTop (mkF m 20 #[.val (.ref a), .val (.int (Int32.ofNat i)), .val (.int (Int32.ofNat ki))] [(.ref a), (.ref a)])) (fun t k => XS.aloadN X4.here hx rfl (hb hby dc0_19) rfl rfl k) ?_
  obtain ⟨T5, X5, e5, st5⟩ := getF X4 hx hZ hown (host := "") (Or.inl (hw _ (List.mem_of_getElem? (i := 65) rfl))) Via.refl e4 F_raised_a (g := (mkF m 20 #[.val (.ref a), .val (.int (Int32.ofNat i)), .val (.int (Int32.ofNat ki))] [(.ref a), (.ref a)])) rfl rfl (hb hby dc0_20)
  refine own_go (U' := T5.setTop (mkF m 23 #[.val (.ref a), .val (.int (Int32.ofNat i)), .val (.int (Int32.ofNat ki))] [(.ref ra), (.ref a)])) st5 ?_
  refine own_go (U' := T5.setTop (mkF m 24 #[.val (.ref a), .val (.int (Int32.ofNat i)), .val (.int (Int32.ofNat ki))] [(.int (8 : Int32)), (.ref a)])) (own_arrlen X5 hx hZ e5 V_ra (n := (8 : Int32)) (by rw [h_ra]; rfl) (g := (mkF m 23 #[.val (.ref a), .val (.int (Int32.ofNat i)), .val (.int (Int32.ofNat ki))] [(.ref ra), (.ref a)])) rfl rfl (hb hby dc0_23)) ?_
  obtain ⟨T6, h6, k6, X6, e6, E6, A6, Y6, st6⟩ := own_newarr X5 hx hZ (hw _ (List.mem_of_getElem? (i := 56) rfl)) e5 (g := (mkF m 24 #[.val (.ref a), .val (.int (Int32.ofNat i)), .val (.int (Int32.ofNat ki))] [(.int (8 : Int32)), (.ref a)])) rfl (hb hby dc0_24) rfl (by decide) (cap := 8) (by decide) (by decide) (by decide) (by decide) (ad := "[I") (by decide) rfl (vs := (own_is (List.replicate 8 0))) rfl
  obtain ⟨b6, g6⟩ : ∃ z, z = h4.size := ⟨_, rfl⟩
  rw [← g6] at A6 Y6 st6
  have ne_a_b6 : a ≠ b6 := Nat.ne_of_lt (Nat.lt_of_lt_of_eq E_a.lt g6.symm)
  have ne_ra_b6 : ra ≠ b6 := Nat.ne_of_lt (Nat.lt_of_lt_of_eq V_ra.lt g6.symm)
  have ne_b3_b6 : b3 ≠ b6 := Nat.ne_of_lt (Nat.lt_of_lt_of_eq V_b3.lt g6.symm)
  have g_b6 : n0 ≤ b6 := Nat.le_trans (Nat.le_trans (Nat.le_of_eq O.1.symm) O.2.1) (Nat.le_of_eq g6.symm)
  have sz_b6 : h0.size ≤ b6 := Nat.le_trans K.1 (Nat.le_of_eq g6.symm)
  have K := K.ext E6
  have O := O.ext E6
  have E_a := E_a.ext E6
  have F_latest_a := F_latest_a.ext E6
  have F_raised_a := F_raised_a.ext E6
  have F_ages_a := F_ages_a.ext E6
  have F_numbers_a := F_numbers_a.ext E6
  have F_entries_a := F_entries_a.ext E6
  have F_size_a := F_size_a.ext E6
  have F_sealed_a := F_sealed_a.ext E6
  have F_present_a := F_present_a.ext E6
  have F_hash_a := F_hash_a.ext E6
  have F_table_a := F_table_a.ext E6
  have F_earlier_a := F_earlier_a.ext E6
  have F_later_a := F_later_a.ext E6
  have V_ra := V_ra.ext E6
  have V_b3 := V_b3.ext E6
  have E_b3 := E_b3.ext E6
  have V_b6 : own_Ar Z h6 b6 k6 .int (own_is (List.replicate 8 0)) := A6
  have E_b6 := Y6
  refine own_go (U' := T6.setTop (mkF m 26 #[.val (.ref a), .val (.int (Int32.ofNat i)), .val (.int (Int32.ofNat ki))] [(.ref b6), (.ref a)])) st6 ?_
  obtain ⟨T7, h7, X7, e7, W7, st7⟩ := putF X6 hx hZ hown (host := "") (Or.inl (hw _ (List.mem_of_getElem? (i := 139) rfl))) Via.refl e6 F_later_a E_a (Or.inl (hw _ (List.mem_of_getElem? (i := 140) rfl))) (hw _ (List.mem_of_getElem? (i := 1) rfl)) (ty := (.array .int)) (by decide) rfl rfl (g := (mkF m 26 #[.val (.ref a), .val (.int (Int32.ofNat i)), .val (.int (Int32.ofNat ki))] [(.ref b6), (.ref a)])) rfl rfl (hb hby dc0_26)
  have K := K.wr W7 (Or.inl (List.mem_of_getElem? (i := 0) rfl))
  have O := O.wr W7 g_a
  have E_a := E_a.wr W7
  have F_latest_a := F_latest_a.other W7 (Or.inr (slot_ne (Or.inl (hw _ (List.mem_of_getElem? (i := 64) rfl))) (Or.inl (hw _ (List.mem_of_getElem? (i := 140) rfl))) (by decide) (t := (.array .int)) (t' := (.array .int)) (by decide) (by decide)))
  have F_raised_a := F_raised_a.other W7 (Or.inr (slot_ne (Or.inl (hw _ (List.mem_of_getElem? (i := 66) rfl))) (Or.inl (hw _ (List.mem_of_getElem? (i := 140) rfl))) (by decide) (t := (.array .int)) (t' := (.array .int)) (by decide) (by decide)))
  have F_ages_a := F_ages_a.other W7 (Or.inr (slot_ne (Or.inl (hw _ (List.mem_of_getElem? (i := 68) rfl))) (Or.inl (hw _ (List.mem_of_getElem? (i := 140) rfl))) (by decide) (t := (.array .int)) (t' := (.array .int)) (by decide) (by decide)))
  have F_numbers_a := F_numbers_a.other W7 (Or.inr (slot_ne (Or.inr (hw _ (List.mem_of_getElem? (i := 70) rfl))) (Or.inl (hw _ (List.mem_of_getElem? (i := 140) rfl))) (by decide) (t := (.object "com/example/obedient_dog/obedientdog/topologydiscovery/LinkNumbers")) (t' := (.array .int)) (by decide) (by decide)))
  have F_entries_a := F_entries_a.other W7 (Or.inr (slot_ne (Or.inl (hw _ (List.mem_of_getElem? (i := 86) rfl))) (Or.inl (hw _ (List.mem_of_getElem? (i := 140) rfl))) (by decide) (t := .int) (t' := (.array .int)) (by decide) (by decide)))
  have F_size_a := F_size_a.other W7 (Or.inr (slot_ne (Or.inl (hw _ (List.mem_of_getElem? (i := 88) rfl))) (Or.inl (hw _ (List.mem_of_getElem? (i := 140) rfl))) (by decide) (t := .int) (t' := (.array .int)) (by decide) (by decide)))
  have F_sealed_a := F_sealed_a.other W7 (Or.inr (slot_ne (Or.inl (hw _ (List.mem_of_getElem? (i := 110) rfl))) (Or.inl (hw _ (List.mem_of_getElem? (i := 140) rfl))) (by decide) (t := .int) (t' := (.array .int)) (by decide) (by decide)))
  have F_present_a := F_present_a.other W7 (Or.inr (slot_ne (Or.inl (hw _ (List.mem_of_getElem? (i := 94) rfl))) (Or.inl (hw _ (List.mem_of_getElem? (i := 140) rfl))) (by decide) (t := .int) (t' := (.array .int)) (by decide) (by decide)))
  have F_hash_a := F_hash_a.other W7 (Or.inr (slot_ne (Or.inl (hw _ (List.mem_of_getElem? (i := 96) rfl))) (Or.inl (hw _ (List.mem_of_getElem? (i := 140) rfl))) (by decide) (t := .int) (t' := (.array .int)) (by decide) (by decide)))
  have F_table_a := F_table_a.other W7 (Or.inr (slot_ne (Or.inl (hw _ (List.mem_of_getElem? (i := 103) rfl))) (Or.inl (hw _ (List.mem_of_getElem? (i := 140) rfl))) (by decide) (t := (.object "com/example/obedient_dog/obedientdog/topologydiscovery/AgeTable")) (t' := (.array .int)) (by decide) (by decide)))
  have F_earlier_a := F_earlier_a.other W7 (Or.inr (slot_ne (Or.inl (hw _ (List.mem_of_getElem? (i := 138) rfl))) (Or.inl (hw _ (List.mem_of_getElem? (i := 140) rfl))) (by decide) (t := (.array .int)) (t' := (.array .int)) (by decide) (by decide)))
  have V_ra := V_ra.other W7 (Ne.symm ne_a_ra)
  have V_b3 := V_b3.other W7 (Ne.symm ne_a_b3)
  have E_b3 := E_b3.wr W7
  have V_b6 := V_b6.other W7 (Ne.symm ne_a_b6)
  have E_b6 := E_b6.wr W7
  have F_later_a := F_later_a.same W7
  have N7 := Fr.snoc X7 N4 g_a
  refine own_go (U' := T7.setTop (mkF m 29 #[.val (.ref a), .val (.int (Int32.ofNat i)), .val (.int (Int32.ofNat ki))] [])) st7 ?_
  refine own_go (U' := T7.setTop (mkF m 30 #[.val (.ref a), .val (.int (Int32.ofNat i)), .val (.int (Int32.ofNat ki))] [(.ref a)])) (fun t k => XS.aloadN X7.here hx rfl (hb hby dc0_29) rfl rfl k) ?_
  obtain ⟨T8, X8, e8, st8⟩ := getF X7 hx hZ hown (host := "") (Or.inl (hw _ (List.mem_of_getElem? (i := 137) rfl))) Via.refl e7 F_earlier_a (g := (mkF m 30 #[.val (.ref a), .val (.int (Int32.ofNat i)), .val (.int (Int32.ofNat ki))] [(.ref a)])) rfl rfl (hb hby dc0_30)
  refine own_go (U' := T8.setTop (mkF m 33 #[.val (.ref a), .val (.int (Int32.ofNat i)), .val (.int (Int32.ofNat ki))] [(.ref b3)])) st8 ?_
  refine own_go (U' := T8.setTop (mkF m 34 #[.val (.ref a), .val (.int (Int32.ofNat i)), .val (.int (Int32.ofNat ki))] [(.int (Int32.ofNat ki)), (.ref b3)])) (fun t k => XS.iloadN X8.here hx rfl (hb hby dc0_33) rfl k) ?_
  refine own_go (U' := T8.setTop (mkF m 35 #[.val (.ref a), .val (.int (Int32.ofNat i)), .val (.int (Int32.ofNat ki))] [(.int (Int32.ofNat i)), (.int (Int32.ofNat ki)), (.ref b3)])) (fun t k => XS.iloadN X8.here hx rfl (hb hby dc0_34) rfl k) ?_
  refine own_go (U' := T8.setTop (mkF m 36 #[.val (.ref a), .val (.int (Int32.ofNat i)), .val (.int (Int32.ofNat ki))] [(.int (1 : Int32)), (.int (Int32.ofNat i)), (.int (Int32.ofNat ki)), (.ref b3)])) (fun t k => XS.iconst X8.here hx rfl (hb hby dc0_35) k) ?_
  refine own_go (U' := T8.setTop (mkF m 37 #[.val (.ref a), .val (.int (Int32.ofNat i)), .val (.int (Int32.ofNat ki))] [(.int ((Int32.ofNat i) + (1 : Int32))), (.int (Int32.ofNat ki)), (.ref b3)])) (fun t k => XS.iadd X8.here hx rfl (hb hby dc0_36) rfl k) ?_
  rw [← own_succ]
  obtain ⟨T9, h9, X9, e9, W9, A9, st9⟩ := own_iastore X8 hx hZ e8 V_b3 (j := (Int32.ofNat ki)) ok.1 (i := ki) ok.2.1 (by simpa [own_is] using hk) (g := (mkF m 37 #[.val (.ref a), .val (.int (Int32.ofNat i)), .val (.int (Int32.ofNat ki))] [(.int (Int32.ofNat (i + 1))), (.int (Int32.ofNat ki)), (.ref b3)])) rfl rfl (hb hby dc0_37)
  have K := K.wr W9 (Or.inr sz_b3)
  have O := O.wr W9 g_b3
  have E_a := E_a.wr W9
  have F_latest_a := F_latest_a.other W9 (Or.inl ne_a_b3)
  have F_raised_a := F_raised_a.other W9 (Or.inl ne_a_b3)
  have F_ages_a := F_ages_a.other W9 (Or.inl ne_a_b3)
  have F_numbers_a := F_numbers_a.other W9 (Or.inl ne_a_b3)
  have F_entries_a := F_entries_a.other W9 (Or.inl ne_a_b3)
  have F_size_a := F_size_a.other W9 (Or.inl ne_a_b3)
  have F_sealed_a := F_sealed_a.other W9 (Or.inl ne_a_b3)
  have F_present_a := F_present_a.other W9 (Or.inl ne_a_b3)
  have F_hash_a := F_hash_a.other W9 (Or.inl ne_a_b3)
  have F_table_a := F_table_a.other W9 (Or.inl ne_a_b3)
  have F_earlier_a := F_earlier_a.other W9 (Or.inl ne_a_b3)
  have F_later_a := F_later_a.other W9 (Or.inl ne_a_b3)
  have V_ra := V_ra.other W9 ne_ra_b3
  have E_b3 := E_b3.wr W9
  have V_b6 := V_b6.other W9 (Ne.symm ne_b3_b6)
  have E_b6 := E_b6.wr W9
  have V_b3 : own_Ar Z h9 b3 k3 .int (own_is ((List.replicate 8 0).set ki (i + 1))) := ((own_is_set _ _ _) : ((own_is (List.replicate 8 0))).set (ki) (.int (Int32.ofNat (i + 1))) = (own_is ((List.replicate 8 0).set ki (i + 1)))) ▸ A9
  have N9 := Fr.snoc X9 N7 g_b3
  refine own_go (U' := T9.setTop (mkF m 38 #[.val (.ref a), .val (.int (Int32.ofNat i)), .val (.int (Int32.ofNat ki))] [])) st9 ?_
  refine own_go (U' := T9.setTop (mkF m 39 #[.val (.ref a), .val (.int (Int32.ofNat i)), .val (.int (Int32.ofNat ki))] [(.ref a)])) (fun t k => XS.aloadN X9.here hx rfl (hb hby dc0_38) rfl rfl k) ?_
  obtain ⟨T10, X10, e10, st10⟩ := getF X9 hx hZ hown (host := "") (Or.inl (hw _ (List.mem_of_getElem? (i := 139) rfl))) Via.refl e9 F_later_a (g := (mkF m 39 #[.val (.ref a), .val (.int (Int32.ofNat i)), .val (.int (Int32.ofNat ki))] [(.ref a)])) rfl rfl (hb hby dc0_39)
  refine own_go (U' := T10.setTop (mkF m 42 #[.val (.ref a), .val (.int (Int32.ofNat i)), .val (.int (Int32.ofNat ki))] [(.ref b6)])) st10 ?_
  refine own_go (U' := T10.setTop (mkF m 43 #[.val (.ref a), .val (.int (Int32.ofNat i)), .val (.int (Int32.ofNat ki))] [(.int (Int32.ofNat i)), (.ref b6)])) (fun t k => XS.iloadN X10.here hx rfl (hb hby dc0_42) rfl k) ?_
  refine own_go (U' := T10.setTop (mkF m 44 #[.val (.ref a), .val (.int (Int32.ofNat i)), .val (.int (Int32.ofNat ki))] [(.int (Int32.ofNat ki)), (.int (Int32.ofNat i)), (.ref b6)])) (fun t k => XS.iloadN X10.here hx rfl (hb hby dc0_43) rfl k) ?_
  obtain ⟨T11, h11, X11, e11, W11, A11, st11⟩ := own_iastore X10 hx hZ e10 V_b6 (j := (Int32.ofNat i)) oi.1 (i := i) oi.2.1 (by simpa [own_is] using hi) (g := (mkF m 44 #[.val (.ref a), .val (.int (Int32.ofNat i)), .val (.int (Int32.ofNat ki))] [(.int (Int32.ofNat ki)), (.int (Int32.ofNat i)), (.ref b6)])) rfl rfl (hb hby dc0_44)
  have K := K.wr W11 (Or.inr sz_b6)
  have O := O.wr W11 g_b6
  have E_a := E_a.wr W11
  have F_latest_a := F_latest_a.other W11 (Or.inl ne_a_b6)
  have F_raised_a := F_raised_a.other W11 (Or.inl ne_a_b6)
  have F_ages_a := F_ages_a.other W11 (Or.inl ne_a_b6)
  have F_numbers_a := F_numbers_a.other W11 (Or.inl ne_a_b6)
  have F_entries_a := F_entries_a.other W11 (Or.inl ne_a_b6)
  have F_size_a := F_size_a.other W11 (Or.inl ne_a_b6)
  have F_sealed_a := F_sealed_a.other W11 (Or.inl ne_a_b6)
  have F_present_a := F_present_a.other W11 (Or.inl ne_a_b6)
  have F_hash_a := F_hash_a.other W11 (Or.inl ne_a_b6)
  have F_table_a := F_table_a.other W11 (Or.inl ne_a_b6)
  have F_earlier_a := F_earlier_a.other W11 (Or.inl ne_a_b6)
  have F_later_a := F_later_a.other W11 (Or.inl ne_a_b6)
  have V_ra := V_ra.other W11 ne_ra_b6
  have V_b3 := V_b3.other W11 ne_b3_b6
  have E_b3 := E_b3.wr W11
  have E_b6 := E_b6.wr W11
  have V_b6 : own_Ar Z h11 b6 k6 .int (own_is ((List.replicate 8 0).set i ki)) := ((own_is_set _ _ _) : ((own_is (List.replicate 8 0))).set (i) (.int (Int32.ofNat ki)) = (own_is ((List.replicate 8 0).set i ki))) ▸ A11
  have N11 := Fr.snoc X11 N9 g_b6
  refine own_go (U' := T11.setTop (mkF m 45 #[.val (.ref a), .val (.int (Int32.ofNat i)), .val (.int (Int32.ofNat ki))] [])) st11 ?_
  refine own_retV X11 hx hret hlk (hb hby dc0_45) ?_ (by decide) (by decide)
  rw [e11]
  exact ⟨rfl, N11, K, b3, b6, _, _, ⟨E_a, F_latest_a, F_raised_a, F_ages_a, F_numbers_a, F_entries_a, F_size_a, F_sealed_a, F_present_a, F_hash_a, F_table_a, F_earlier_a, F_later_a⟩, V_b3, V_b6, sz_b3, sz_b6, g_b3, g_b6, ne_b3_b6⟩
theorem own_efc1 (m : MethodId) (a : Addr) (p1 p2 : Int32) : entryFrame m #[(.ref a), (.int p1), (.int p2)] 3 = mkF m 0 #[.val (.ref a), .val (.int p1), .val (.int p2)] [] := by first | (simp [entryFrame, mkF, argsToLocals, Value.category]; done) | rfl
set_option maxRecDepth 65536 in
set_option maxHeartbeats 40000000 in
theorem own_rmc1 (l : Launch) (Z : State) (a0 : Array Value) (hw : ∀ d ∈ tables_1, d.before a0 Z = true) (a : Addr) (p1 p2 : Int32) (h0 : Heap) (n0 : Nat) (g_a : n0 ≤ a) (la ra ga nu ha : Addr) (kh : ClassId) (en sz se pr hs : Int32) (tb : Value) (xe xl : Addr) (htb : tb.isRef = true) (i ki : Nat) (hi : i < 8) (hk : ki < 8) (hp : p1 = Int32.ofNat i) (hq : p2 = Int32.ofNat ki) (es ls : List Nat) (ke kl2 : ClassId) (hes : es.length = 8) (hls : ls.length = 8) (g_xe : n0 ≤ xe) (g_xl : n0 ≤ xl) (ne_xe_xl : xe ≠ xl) (F_a : own_F Z h0 a la ra ga nu en sz se pr hs tb (.ref xe) (.ref xl)) (V_xe : own_Ar Z h0 xe ke .int (own_is es)) (V_xl : own_Ar Z h0 xl kl2 .int (own_is ls)) :
    own_C l Z (⟨"com/example/obedient_dog/obedientdog/topologydiscovery/AgeLog", "chain", "(II)V"⟩ : MethodName) prog_39_method_14_code 3 none [] ({ frames := 0, cells := 0, slots := 0, locals := 0 } : Room) #[(.ref a), (.int p1), (.int p2)] h0 (fun v h L => v = none ∧ Fr n0 L ∧ Keep h0 h [a, xe, xl] ∧ (own_F Z h a la ra ga nu en sz se pr hs tb (.ref xe) (.ref xl)) ∧ own_Ar Z h xe ke .int (own_is (es.set ki (i + 1))) ∧ own_Ar Z h xl kl2 .int (own_is (ls.set i ki))) := by
  refine own_body (plainFor_of_name own_pn1) fun p e s m below meth c s₁ hx hby hml hret hlk hown hnm hZ X0 e0 => ?_
  rw [own_efc1 m a p1 p2]
  have N0 := Fr.nil n0
  have K := Keep.refl h0 [a, xe, xl]
  obtain ⟨E_a, F_latest_a, F_raised_a, F_ages_a, F_numbers_a, F_entries_a, F_size_a, F_sealed_a, F_present_a, F_hash_a, F_table_a, F_earlier_a, F_later_a⟩ := F_a
  have ne_a_xe : a ≠ xe := by
    obtain ⟨cb, Ab, -⟩ := V_xe
    exact ne_arr E_a (hw _ (List.mem_of_getElem? (i := 1) rfl)) Ab
  have ne_a_xl : a ≠ xl := by
    obtain ⟨cb, Ab, -⟩ := V_xl
    exact ne_arr E_a (hw _ (List.mem_of_getElem? (i := 1) rfl)) Ab
  subst hp hq
  have oi := own_ofn (i := i) (by omega)
  have ok := own_ofn (i := ki) (by omega)
  refine own_go (U' := s₁.setTop (mkF m 1 #[.val (.ref a), .val (.int (Int32.ofNat i)), .val (.int (Int32.ofNat ki))] [(.ref a)])) (fun t k => XS.aloadN X0.here hx rfl (hb hby dc0_0) rfl rfl k) ?_
  obtain ⟨T1, X1, e1, st1⟩ := getF X0 hx hZ hown (host := "") (Or.inl (hw _ (List.mem_of_getElem? (i := 137) rfl))) Via.refl e0 F_earlier_a (g := (mkF m 1 #[.val (.ref a), .val (.int (Int32.ofNat i)), .val (.int (Int32.ofNat ki))] [(.ref a)])) rfl rfl (hb hby dc0_1)
  refine own_go (U' := T1.setTop (mkF m 4 #[.val (.ref a), .val (.int (Int32.ofNat i)), .val (.int (Int32.ofNat ki))] [(.ref xe)])) st1 ?_
  refine own_go (U' := T1.setTop (mkF m 29 #[.val (.ref a), .val (.int (Int32.ofNat i)), .val (.int (Int32.ofNat ki))] [])) (fun t k => XS.ifnonnullYes X1.here hx rfl (pc0 := 4) (pc' := 29) rfl (hb hby dc0_4) rfl (by decide) (by decide) k) ?_
  refine own_go (U' := T1.setTop (mkF m 30 #[.val (.ref a), .val (.int (Int32.ofNat i)), .val (.int (Int32.ofNat ki))] [(.ref a)])) (fun t k => XS.aloadN X1.here hx rfl (hb hby dc0_29) rfl rfl k) ?_
  obtain ⟨T2, X2, e2, st2⟩ := getF X1 hx hZ hown (host := "") (Or.inl (hw _ (List.mem_of_getElem? (i := 137) rfl))) Via.refl e1 F_earlier_a (g := (mkF m 30 #[.val (.ref a), .val (.int (Int32.ofNat i)), .val (.int (Int32.ofNat ki))] [(.ref a)])) rfl rfl (hb hby dc0_30)
  refine own_go (U' := T2.setTop (mkF m 33 #[.val (.ref a), .val (.int (Int32.ofNat i)), .val (.int (Int32.ofNat ki))] [(.ref xe)])) st2 ?_
  refine own_go (U' := T2.setTop (mkF m 34 #[.val (.ref a), .val (.int (Int32.ofNat i)), .val (.int (Int32.ofNat ki))] [(.int (Int32.ofNat ki)), (.ref xe)])) (fun t k => XS.iloadN X2.here hx rfl (hb hby dc0_33) rfl k) ?_
  refine own_go (U' := T2.setTop (mkF m 35 #[.val (.ref a), .val (.int (Int32.ofNat i)), .val (.int (Int32.ofNat ki))] [(.int (Int32.ofNat i)), (.int (Int32.ofNat ki)), (.ref xe)])) (fun t k => XS.iloadN X2.here hx rfl (hb hby dc0_34) rfl k) ?_
  refine own_go (U' := T2.setTop (mkF m 36 #[.val (.ref a), .val (.int (Int32.ofNat i)), .val (.int (Int32.ofNat ki))] [(.int (1 : Int32)), (.int (Int32.ofNat i)), (.int (Int32.ofNat ki)), (.ref xe)])) (fun t k => XS.iconst X2.here hx rfl (hb hby dc0_35) k) ?_
  refine own_go (U' := T2.setTop (mkF m 37 #[.val (.ref a), .val (.int (Int32.ofNat i)), .val (.int (Int32.ofNat ki))] [(.int ((Int32.ofNat i) + (1 : Int32))), (.int (Int32.ofNat ki)), (.ref xe)])) (fun t k => XS.iadd X2.here hx rfl (hb hby dc0_36) rfl k) ?_
  rw [← own_succ]
  obtain ⟨T3, h3, X3, e3, W3, A3, st3⟩ := own_iastore X2 hx hZ e2 V_xe (j := (Int32.ofNat ki)) ok.1 (i := ki) ok.2.1 (by simpa [own_is, hes] using hk) (g := (mkF m 37 #[.val (.ref a), .val (.int (Int32.ofNat i)), .val (.int (Int32.ofNat ki))] [(.int (Int32.ofNat (i + 1))), (.int (Int32.ofNat ki)), (.ref xe)])) rfl rfl (hb hby dc0_37)
  have K := K.wr W3 (Or.inl (List.mem_of_getElem? (i := 1) rfl))
  have E_a := E_a.wr W3
  have F_latest_a := F_latest_a.other W3 (Or.inl ne_a_xe)
  have F_raised_a := F_raised_a.other W3 (Or.inl ne_a_xe)
  have F_ages_a := F_ages_a.other W3 (Or.inl ne_a_xe)
  have F_numbers_a := F_numbers_a.other W3 (Or.inl ne_a_xe)
  have F_entries_a := F_entries_a.other W3 (Or.inl ne_a_xe)
  have F_size_a := F_size_a.other W3 (Or.inl ne_a_xe)
  have F_sealed_a := F_sealed_a.other W3 (Or.inl ne_a_xe)
  have F_present_a := F_present_a.other W3 (Or.inl ne_a_xe)
  have F_hash_a := F_hash_a.other W3 (Or.inl ne_a_xe)
  have F_table_a := F_table_a.other W3 (Or.inl ne_a_xe)
  have F_earlier_a := F_earlier_a.other W3 (Or.inl ne_a_xe)
  have F_later_a := F_later_a.other W3 (Or.inl ne_a_xe)
  have V_xl := V_xl.other W3 (Ne.symm ne_xe_xl)
  have V_xe : own_Ar Z h3 xe ke .int (own_is (es.set ki (i + 1))) := ((own_is_set _ _ _) : ((own_is es)).set (ki) (.int (Int32.ofNat (i + 1))) = (own_is (es.set ki (i + 1)))) ▸ A3
  have N3 := Fr.snoc X3 N0 g_xe
  refine own_go (U' := T3.setTop (mkF m 38 #[.val (.ref a), .val (.int (Int32.ofNat i)), .val (.int (Int32.ofNat ki))] [])) st3 ?_
  refine own_go (U' := T3.setTop (mkF m 39 #[.val (.ref a), .val (.int (Int32.ofNat i)), .val (.int (Int32.ofNat ki))] [(.ref a)])) (fun t k => XS.aloadN X3.here hx rfl (hb hby dc0_38) rfl rfl k) ?_
  obtain ⟨T4, X4, e4, st4⟩ := getF X3 hx hZ hown (host := "") (Or.inl (hw _ (List.mem_of_getElem? (i := 139) rfl))) Via.refl e3 F_later_a (g := (mkF m 39 #[.val (.ref a), .val (.int (Int32.ofNat i)), .val (.int (Int32.ofNat ki))] [(.ref a)])) rfl rfl (hb hby dc0_39)
  refine own_go (U' := T4.setTop (mkF m 42 #[.val (.ref a), .val (.int (Int32.ofNat i)), .val (.int (Int32.ofNat ki))] [(.ref xl)])) st4 ?_
  refine own_go (U' := T4.setTop (mkF m 43 #[.val (.ref a), .val (.int (Int32.ofNat i)), .val (.int (Int32.ofNat ki))] [(.int (Int32.ofNat i)), (.ref xl)])) (fun t k => XS.iloadN X4.here hx rfl (hb hby dc0_42) rfl k) ?_
  refine own_go (U' := T4.setTop (mkF m 44 #[.val (.ref a), .val (.int (Int32.ofNat i)), .val (.int (Int32.ofNat ki))] [(.int (Int32.ofNat ki)), (.int (Int32.ofNat i)), (.ref xl)])) (fun t k => XS.iloadN X4.here hx rfl (hb hby dc0_43) rfl k) ?_
  obtain ⟨T5, h5, X5, e5, W5, A5, st5⟩ := own_iastore X4 hx hZ e4 V_xl (j := (Int32.ofNat i)) oi.1 (i := i) oi.2.1 (by simpa [own_is, hls] using hi) (g := (mkF m 44 #[.val (.ref a), .val (.int (Int32.ofNat i)), .val (.int (Int32.ofNat ki))] [(.int (Int32.ofNat ki)), (.int (Int32.ofNat i)), (.ref xl)])) rfl rfl (hb hby dc0_44)
  have K := K.wr W5 (Or.inl (List.mem_of_getElem? (i := 2) rfl))
  have E_a := E_a.wr W5
  have F_latest_a := F_latest_a.other W5 (Or.inl ne_a_xl)
  have F_raised_a := F_raised_a.other W5 (Or.inl ne_a_xl)
  have F_ages_a := F_ages_a.other W5 (Or.inl ne_a_xl)
  have F_numbers_a := F_numbers_a.other W5 (Or.inl ne_a_xl)
  have F_entries_a := F_entries_a.other W5 (Or.inl ne_a_xl)
  have F_size_a := F_size_a.other W5 (Or.inl ne_a_xl)
  have F_sealed_a := F_sealed_a.other W5 (Or.inl ne_a_xl)
  have F_present_a := F_present_a.other W5 (Or.inl ne_a_xl)
  have F_hash_a := F_hash_a.other W5 (Or.inl ne_a_xl)
  have F_table_a := F_table_a.other W5 (Or.inl ne_a_xl)
  have F_earlier_a := F_earlier_a.other W5 (Or.inl ne_a_xl)
  have F_later_a := F_later_a.other W5 (Or.inl ne_a_xl)
  have V_xe := V_xe.other W5 ne_xe_xl
  have V_xl : own_Ar Z h5 xl kl2 .int (own_is (ls.set i ki)) := ((own_is_set _ _ _) : ((own_is ls)).set (i) (.int (Int32.ofNat ki)) = (own_is (ls.set i ki))) ▸ A5
  have N5 := Fr.snoc X5 N3 g_xl
  refine own_go (U' := T5.setTop (mkF m 45 #[.val (.ref a), .val (.int (Int32.ofNat i)), .val (.int (Int32.ofNat ki))] [])) st5 ?_
  refine own_retV X5 hx hret hlk (hb hby dc0_45) ?_ (by decide) (by decide)
  rw [e5]
  exact ⟨rfl, N5, K, ⟨E_a, F_latest_a, F_raised_a, F_ages_a, F_numbers_a, F_entries_a, F_size_a, F_sealed_a, F_present_a, F_hash_a, F_table_a, F_earlier_a, F_later_a⟩, V_xe, V_xl⟩
abbrev own_S : Type := List Nat × List Nat × Nat × Option (List Nat × List Nat)
def own_chain (ch : Option (List Nat × List Nat)) (i k : Nat) : List Nat × List Nat := match ch with | none => ((List.replicate 8 0).set k (i + 1), (List.replicate 8 0).set i k) | some p => (p.1.set k (i + 1), p.2.set i k)
def own_raise (s : own_S) (se n : Nat) : own_S := if s.1.getD n 0 = 0 then (s.1.set n (s.2.2.1 + 1), s.2.1.set s.2.2.1 n, s.2.2.1 + 1, s.2.2.2) else if s.1.getD n 0 - 1 < se then (s.1.set n (s.2.2.1 + 1), s.2.1.set s.2.2.1 n, s.2.2.1 + 1, some (own_chain s.2.2.2 (s.1.getD n 0 - 1) s.2.2.1)) else s
def own_inv (s : own_S) (se : Nat) : Prop := s.1.length = 8 ∧ s.2.1.length = 8 ∧ (∀ x ∈ s.1, x ≤ s.2.2.1) ∧ se ≤ s.2.2.1 ∧ (∀ p, s.2.2.2 = some p → p.1.length = 8 ∧ p.2.length = 8 ∧ (∀ x ∈ p.1, x ≤ s.2.2.1) ∧ (∀ x ∈ p.2, x ≤ s.2.2.1)) ∧ (∀ x ∈ s.2.1, x < 8)
theorem own_inv_raise {s : own_S} {se n : Nat} (h : own_inv s se) (hn : n < 8) : own_inv (own_raise s se n) se := by
  obtain ⟨lt, rs, en, ch⟩ := s
  obtain ⟨h1, h2, h3, h4, h5, h6⟩ := h
  dsimp only at h1 h2 h3 h4 h5 h6
  have hrs : ∀ x ∈ rs.set en n, x < 8 := by
    intro x hx
    rcases List.mem_or_eq_of_mem_set hx with hx | rfl
    · exact h6 x hx
    · exact hn
  have hgd : lt.getD n 0 ≤ en := by
    have : lt.getD n 0 ∈ lt := by rw [List.getD, List.getElem?_eq_getElem (by omega : n < lt.length), Option.getD_some]; exact List.getElem_mem _
    exact h3 _ this
  have hst : ∀ (l : List Nat) (i v : Nat), (∀ x ∈ l, x ≤ en + 1) → v ≤ en + 1 → ∀ x ∈ l.set i v, x ≤ en + 1 := by
    intro l i v hl hv x hx
    rcases List.mem_or_eq_of_mem_set hx with hx | rfl
    · exact hl x hx
    · exact hv
  have hset : ∀ x ∈ lt.set n (en + 1), x ≤ en + 1 := by
    intro x hx
    rcases List.mem_or_eq_of_mem_set hx with hx | rfl
    · have := h3 x hx; omega
    · omega
  unfold own_raise
  dsimp only
  split
  · exact ⟨by simpa using h1, by simpa using h2, hset, by dsimp only; omega, fun p hp => ⟨(h5 p hp).1, (h5 p hp).2.1, fun x hx => Nat.le_succ_of_le ((h5 p hp).2.2.1 x hx), fun x hx => Nat.le_succ_of_le ((h5 p hp).2.2.2 x hx)⟩, hrs⟩
  · split
    · refine ⟨by simpa using h1, by simpa using h2, hset, by dsimp only; omega, ?_, hrs⟩
      intro p hp
      cases hp
      unfold own_chain
      cases ch with
      | none => exact ⟨by simp, by simp, hst _ _ _ (fun x hx => by rw [List.eq_of_mem_replicate hx]; omega) (by omega), hst _ _ _ (fun x hx => by rw [List.eq_of_mem_replicate hx]; omega) (by omega)⟩
      | some q =>
        obtain ⟨a1, a2, a3, a4⟩ := h5 q rfl
        exact ⟨by simpa using a1, by simpa using a2, hst _ _ _ (fun x hx => Nat.le_succ_of_le (a3 x hx)) (by omega), hst _ _ _ (fun x hx => Nat.le_succ_of_le (a4 x hx)) (by omega)⟩
    · exact ⟨h1, h2, h3, h4, h5, h6⟩
def own_cf (Z : State) (h : Heap) (n0 : Nat) (ch : Option (List Nat × List Nat)) (ea lr : Value) (cs : List Addr) : Prop := match ch with | none => ea = .null ∧ lr = .null ∧ cs = [] | some p => ∃ xe xl ke kl2, ea = .ref xe ∧ lr = .ref xl ∧ cs = [xe, xl] ∧ own_Ar Z h xe ke .int (own_is p.1) ∧ own_Ar Z h xl kl2 .int (own_is p.2) ∧ n0 ≤ xe ∧ n0 ≤ xl ∧ xe ≠ xl
theorem own_cf.refs {Z : State} {h : Heap} {n0 : Nat} {ch : Option (List Nat × List Nat)} {ea lr : Value} {cs : List Addr} (F : own_cf Z h n0 ch ea lr cs) : ea.isRef = true ∧ lr.isRef = true := by
  cases ch with
  | none => obtain ⟨rfl, rfl, -⟩ := F; exact ⟨rfl, rfl⟩
  | some p => obtain ⟨xe, xl, ke, kl2, rfl, rfl, -⟩ := F; exact ⟨rfl, rfl⟩
theorem own_cf.keep {Z : State} {h h' : Heap} {n0 : Nat} {ch : Option (List Nat × List Nat)} {ea lr : Value} {cs ws : List Addr} (F : own_cf Z h n0 ch ea lr cs) (K : Keep h h' ws) (q : ∀ x ∈ cs, x ∉ ws) : own_cf Z h' n0 ch ea lr cs := by
  cases ch with
  | none => exact F
  | some p =>
    obtain ⟨xe, xl, ke, kl2, e1, e2, rfl, A, B, r⟩ := F
    exact ⟨xe, xl, ke, kl2, e1, e2, rfl, A.keep K (q _ (by simp)), B.keep K (q _ (by simp)), r⟩
/-- the log as a whole -/
def own_St (Z : State) (h : Heap) (n0 : Nat) (a la ra ga nu ha : Addr) (kl kr kg kh : ClassId) (s : own_S) (se : Nat) (ag : List Int32) (tb : Value) (cs : List Addr) : Prop := ∃ sz pr hs ea lr, own_F Z h a la ra ga nu (Int32.ofNat s.2.2.1) sz (Int32.ofNat se) pr hs tb ea lr ∧ own_Ar Z h la kl .int (own_is s.1) ∧ own_Ar Z h ra kr .int (own_is s.2.1) ∧ own_Ar Z h ga kg .int (ag.map Value.int) ∧ ag.length = 8 ∧ Exa Z h nu "com/example/obedient_dog/obedientdog/topologydiscovery/LinkNumbers" ∧ Fld Z h nu "com/example/obedient_dog/obedientdog/topologydiscovery/LinkNumbers" "hashes" "[I" (.ref ha) ∧ own_Ar Z h ha kh .int own_zs ∧ own_inv s se ∧ own_cf Z h n0 s.2.2.2 ea lr cs ∧ tb.isRef = true ∧ (la ≠ ra ∧ la ≠ ga ∧ ra ≠ ga ∧ ha ≠ la ∧ ha ≠ ra ∧ ha ≠ ga) ∧ (n0 ≤ a ∧ n0 ≤ la ∧ n0 ≤ ra ∧ n0 ≤ ga) ∧ ∀ x ∈ cs, x ≠ la ∧ x ≠ ra ∧ x ≠ ga ∧ x ≠ ha
theorem own_ag_set {ag : List Int32} {k : Nat} {p : Int32} (h : ∀ x ∈ ag, x < p) : ∀ x ∈ ag.set k p, x < p ∨ x = p := fun x hx => (List.mem_or_eq_of_mem_set hx).imp (h x) id
theorem drz_0 : decode prog_39_method_6_code 0 = .ok (.iload_n 1, 1) := by decide +kernel
theorem drz_1 : decode prog_39_method_6_code 1 = .ok (.aload_n 0, 1) := by decide +kernel
theorem drz_2 : decode prog_39_method_6_code 2 = .ok (.getfield 9, 3) := by decide +kernel
theorem drz_5 : decode prog_39_method_6_code 5 = .ok (.arraylength, 1) := by decide +kernel
theorem drz_6 : decode prog_39_method_6_code 6 = .ok (.if_icmp .ge 14, 3) := by decide +kernel
theorem drz_9 : decode prog_39_method_6_code 9 = .ok (.aload_n 0, 1) := by decide +kernel
theorem drz_10 : decode prog_39_method_6_code 10 = .ok (.getfield 9, 3) := by decide +kernel
theorem drz_13 : decode prog_39_method_6_code 13 = .ok (.iload_n 1, 1) := by decide +kernel
theorem drz_14 : decode prog_39_method_6_code 14 = .ok (.iaload, 1) := by decide +kernel
theorem drz_15 : decode prog_39_method_6_code 15 = .ok (.iconst 1, 1) := by decide +kernel
theorem drz_16 : decode prog_39_method_6_code 16 = .ok (.isub, 1) := by decide +kernel
theorem drz_17 : decode prog_39_method_6_code 17 = .ok (.goto 4, 3) := by decide +kernel
theorem drz_20 : decode prog_39_method_6_code 20 = .ok (.iconst (-1), 1) := by decide +kernel
theorem drz_21 : decode prog_39_method_6_code 21 = .ok (.istore_n 3, 1) := by decide +kernel
theorem drz_22 : decode prog_39_method_6_code 22 = .ok (.iload_n 3, 1) := by decide +kernel
theorem drz_23 : decode prog_39_method_6_code 23 = .ok (.ifCond .ge 7, 3) := by decide +kernel
theorem drz_26 : decode prog_39_method_6_code 26 = .ok (.iconst (-1), 1) := by decide +kernel
theorem drz_27 : decode prog_39_method_6_code 27 = .ok (.goto 9, 3) := by decide +kernel
theorem drz_30 : decode prog_39_method_6_code 30 = .ok (.aload_n 0, 1) := by decide +kernel
theorem drz_31 : decode prog_39_method_6_code 31 = .ok (.getfield 16, 3) := by decide +kernel
theorem drz_34 : decode prog_39_method_6_code 34 = .ok (.iload_n 3, 1) := by decide +kernel
theorem drz_35 : decode prog_39_method_6_code 35 = .ok (.iaload, 1) := by decide +kernel
theorem drz_36 : decode prog_39_method_6_code 36 = .ok (.istore 4, 2) := by decide +kernel
theorem drz_38 : decode prog_39_method_6_code 38 = .ok (.iload_n 2, 1) := by decide +kernel
theorem drz_39 : decode prog_39_method_6_code 39 = .ok (.iload 4, 2) := by decide +kernel
theorem drz_41 : decode prog_39_method_6_code 41 = .ok (.if_icmp .gt 5, 3) := by decide +kernel
theorem drz_44 : decode prog_39_method_6_code 44 = .ok (.iconst 0, 1) := by decide +kernel
theorem drz_45 : decode prog_39_method_6_code 45 = .ok (.ireturn, 1) := by decide +kernel
theorem drz_46 : decode prog_39_method_6_code 46 = .ok (.iload_n 3, 1) := by decide +kernel
theorem drz_47 : decode prog_39_method_6_code 47 = .ok (.ifCond .ge 11, 3) := by decide +kernel
theorem drz_50 : decode prog_39_method_6_code 50 = .ok (.aload_n 0, 1) := by decide +kernel
theorem drz_51 : decode prog_39_method_6_code 51 = .ok (.iload_n 1, 1) := by decide +kernel
theorem drz_52 : decode prog_39_method_6_code 52 = .ok (.iload_n 2, 1) := by decide +kernel
theorem drz_53 : decode prog_39_method_6_code 53 = .ok (.invokevirtual 74, 3) := by decide +kernel
theorem drz_56 : decode prog_39_method_6_code 56 = .ok (.iconst 1, 1) := by decide +kernel
theorem drz_57 : decode prog_39_method_6_code 57 = .ok (.ireturn, 1) := by decide +kernel
theorem drz_58 : decode prog_39_method_6_code 58 = .ok (.iload_n 3, 1) := by decide +kernel
theorem drz_59 : decode prog_39_method_6_code 59 = .ok (.aload_n 0, 1) := by decide +kernel
theorem drz_60 : decode prog_39_method_6_code 60 = .ok (.getfield 78, 3) := by decide +kernel
theorem drz_63 : decode prog_39_method_6_code 63 = .ok (.if_icmp .ge 31, 3) := by decide +kernel
theorem drz_66 : decode prog_39_method_6_code 66 = .ok (.aload_n 0, 1) := by decide +kernel
theorem drz_67 : decode prog_39_method_6_code 67 = .ok (.iload_n 1, 1) := by decide +kernel
theorem drz_68 : decode prog_39_method_6_code 68 = .ok (.iload_n 2, 1) := by decide +kernel
theorem drz_69 : decode prog_39_method_6_code 69 = .ok (.invokevirtual 60, 3) := by decide +kernel
theorem drz_72 : decode prog_39_method_6_code 72 = .ok (.istore 5, 2) := by decide +kernel
theorem drz_74 : decode prog_39_method_6_code 74 = .ok (.aload_n 0, 1) := by decide +kernel
theorem drz_75 : decode prog_39_method_6_code 75 = .ok (.iload_n 3, 1) := by decide +kernel
theorem drz_76 : decode prog_39_method_6_code 76 = .ok (.iload 5, 2) := by decide +kernel
theorem drz_78 : decode prog_39_method_6_code 78 = .ok (.invokevirtual 81, 3) := by decide +kernel
theorem drz_81 : decode prog_39_method_6_code 81 = .ok (.aload_n 0, 1) := by decide +kernel
theorem drz_82 : decode prog_39_method_6_code 82 = .ok (.getfield 9, 3) := by decide +kernel
theorem drz_85 : decode prog_39_method_6_code 85 = .ok (.iload_n 1, 1) := by decide +kernel
theorem drz_86 : decode prog_39_method_6_code 86 = .ok (.iload 5, 2) := by decide +kernel
theorem drz_88 : decode prog_39_method_6_code 88 = .ok (.iconst 1, 1) := by decide +kernel
theorem drz_89 : decode prog_39_method_6_code 89 = .ok (.iadd, 1) := by decide +kernel
theorem drz_90 : decode prog_39_method_6_code 90 = .ok (.iastore, 1) := by decide +kernel
theorem drz_91 : decode prog_39_method_6_code 91 = .ok (.goto 10, 3) := by decide +kernel
theorem drz_94 : decode prog_39_method_6_code 94 = .ok (.aload_n 0, 1) := by decide +kernel
theorem drz_95 : decode prog_39_method_6_code 95 = .ok (.getfield 16, 3) := by decide +kernel
theorem drz_98 : decode prog_39_method_6_code 98 = .ok (.iload_n 3, 1) := by decide +kernel
theorem drz_99 : decode prog_39_method_6_code 99 = .ok (.iload_n 2, 1) := by decide +kernel
theorem drz_100 : decode prog_39_method_6_code 100 = .ok (.iastore, 1) := by decide +kernel
theorem drz_101 : decode prog_39_method_6_code 101 = .ok (.aload_n 0, 1) := by decide +kernel
theorem drz_102 : decode prog_39_method_6_code 102 = .ok (.iload_n 1, 1) := by decide +kernel
theorem drz_103 : decode prog_39_method_6_code 103 = .ok (.iload 4, 2) := by decide +kernel
theorem drz_105 : decode prog_39_method_6_code 105 = .ok (.iconst (-1), 1) := by decide +kernel
theorem drz_106 : decode prog_39_method_6_code 106 = .ok (.invokevirtual 66, 3) := by decide +kernel
theorem drz_109 : decode prog_39_method_6_code 109 = .ok (.aload_n 0, 1) := by decide +kernel
theorem drz_110 : decode prog_39_method_6_code 110 = .ok (.iload_n 1, 1) := by decide +kernel
theorem drz_111 : decode prog_39_method_6_code 111 = .ok (.iload_n 2, 1) := by decide +kernel
theorem drz_112 : decode prog_39_method_6_code 112 = .ok (.iconst 1, 1) := by decide +kernel
theorem drz_113 : decode prog_39_method_6_code 113 = .ok (.invokevirtual 66, 3) := by decide +kernel
theorem drz_116 : decode prog_39_method_6_code 116 = .ok (.aload_n 0, 1) := by decide +kernel
theorem drz_117 : decode prog_39_method_6_code 117 = .ok (.aconst_null, 1) := by decide +kernel
theorem drz_118 : decode prog_39_method_6_code 118 = .ok (.putfield 70, 3) := by decide +kernel
theorem drz_121 : decode prog_39_method_6_code 121 = .ok (.iconst 1, 1) := by decide +kernel
theorem drz_122 : decode prog_39_method_6_code 122 = .ok (.ireturn, 1) := by decide +kernel
theorem own_efrz (m : MethodId) (a : Addr) (p1 p2 : Int32) : entryFrame m #[(.ref a), (.int p1), (.int p2)] 6 = mkF m 0 #[.val (.ref a), .val (.int p1), .val (.int p2), .unset, .unset, .unset] [] := by first | (simp [entryFrame, mkF, argsToLocals, Value.category]; done) | rfl
set_option maxRecDepth 65536 in
set_option maxHeartbeats 40000000 in
theorem own_rmrz (l : Launch) (Z : State) (a0 : Array Value) (hw : ∀ d ∈ tables_1, d.before a0 Z = true) (a : Addr) (p1 p2 : Int32) (h0 : Heap) (n0 : Nat) (la ra ga nu ha : Addr) (kl kr kg kh : ClassId) (sg : own_S) (se : Nat) (ag : List Int32) (tb : Value) (cs : List Addr) (O : Old Z n0 h0) (n : Nat) (hn : n < 8) (hp : p1 = Int32.ofNat n) (hen : sg.2.2.1 < 8) (hag : ∀ x ∈ ag, x < p2) (hpos : (-1 : Int32) < p2) (hSt : own_St Z h0 n0 a la ra ga nu ha kl kr kg kh sg se ag tb cs) :
    own_C l Z (⟨"com/example/obedient_dog/obedientdog/topologydiscovery/AgeLog", "raise", "(II)Z"⟩ : MethodName) prog_39_method_6_code 6 (some .boolean) [] ({ frames := 3, cells := 2, slots := 16, locals := 48 } : Room) #[(.ref a), (.int p1), (.int p2)] h0 (fun v h L => v = some (.int 1) ∧ Fr n0 L ∧ Keep h0 h ([a, la, ra, ga] ++ cs) ∧ ∃ cs' ag', (∀ y ∈ cs', y ∈ cs ∨ h0.size ≤ y) ∧ (∀ x ∈ ag', x < p2 ∨ x = p2) ∧ own_St Z h n0 a la ra ga nu ha kl kr kg kh (own_raise sg se n) se ag' .null cs') := by
  refine own_body (plainFor_of_name own_pn1) fun p e s m below meth c s₁ hx hby hml hret hlk hown hnm hZ X0 e0 => ?_
  rw [own_efrz m a p1 p2]
  have N0 := Fr.nil n0
  subst hp
  obtain ⟨lt, rs, en, ch⟩ := sg
  obtain ⟨sz, pr, hs, ea, lr, F_a, V_la, V_ra, V_ga, hgl, E_nu, F_hashes_nu, V_ha, hinv, hcf, htb, ⟨ne_la_ra, ne_la_ga, ne_ra_ga, ne_ha_la, ne_ha_ra, ne_ha_ga⟩, ⟨g_a, g_la, g_ra, g_ga⟩, hne⟩ := hSt
  have hir := own_inv_raise (n := n) hinv hn
  obtain ⟨hll, hrl, hle, hse, hcl, hr8⟩ := hinv
  dsimp only at F_a V_la V_ra V_ga hll hrl hle hse hcl hcf hen
  have hea := hcf.refs.1
  have hlr := hcf.refs.2
  have on := own_ofn (i := n) (by omega)
  have h_la : (own_is lt).length = 8 := by rw [List.length_map]; exact hll
  have h_ra : (own_is rs).length = 8 := by rw [List.length_map]; exact hrl
  have h_ga : (ag.map Value.int).length = 8 := by rw [List.length_map]; exact hgl
  cases hv : lt.getD n 0 with
  | zero =>
    cases ch with
    | none =>
      obtain ⟨rfl, rfl, rfl⟩ := hcf
      have K := Keep.refl h0 ([a, la, ra, ga] ++ [])
      obtain ⟨E_a, F_latest_a, F_raised_a, F_ages_a, F_numbers_a, F_entries_a, F_size_a, F_sealed_a, F_present_a, F_hash_a, F_table_a, F_earlier_a, F_later_a⟩ := F_a
      have ne_a_la : a ≠ la := by
        obtain ⟨cb, Ab, -⟩ := V_la
        exact ne_arr E_a (hw _ (List.mem_of_getElem? (i := 1) rfl)) Ab
      have ne_a_ra : a ≠ ra := by
        obtain ⟨cb, Ab, -⟩ := V_ra
        exact ne_arr E_a (hw _ (List.mem_of_getElem? (i := 1) rfl)) Ab
      have ne_a_ga : a ≠ ga := by
        obtain ⟨cb, Ab, -⟩ := V_ga
        exact ne_arr E_a (hw _ (List.mem_of_getElem? (i := 1) rfl)) Ab
      have ne_a_ha : a ≠ ha := by
        obtain ⟨cb, Ab, -⟩ := V_ha
        exact ne_arr E_a (hw _ (List.mem_of_getElem? (i := 1) rfl)) Ab
      have ne_nu_la : nu ≠ la := by
        obtain ⟨cb, Ab, -⟩ := V_la
        exact ne_arr E_nu (hw _ (List.mem_of_getElem? (i := 4) rfl)) Ab
      have ne_nu_ra : nu ≠ ra := by
        obtain ⟨cb, Ab, -⟩ := V_ra
        exact ne_arr E_nu (hw _ (List.mem_of_getElem? (i := 4) rfl)) Ab
      have ne_nu_ga : nu ≠ ga := by
        obtain ⟨cb, Ab, -⟩ := V_ga
        exact ne_arr E_nu (hw _ (List.mem_of_getElem? (i := 4) rfl)) Ab
      have ne_nu_ha : nu ≠ ha := by
        obtain ⟨cb, Ab, -⟩ := V_ha
        exact ne_arr E_nu (hw _ (List.mem_of_getElem? (i := 4) rfl)) Ab
      have ne_a_nu : a ≠ nu := ne_exa E_a E_nu (by decide)
      refine own_go (U' := s₁.setTop (mkF m 1 #[.val (.ref a), .val (.int (Int32.ofNat n)), .val (.int p2), .unset, .unset, .unset] [(.int (Int32.ofNat n))])) (fun t k => XS.iloadN X0.here hx rfl (hb hby drz_0) rfl k) ?_
      refine own_go (U' := s₁.setTop (mkF m 2 #[.val (.ref a), .val (.int (Int32.ofNat n)), .val (.int p2), .unset, .unset, .unset] [(.ref a), (.int (Int32.ofNat n))])) (fun t k => XS.aloadN X0.here hx rfl (hb hby drz_1) rfl rfl k) ?_
      obtain ⟨T1, X1, e1, st1⟩ := getF X0 hx hZ hown (host := "") (Or.inl (hw _ (List.mem_of_getElem? (i := 63) rfl))) Via.refl e0 F_latest_a (g := (mkF m 2 #[.val (.ref a), .val (.int (Int32.ofNat n)), .val (.int p2), .unset, .unset, .unset] [(.ref a), (.int (Int32.ofNat n))])) rfl rfl (hb hby drz_2)
      refine own_go (U' := T1.setTop (mkF m 5 #[.val (.ref a), .val (.int (Int32.ofNat n)), .val (.int p2), .unset, .unset, .unset] [(.ref la), (.int (Int32.ofNat n))])) st1 ?_
      refine own_go (U' := T1.setTop (mkF m 6 #[.val (.ref a), .val (.int (Int32.ofNat n)), .val (.int p2), .unset, .unset, .unset] [(.int (8 : Int32)), (.int (Int32.ofNat n))])) (own_arrlen X1 hx hZ e1 V_la (n := (8 : Int32)) (by rw [h_la]; rfl) (g := (mkF m 5 #[.val (.ref a), .val (.int (Int32.ofNat n)), .val (.int p2), .unset, .unset, .unset] [(.ref la), (.int (Int32.ofNat n))])) rfl rfl (hb hby drz_5)) ?_
      refine own_go (U' := T1.setTop (mkF m 9 #[.val (.ref a), .val (.int (Int32.ofNat n)), .val (.int p2), .unset, .unset, .unset] [])) (fun t k => XS.icmpNo X1.here hx rfl (hb hby drz_6) rfl (tlt ((own_lt (j := 8) (by omega) (by omega)).mpr hn)).2.1 k) ?_
      refine own_go (U' := T1.setTop (mkF m 10 #[.val (.ref a), .val (.int (Int32.ofNat n)), .val (.int p2), .unset, .unset, .unset] [(.ref a)])) (fun t k => XS.aloadN X1.here hx rfl (hb hby drz_9) rfl rfl k) ?_
      obtain ⟨T2, X2, e2, st2⟩ := getF X1 hx hZ hown (host := "") (Or.inl (hw _ (List.mem_of_getElem? (i := 63) rfl))) Via.refl e1 F_latest_a (g := (mkF m 10 #[.val (.ref a), .val (.int (Int32.ofNat n)), .val (.int p2), .unset, .unset, .unset] [(.ref a)])) rfl rfl (hb hby drz_10)
      refine own_go (U' := T2.setTop (mkF m 13 #[.val (.ref a), .val (.int (Int32.ofNat n)), .val (.int p2), .unset, .unset, .unset] [(.ref la)])) st2 ?_
      refine own_go (U' := T2.setTop (mkF m 14 #[.val (.ref a), .val (.int (Int32.ofNat n)), .val (.int p2), .unset, .unset, .unset] [(.int (Int32.ofNat n)), (.ref la)])) (fun t k => XS.iloadN X2.here hx rfl (hb hby drz_13) rfl k) ?_
      refine own_go (U' := T2.setTop (mkF m 15 #[.val (.ref a), .val (.int (Int32.ofNat n)), .val (.int p2), .unset, .unset, .unset] [(.int (Int32.ofNat (lt.getD n 0)))])) (own_iaload X2 hx hZ e2 V_la (j := (Int32.ofNat n)) on.1 (i := n) on.2.1 (v := (.int (Int32.ofNat (lt.getD n 0)))) (own_is_at (by omega)) (g := (mkF m 14 #[.val (.ref a), .val (.int (Int32.ofNat n)), .val (.int p2), .unset, .unset, .unset] [(.int (Int32.ofNat n)), (.ref la)])) rfl rfl (hb hby drz_14)) ?_
      rw [hv]
      refine own_go (U' := T2.setTop (mkF m 16 #[.val (.ref a), .val (.int (Int32.ofNat n)), .val (.int p2), .unset, .unset, .unset] [(.int (1 : Int32)), (.int (Int32.ofNat 0))])) (fun t k => XS.iconst X2.here hx rfl (hb hby drz_15) k) ?_
      refine own_go (U' := T2.setTop (mkF m 17 #[.val (.ref a), .val (.int (Int32.ofNat n)), .val (.int p2), .unset, .unset, .unset] [(.int ((Int32.ofNat 0) - (1 : Int32)))])) (fun t k => XS.isub X2.here hx rfl (hb hby drz_16) rfl k) ?_
      refine own_go (U' := T2.setTop (mkF m 21 #[.val (.ref a), .val (.int (Int32.ofNat n)), .val (.int p2), .unset, .unset, .unset] [(.int ((Int32.ofNat 0) - (1 : Int32)))])) (fun t k => XS.goto X2.here hx rfl (pc0 := 17) (pc' := 21) rfl (hb hby drz_17) (by decide) (by decide) k) ?_
      rw [show Int32.ofNat 0 - (1 : Int32) = (-1 : Int32) from by decide]
      refine own_go (U' := T2.setTop (mkF m 22 #[.val (.ref a), .val (.int (Int32.ofNat n)), .val (.int p2), .val (.int (-1 : Int32)), .unset, .unset] [])) (fun t k => XS.istoreN X2.here hx rfl (hb hby drz_21) rfl (l' := #[.val (.ref a), .val (.int (Int32.ofNat n)), .val (.int p2), .val (.int (-1 : Int32)), .unset, .unset]) rfl k) ?_
      refine own_go (U' := T2.setTop (mkF m 23 #[.val (.ref a), .val (.int (Int32.ofNat n)), .val (.int p2), .val (.int (-1 : Int32)), .unset, .unset] [(.int (-1 : Int32))])) (fun t k => XS.iloadN X2.here hx rfl (hb hby drz_22) rfl k) ?_
      refine own_go (U' := T2.setTop (mkF m 26 #[.val (.ref a), .val (.int (Int32.ofNat n)), .val (.int p2), .val (.int (-1 : Int32)), .unset, .unset] [])) (fun t k => XS.ifNo X2.here hx rfl (hb hby drz_23) rfl ((if0 _ _).trans (tlt (by decide)).2.1) k) ?_
      refine own_go (U' := T2.setTop (mkF m 27 #[.val (.ref a), .val (.int (Int32.ofNat n)), .val (.int p2), .val (.int (-1 : Int32)), .unset, .unset] [(.int (-1 : Int32))])) (fun t k => XS.iconst X2.here hx rfl (hb hby drz_26) k) ?_
      refine own_go (U' := T2.setTop (mkF m 36 #[.val (.ref a), .val (.int (Int32.ofNat n)), .val (.int p2), .val (.int (-1 : Int32)), .unset, .unset] [(.int (-1 : Int32))])) (fun t k => XS.goto X2.here hx rfl (pc0 := 27) (pc' := 36) rfl (hb hby drz_27) (by decide) (by decide) k) ?_
      refine own_go (U' := T2.setTop (mkF m 38 #[.val (.ref a), .val (.int (Int32.ofNat n)), .val (.int p2), .val (.int (-1 : Int32)), .val (.int (-1 : Int32)), .unset] [])) (fun t k => XS.istore X2.here hx rfl (hb hby drz_36) rfl (l' := #[.val (.ref a), .val (.int (Int32.ofNat n)), .val (.int p2), .val (.int (-1 : Int32)), .val (.int (-1 : Int32)), .unset]) rfl k) ?_
      refine own_go (U' := T2.setTop (mkF m 39 #[.val (.ref a), .val (.int (Int32.ofNat n)), .val (.int p2), .val (.int (-1 : Int32)), .val (.int (-1 : Int32)), .unset] [(.int p2)])) (fun t k => XS.iloadN X2.here hx rfl (hb hby drz_38) rfl k) ?_
      refine own_go (U' := T2.setTop (mkF m 41 #[.val (.ref a), .val (.int (Int32.ofNat n)), .val (.int p2), .val (.int (-1 : Int32)), .val (.int (-1 : Int32)), .unset] [(.int (-1 : Int32)), (.int p2)])) (fun t k => XS.iload X2.here hx rfl (hb hby drz_39) rfl k) ?_
      refine own_go (U' := T2.setTop (mkF m 46 #[.val (.ref a), .val (.int (Int32.ofNat n)), .val (.int p2), .val (.int (-1 : Int32)), .val (.int (-1 : Int32)), .unset] [])) (fun t k => XS.icmpYes X2.here hx rfl (pc0 := 41) (pc' := 46) rfl (hb hby drz_41) rfl (tlt hpos).2.2.1 (by decide) (by decide) k) ?_
      refine own_go (U' := T2.setTop (mkF m 47 #[.val (.ref a), .val (.int (Int32.ofNat n)), .val (.int p2), .val (.int (-1 : Int32)), .val (.int (-1 : Int32)), .unset] [(.int (-1 : Int32))])) (fun t k => XS.iloadN X2.here hx rfl (hb hby drz_46) rfl k) ?_
      refine own_go (U' := T2.setTop (mkF m 50 #[.val (.ref a), .val (.int (Int32.ofNat n)), .val (.int p2), .val (.int (-1 : Int32)), .val (.int (-1 : Int32)), .unset] [])) (fun t k => XS.ifNo X2.here hx rfl (hb hby drz_47) rfl ((if0 _ _).trans (tlt (by decide)).2.1) k) ?_
      refine own_go (U' := T2.setTop (mkF m 51 #[.val (.ref a), .val (.int (Int32.ofNat n)), .val (.int p2), .val (.int (-1 : Int32)), .val (.int (-1 : Int32)), .unset] [(.ref a)])) (fun t k => XS.aloadN X2.here hx rfl (hb hby drz_50) rfl rfl k) ?_
      refine own_go (U' := T2.setTop (mkF m 52 #[.val (.ref a), .val (.int (Int32.ofNat n)), .val (.int p2), .val (.int (-1 : Int32)), .val (.int (-1 : Int32)), .unset] [(.int (Int32.ofNat n)), (.ref a)])) (fun t k => XS.iloadN X2.here hx rfl (hb hby drz_51) rfl k) ?_
      refine own_go (U' := T2.setTop (mkF m 53 #[.val (.ref a), .val (.int (Int32.ofNat n)), .val (.int p2), .val (.int (-1 : Int32)), .val (.int (-1 : Int32)), .unset] [(.int p2), (.int (Int32.ofNat n)), (.ref a)])) (fun t k => XS.iloadN X2.here hx rfl (hb hby drz_52) rfl k) ?_
      obtain ⟨v3, T3, h3, L3, e3, X3, hQ3, st3⟩ := own_callV X2 hx hZ (y := (⟨"com/example/obedient_dog/obedientdog/topologydiscovery/AgeLog", "add", "(II)V"⟩ : MethodName)) (z := (⟨"com/example/obedient_dog/obedientdog/topologydiscovery/AgeLog", "add", "(II)V"⟩ : MethodName)) hown (hw _ (List.mem_of_getElem? (i := 76) rfl)) (hw _ (List.mem_of_getElem? (i := 77) rfl)) (notFace_of_selects (args := #[]) (mvT hZ (hw _ (List.mem_of_getElem? (i := 79) rfl)))) (hw _ (List.mem_of_getElem? (i := 79) rfl)) (hw _ (List.mem_of_getElem? (i := 78) rfl)) (hw _ (List.mem_of_getElem? (i := 2) rfl)) (hw _ (List.mem_of_getElem? (i := 80) rfl)) (by decide) E_a (own_rmad l Z a0 hw a (Int32.ofNat n) p2 h0 n0 g_a la ra ga nu ha kh (Int32.ofNat en) sz (Int32.ofNat se) pr hs tb .null .null htb hea hlr n en hn rfl hen rfl _ _ _ kl kr kg g_la g_ra g_ga ne_ra_ga ne_la_ra ne_la_ga ne_ha_la ne_ha_ra ne_ha_ga ⟨E_a, F_latest_a, F_raised_a, F_ages_a, F_numbers_a, F_entries_a, F_size_a, F_sealed_a, F_present_a, F_hash_a, F_table_a, F_earlier_a, F_later_a⟩ V_la h_la V_ra h_ra V_ga h_ga E_nu F_hashes_nu V_ha) (W := 0) (by decide) (by decide) (g := (mkF m 53 #[.val (.ref a), .val (.int (Int32.ofNat n)), .val (.int p2), .val (.int (-1 : Int32)), .val (.int (-1 : Int32)), .unset] [(.int p2), (.int (Int32.ofNat n)), (.ref a)])) rfl (by rw [hml]; rfl) (argsL := [(.int (Int32.ofNat n)), (.int p2)]) (rest := []) (lenOf own_pd3 rfl) rfl rfl (by show 2 * 0 + _ ≤ _; exact Nat.le_of_eq rfl) (hb hby drz_53) e2 (by decide) (by decide)
      obtain ⟨rfl, Nq, Kq, sz2, pr2, hs2, F_a, V_la, V_ra, V_ga⟩ := hQ3
      have K := K.trans Kq (allS (Or.inl (List.mem_of_getElem? (i := 0) rfl)) (allS (Or.inl (List.mem_of_getElem? (i := 1) rfl)) (allS (Or.inl (List.mem_of_getElem? (i := 2) rfl)) (allS (Or.inl (List.mem_of_getElem? (i := 3) rfl)) all0))))
      have O := O.keep Kq (allS g_a (allS g_la (allS g_ra (allS g_ga all0))))
      have E_a := E_a.keep Kq
      have E_nu := E_nu.keep Kq
      have F_hashes_nu := F_hashes_nu.keep Kq (ninS (Ne.symm ne_a_nu) (ninS ne_nu_la (ninS ne_nu_ra (ninS ne_nu_ga nin0))))
      have V_ha := V_ha.keep Kq (ninS (Ne.symm ne_a_ha) (ninS ne_ha_la (ninS ne_ha_ra (ninS ne_ha_ga nin0))))
      obtain ⟨E_a, F_latest_a, F_raised_a, F_ages_a, F_numbers_a, F_entries_a, F_size_a, F_sealed_a, F_present_a, F_hash_a, F_table_a, F_earlier_a, F_later_a⟩ := F_a
      have N3 := Fr.app N0 Nq
      refine own_go (U' := T3.setTop (mkF m 56 #[.val (.ref a), .val (.int (Int32.ofNat n)), .val (.int p2), .val (.int (-1 : Int32)), .val (.int (-1 : Int32)), .unset] [])) st3 ?_
      refine own_go (U' := T3.setTop (mkF m 57 #[.val (.ref a), .val (.int (Int32.ofNat n)), .val (.int p2), .val (.int (-1 : Int32)), .val (.int (-1 : Int32)), .unset] [(.int (1 : Int32))])) (fun t k => XS.iconst X3.here hx rfl (hb hby drz_56) k) ?_
      rw [own_is_set] at V_la V_ra
      rw [← List.map_set] at V_ga
      refine own_retN X3 hx (t := .boolean) hret (by simp) hlk (hb hby drz_57) ?_ (by decide) (by decide)
      rw [e3]
      have hr : own_raise (lt, rs, en, none) se n = (lt.set n (en + 1), rs.set en n, en + 1, none) := by rw [own_raise, if_pos hv]
      rw [hr] at hir ⊢
      exact ⟨rfl, N3, K, _, _, (fun y hy => Or.inl hy), own_ag_set hag, ⟨_, _, _, _, _, ⟨E_a, F_latest_a, F_raised_a, F_ages_a, F_numbers_a, F_entries_a, F_size_a, F_sealed_a, F_present_a, F_hash_a, F_table_a, F_earlier_a, F_later_a⟩, V_la, V_ra, V_ga, (by simpa using hgl), E_nu, F_hashes_nu, V_ha, hir, ⟨rfl, rfl, rfl⟩, rfl, ⟨ne_la_ra, ne_la_ga, ne_ra_ga, ne_ha_la, ne_ha_ra, ne_ha_ga⟩, ⟨g_a, g_la, g_ra, g_ga⟩, hne⟩⟩
    | some q =>
      obtain ⟨xe, xl, ke, kl2, rfl, rfl, rfl, V_xe, V_xl, g_xe, g_xl, ne_xe_xl⟩ := hcf
      obtain ⟨hq1, hq2, hq3, hq4⟩ := hcl q rfl
      have K := Keep.refl h0 ([a, la, ra, ga] ++ [xe, xl])
      obtain ⟨E_a, F_latest_a, F_raised_a, F_ages_a, F_numbers_a, F_entries_a, F_size_a, F_sealed_a, F_present_a, F_hash_a, F_table_a, F_earlier_a, F_later_a⟩ := F_a
      have ne_a_la : a ≠ la := by
        obtain ⟨cb, Ab, -⟩ := V_la
        exact ne_arr E_a (hw _ (List.mem_of_getElem? (i := 1) rfl)) Ab
      have ne_a_ra : a ≠ ra := by
        obtain ⟨cb, Ab, -⟩ := V_ra
        exact ne_arr E_a (hw _ (List.mem_of_getElem? (i := 1) rfl)) Ab
      have ne_a_ga : a ≠ ga := by
        obtain ⟨cb, Ab, -⟩ := V_ga
        exact ne_arr E_a (hw _ (List.mem_of_getElem? (i := 1) rfl)) Ab
      have ne_a_ha : a ≠ ha := by
        obtain ⟨cb, Ab, -⟩ := V_ha
        exact ne_arr E_a (hw _ (List.mem_of_getElem? (i := 1) rfl)) Ab
      have ne_nu_la : nu ≠ la := by
        obtain ⟨cb, Ab, -⟩ := V_la
        exact ne_arr E_nu (hw _ (List.mem_of_getElem? (i := 4) rfl)) Ab
      have ne_nu_ra : nu ≠ ra := by
        obtain ⟨cb, Ab, -⟩ := V_ra
        exact ne_arr E_nu (hw _ (List.mem_of_getElem? (i := 4) rfl)) Ab
      have ne_nu_ga : nu ≠ ga := by
        obtain ⟨cb, Ab, -⟩ := V_ga
        exact ne_arr E_nu (hw _ (List.mem_of_getElem? (i := 4) rfl)) Ab
      have ne_nu_ha : nu ≠ ha := by
        obtain ⟨cb, Ab, -⟩ := V_ha
        exact ne_arr E_nu (hw _ (List.mem_of_getElem? (i := 4) rfl)) Ab
      have ne_a_nu : a ≠ nu := ne_exa E_a E_nu (by decide)
      have ne_a_xe : a ≠ xe := by
        obtain ⟨cb, Ab, -⟩ := V_xe
        exact ne_arr E_a (hw _ (List.mem_of_getElem? (i := 1) rfl)) Ab
      have ne_a_xl : a ≠ xl := by
        obtain ⟨cb, Ab, -⟩ := V_xl
        exact ne_arr E_a (hw _ (List.mem_of_getElem? (i := 1) rfl)) Ab
      have ne_nu_xe : nu ≠ xe := by
        obtain ⟨cb, Ab, -⟩ := V_xe
        exact ne_arr E_nu (hw _ (List.mem_of_getElem? (i := 4) rfl)) Ab
      have ne_nu_xl : nu ≠ xl := by
        obtain ⟨cb, Ab, -⟩ := V_xl
        exact ne_arr E_nu (hw _ (List.mem_of_getElem? (i := 4) rfl)) Ab
      obtain ⟨ne_xe_la, ne_xe_ra, ne_xe_ga, ne_xe_ha⟩ := hne xe (by simp)
      obtain ⟨ne_xl_la, ne_xl_ra, ne_xl_ga, ne_xl_ha⟩ := hne xl (by simp)
      refine own_go (U' := s₁.setTop (mkF m 1 #[.val (.ref a), .val (.int (Int32.ofNat n)), .val (.int p2), .unset, .unset, .unset] [(.int (Int32.ofNat n))])) (fun t k => XS.iloadN X0.here hx rfl (hb hby drz_0) rfl k) ?_
      refine own_go (U' := s₁.setTop (mkF m 2 #[.val (.ref a), .val (.int (Int32.ofNat n)), .val (.int p2), .unset, .unset, .unset] [(.ref a), (.int (Int32.ofNat n))])) (fun t k => XS.aloadN X0.here hx rfl (hb hby drz_1) rfl rfl k) ?_
      obtain ⟨T4, X4, e4, st4⟩ := getF X0 hx hZ hown (host := "") (Or.inl (hw _ (List.mem_of_getElem? (i := 63) rfl))) Via.refl e0 F_latest_a (g := (mkF m 2 #[.val (.ref a), .val (.int (Int32.ofNat n)), .val (.int p2), .unset, .unset, .unset] [(.ref a), (.int (Int32.ofNat n))])) rfl rfl (hb hby drz_2)
      refine own_go (U' := T4.setTop (mkF m 5 #[.val (.ref a), .val (.int (Int32.ofNat n)), .val (.int p2), .unset, .unset, .unset] [(.ref la), (.int (Int32.ofNat n))])) st4 ?_
      refine own_go (U' := T4.setTop (mkF m 6 #[.val (.ref a), .val (.int (Int32.ofNat n)), .val (.int p2), .unset, .unset, .unset] [(.int (8 : Int32)), (.int (Int32.ofNat n))])) (own_arrlen X4 hx hZ e4 V_la (n := (8 : Int32)) (by rw [h_la]; rfl) (g := (mkF m 5 #[.val (.ref a), .val (.int (Int32.ofNat n)), .val (.int p2), .unset, .unset, .unset] [(.ref la), (.int (Int32.ofNat n))])) rfl rfl (hb hby drz_5)) ?_
      refine own_go (U' := T4.setTop (mkF m 9 #[.val (.ref a), .val (.int (Int32.ofNat n)), .val (.int p2), .unset, .unset, .unset] [])) (fun t k => XS.icmpNo X4.here hx rfl (hb hby drz_6) rfl (tlt ((own_lt (j := 8) (by omega) (by omega)).mpr hn)).2.1 k) ?_
      refine own_go (U' := T4.setTop (mkF m 10 #[.val (.ref a), .val (.int (Int32.ofNat n)), .val (.int p2), .unset, .unset, .unset] [(.ref a)])) (fun t k => XS.aloadN X4.here hx rfl (hb hby drz_9) rfl rfl k) ?_
      obtain ⟨T5, X5, e5, st5⟩ := getF X4 hx hZ hown (host := "") (Or.inl (hw _ (List.mem_of_getElem? (i := 63) rfl))) Via.refl e4 F_latest_a (g := (mkF m 10 #[.val (.ref a), .val (.int (Int32.ofNat n)), .val (.int p2), .unset, .unset, .unset] [(.ref a)])) rfl rfl (hb hby drz_10)
      refine own_go (U' := T5.setTop (mkF m 13 #[.val (.ref a), .val (.int (Int32.ofNat n)), .val (.int p2), .unset, .unset, .unset] [(.ref la)])) st5 ?_
      refine own_go (U' := T5.setTop (mkF m 14 #[.val (.ref a), .val (.int (Int32.ofNat n)), .val (.int p2), .unset, .unset, .unset] [(.int (Int32.ofNat n)), (.ref la)])) (fun t k => XS.iloadN X5.here hx rfl (hb hby drz_13) rfl k) ?_
      refine own_go (U' := T5.setTop (mkF m 15 #[.val (.ref a), .val (.int (Int32.ofNat n)), .val (.int p2), .unset, .unset, .unset] [(.int (Int32.ofNat (lt.getD n 0)))])) (own_iaload X5 hx hZ e5 V_la (j := (Int32.ofNat n)) on.1 (i := n) on.2.1 (v := (.int (Int32.ofNat (lt.getD n 0)))) (own_is_at (by omega)) (g := (mkF m 14 #[.val (.ref a), .val (.int (Int32.ofNat n)), .val (.int p2), .unset, .unset, .unset] [(.int (Int32.ofNat n)), (.ref la)])) rfl rfl (hb hby drz_14)) ?_
      rw [hv]
      refine own_go (U' := T5.setTop (mkF m 16 #[.val (.ref a), .val (.int (Int32.ofNat n)), .val (.int p2), .unset, .unset, .unset] [(.int (1 : Int32)), (.int (Int32.ofNat 0))])) (fun t k => XS.iconst X5.here hx rfl (hb hby drz_15) k) ?_
      refine own_go (U' := T5.setTop (mkF m 17 #[.val (.ref a), .val (.int (Int32.ofNat n)), .val (.int p2), .unset, .unset, .unset] [(.int ((Int32.ofNat 0) - (1 : Int32)))])) (fun t k => XS.isub X5.here hx rfl (hb hby drz_16) rfl k) ?_
      refine own_go (U' := T5.setTop (mkF m 21 #[.val (.ref a), .val (.int (Int32.ofNat n)), .val (.int p2), .unset, .unset, .unset] [(.int ((Int32.ofNat 0) - (1 : Int32)))])) (fun t k => XS.goto X5.here hx rfl (pc0 := 17) (pc' := 21) rfl (hb hby drz_17) (by decide) (by decide) k) ?_
      rw [show Int32.ofNat 0 - (1 : Int32) = (-1 : Int32) from by decide]
      refine own_go (U' := T5.setTop (mkF m 22 #[.val (.ref a), .val (.int (Int32.ofNat n)), .val (.int p2), .val (.int (-1 : Int32)), .unset, .unset] [])) (fun t k => XS.istoreN X5.here hx rfl (hb hby drz_21) rfl (l' := #[.val (.ref a), .val (.int (Int32.ofNat n)), .val (.int p2), .val (.int (-1 : Int32)), .unset, .unset]) rfl k) ?_
      refine own_go (U' := T5.setTop (mkF m 23 #[.val (.ref a), .val (.int (Int32.ofNat n)), .val (.int p2), .val (.int (-1 : Int32)), .unset, .unset] [(.int (-1 : Int32))])) (fun t k => XS.iloadN X5.here hx rfl (hb hby drz_22) rfl k) ?_
      refine own_go (U' := T5.setTop (mkF m 26 #[.val (.ref a), .val (.int (Int32.ofNat n)), .val (.int p2), .val (.int (-1 : Int32)), .unset, .unset] [])) (fun t k => XS.ifNo X5.here hx rfl (hb hby drz_23) rfl ((if0 _ _).trans (tlt (by decide)).2.1) k) ?_
      refine own_go (U' := T5.setTop (mkF m 27 #[.val (.ref a), .val (.int (Int32.ofNat n)), .val (.int p2), .val (.int (-1 : Int32)), .unset, .unset] [(.int (-1 : Int32))])) (fun t k => XS.iconst X5.here hx rfl (hb hby drz_26) k) ?_
      refine own_go (U' := T5.setTop (mkF m 36 #[.val (.ref a), .val (.int (Int32.ofNat n)), .val (.int p2), .val (.int (-1 : Int32)), .unset, .unset] [(.int (-1 : Int32))])) (fun t k => XS.goto X5.here hx rfl (pc0 := 27) (pc' := 36) rfl (hb hby drz_27) (by decide) (by decide) k) ?_
      refine own_go (U' := T5.setTop (mkF m 38 #[.val (.ref a), .val (.int (Int32.ofNat n)), .val (.int p2), .val (.int (-1 : Int32)), .val (.int (-1 : Int32)), .unset] [])) (fun t k => XS.istore X5.here hx rfl (hb hby drz_36) rfl (l' := #[.val (.ref a), .val (.int (Int32.ofNat n)), .val (.int p2), .val (.int (-1 : Int32)), .val (.int (-1 : Int32)), .unset]) rfl k) ?_
      refine own_go (U' := T5.setTop (mkF m 39 #[.val (.ref a), .val (.int (Int32.ofNat n)), .val (.int p2), .val (.int (-1 : Int32)), .val (.int (-1 : Int32)), .unset] [(.int p2)])) (fun t k => XS.iloadN X5.here hx rfl (hb hby drz_38) rfl k) ?_
      refine own_go (U' := T5.setTop (mkF m 41 #[.val (.ref a), .val (.int (Int32.ofNat n)), .val (.int p2), .val (.int (-1 : Int32)), .val (.int (-1 : Int32)), .unset] [(.int (-1 : Int32)), (.int p2)])) (fun t k => XS.iload X5.here hx rfl (hb hby drz_39) rfl k) ?_
      refine own_go (U' := T5.setTop (mkF m 46 #[.val (.ref a), .val (.int (Int32.ofNat n)), .val (.int p2), .val (.int (-1 : Int32)), .val (.int (-1 : Int32)), .unset] [])) (fun t k => XS.icmpYes X5.here hx rfl (pc0 := 41) (pc' := 46) rfl (hb hby drz_41) rfl (tlt hpos).2.2.1 (by decide) (by decide) k) ?_
      refine own_go (U' := T5.setTop (mkF m 47 #[.val (.ref a), .val (.int (Int32.ofNat n)), .val (.int p2), .val (.int (-1 : Int32)), .val (.int (-1 : Int32)), .unset] [(.int (-1 : Int32))])) (fun t k => XS.iloadN X5.here hx rfl (hb hby drz_46) rfl k) ?_
      refine own_go (U' := T5.setTop (mkF m 50 #[.val (.ref a), .val (.int (Int32.ofNat n)), .val (.int p2), .val (.int (-1 : Int32)), .val (.int (-1 : Int32)), .unset] [])) (fun t k => XS.ifNo X5.here hx rfl (hb hby drz_47) rfl ((if0 _ _).trans (tlt (by decide)).2.1) k) ?_
      refine own_go (U' := T5.setTop (mkF m 51 #[.val (.ref a), .val (.int (Int32.ofNat n)), .val (.int p2), .val (.int (-1 : Int32)), .val (.int (-1 : Int32)), .unset] [(.ref a)])) (fun t k => XS.aloadN X5.here hx rfl (hb hby drz_50) rfl rfl k) ?_
      refine own_go (U' := T5.setTop (mkF m 52 #[.val (.ref a), .val (.int (Int32.ofNat n)), .val (.int p2), .val (.int (-1 : Int32)), .val (.int (-1 : Int32)), .unset] [(.int (Int32.ofNat n)), (.ref a)])) (fun t k => XS.iloadN X5.here hx rfl (hb hby drz_51) rfl k) ?_
      refine own_go (U' := T5.setTop (mkF m 53 #[.val (.ref a), .val (.int (Int32.ofNat n)), .val (.int p2), .val (.int (-1 : Int32)), .val (.int (-1 : Int32)), .unset] [(.int p2), (.int (Int32.ofNat n)), (.ref a)])) (fun t k => XS.iloadN X5.here hx rfl (hb hby drz_52) rfl k) ?_
      obtain ⟨v6, T6, h6, L6, e6, X6, hQ6, st6⟩ := own_callV X5 hx hZ (y := (⟨"com/example/obedient_dog/obedientdog/topologydiscovery/AgeLog", "add", "(II)V"⟩ : MethodName)) (z := (⟨"com/example/obedient_dog/obedientdog/topologydiscovery/AgeLog", "add", "(II)V"⟩ : MethodName)) hown (hw _ (List.mem_of_getElem? (i := 76) rfl)) (hw _ (List.mem_of_getElem? (i := 77) rfl)) (notFace_of_selects (args := #[]) (mvT hZ (hw _ (List.mem_of_getElem? (i := 79) rfl)))) (hw _ (List.mem_of_getElem? (i := 79) rfl)) (hw _ (List.mem_of_getElem? (i := 78) rfl)) (hw _ (List.mem_of_getElem? (i := 2) rfl)) (hw _ (List.mem_of_getElem? (i := 80) rfl)) (by decide) E_a (own_rmad l Z a0 hw a (Int32.ofNat n) p2 h0 n0 g_a la ra ga nu ha kh (Int32.ofNat en) sz (Int32.ofNat se) pr hs tb (.ref xe) (.ref xl) htb hea hlr n en hn rfl hen rfl _ _ _ kl kr kg g_la g_ra g_ga ne_ra_ga ne_la_ra ne_la_ga ne_ha_la ne_ha_ra ne_ha_ga ⟨E_a, F_latest_a, F_raised_a, F_ages_a, F_numbers_a, F_entries_a, F_size_a, F_sealed_a, F_present_a, F_hash_a, F_table_a, F_earlier_a, F_later_a⟩ V_la h_la V_ra h_ra V_ga h_ga E_nu F_hashes_nu V_ha) (W := 0) (by decide) (by decide) (g := (mkF m 53 #[.val (.ref a), .val (.int (Int32.ofNat n)), .val (.int p2), .val (.int (-1 : Int32)), .val (.int (-1 : Int32)), .unset] [(.int p2), (.int (Int32.ofNat n)), (.ref a)])) rfl (by rw [hml]; rfl) (argsL := [(.int (Int32.ofNat n)), (.int p2)]) (rest := []) (lenOf own_pd3 rfl) rfl rfl (by show 2 * 0 + _ ≤ _; exact Nat.le_of_eq rfl) (hb hby drz_53) e5 (by decide) (by decide)
      obtain ⟨rfl, Nq, Kq, sz2, pr2, hs2, F_a, V_la, V_ra, V_ga⟩ := hQ6
      have K := K.trans Kq (allS (Or.inl (List.mem_of_getElem? (i := 0) rfl)) (allS (Or.inl (List.mem_of_getElem? (i := 1) rfl)) (allS (Or.inl (List.mem_of_getElem? (i := 2) rfl)) (allS (Or.inl (List.mem_of_getElem? (i := 3) rfl)) all0))))
      have O := O.keep Kq (allS g_a (allS g_la (allS g_ra (allS g_ga all0))))
      have E_a := E_a.keep Kq
      have E_nu := E_nu.keep Kq
      have F_hashes_nu := F_hashes_nu.keep Kq (ninS (Ne.symm ne_a_nu) (ninS ne_nu_la (ninS ne_nu_ra (ninS ne_nu_ga nin0))))
      have V_ha := V_ha.keep Kq (ninS (Ne.symm ne_a_ha) (ninS ne_ha_la (ninS ne_ha_ra (ninS ne_ha_ga nin0))))
      have V_xe := V_xe.keep Kq (ninS (Ne.symm ne_a_xe) (ninS ne_xe_la (ninS ne_xe_ra (ninS ne_xe_ga nin0))))
      have V_xl := V_xl.keep Kq (ninS (Ne.symm ne_a_xl) (ninS ne_xl_la (ninS ne_xl_ra (ninS ne_xl_ga nin0))))
      obtain ⟨E_a, F_latest_a, F_raised_a, F_ages_a, F_numbers_a, F_entries_a, F_size_a, F_sealed_a, F_present_a, F_hash_a, F_table_a, F_earlier_a, F_later_a⟩ := F_a
      have N6 := Fr.app N0 Nq
      refine own_go (U' := T6.setTop (mkF m 56 #[.val (.ref a), .val (.int (Int32.ofNat n)), .val (.int p2), .val (.int (-1 : Int32)), .val (.int (-1 : Int32)), .unset] [])) st6 ?_
      refine own_go (U' := T6.setTop (mkF m 57 #[.val (.ref a), .val (.int (Int32.ofNat n)), .val (.int p2), .val (.int (-1 : Int32)), .val (.int (-1 : Int32)), .unset] [(.int (1 : Int32))])) (fun t k => XS.iconst X6.here hx rfl (hb hby drz_56) k) ?_
      rw [own_is_set] at V_la V_ra
      rw [← List.map_set] at V_ga
      refine own_retN X6 hx (t := .boolean) hret (by simp) hlk (hb hby drz_57) ?_ (by decide) (by decide)
      rw [e6]
      have hr : own_raise (lt, rs, en, some q) se n = (lt.set n (en + 1), rs.set en n, en + 1, some q) := by rw [own_raise, if_pos hv]
      rw [hr] at hir ⊢
      exact ⟨rfl, N6, K, _, _, (fun y hy => Or.inl hy), own_ag_set hag, ⟨_, _, _, _, _, ⟨E_a, F_latest_a, F_raised_a, F_ages_a, F_numbers_a, F_entries_a, F_size_a, F_sealed_a, F_present_a, F_hash_a, F_table_a, F_earlier_a, F_later_a⟩, V_la, V_ra, V_ga, (by simpa using hgl), E_nu, F_hashes_nu, V_ha, hir, ⟨_, _, _, _, rfl, rfl, rfl, V_xe, V_xl, g_xe, g_xl, ne_xe_xl⟩, rfl, ⟨ne_la_ra, ne_la_ga, ne_ra_ga, ne_ha_la, ne_ha_ra, ne_ha_ga⟩, ⟨g_a, g_la, g_ra, g_ga⟩, hne⟩⟩
  | succ j =>
    have hjle : j + 1 ≤ en := by
      have : lt.getD n 0 ∈ lt := by rw [List.getD, List.getElem?_eq_getElem (by omega : n < lt.length), Option.getD_some]; exact List.getElem_mem _
      have := hle _ this
      omega
    have oj := own_ofn (i := j) (by omega)
    obtain ⟨x, hxa, hxp⟩ : ∃ x, (ag.map Value.int)[j]? = some (.int x) ∧ x < p2 := by
      have hj : j < ag.length := by omega
      exact ⟨ag[j], by simp [List.getElem?_eq_getElem hj], hag _ (List.getElem_mem hj)⟩
    cases ch with
    | none =>
      obtain ⟨rfl, rfl, rfl⟩ := hcf
      have K := Keep.refl h0 ([a, la, ra, ga] ++ [])
      obtain ⟨E_a, F_latest_a, F_raised_a, F_ages_a, F_numbers_a, F_entries_a, F_size_a, F_sealed_a, F_present_a, F_hash_a, F_table_a, F_earlier_a, F_later_a⟩ := F_a
      have ne_a_la : a ≠ la := by
        obtain ⟨cb, Ab, -⟩ := V_la
        exact ne_arr E_a (hw _ (List.mem_of_getElem? (i := 1) rfl)) Ab
      have ne_a_ra : a ≠ ra := by
        obtain ⟨cb, Ab, -⟩ := V_ra
        exact ne_arr E_a (hw _ (List.mem_of_getElem? (i := 1) rfl)) Ab
      have ne_a_ga : a ≠ ga := by
        obtain ⟨cb, Ab, -⟩ := V_ga
        exact ne_arr E_a (hw _ (List.mem_of_getElem? (i := 1) rfl)) Ab
      have ne_a_ha : a ≠ ha := by
        obtain ⟨cb, Ab, -⟩ := V_ha
        exact ne_arr E_a (hw _ (List.mem_of_getElem? (i := 1) rfl)) Ab
      have ne_nu_la : nu ≠ la := by
        obtain ⟨cb, Ab, -⟩ := V_la
        exact ne_arr E_nu (hw _ (List.mem_of_getElem? (i := 4) rfl)) Ab
      have ne_nu_ra : nu ≠ ra := by
        obtain ⟨cb, Ab, -⟩ := V_ra
        exact ne_arr E_nu (hw _ (List.mem_of_getElem? (i := 4) rfl)) Ab
      have ne_nu_ga : nu ≠ ga := by
        obtain ⟨cb, Ab, -⟩ := V_ga
        exact ne_arr E_nu (hw _ (List.mem_of_getElem? (i := 4) rfl)) Ab
      have ne_nu_ha : nu ≠ ha := by
        obtain ⟨cb, Ab, -⟩ := V_ha
        exact ne_arr E_nu (hw _ (List.mem_of_getElem? (i := 4) rfl)) Ab
      have ne_a_nu : a ≠ nu := ne_exa E_a E_nu (by decide)
      refine own_go (U' := s₁.setTop (mkF m 1 #[.val (.ref a), .val (.int (Int32.ofNat n)), .val (.int p2), .unset, .unset, .unset] [(.int (Int32.ofNat n))])) (fun t k => XS.iloadN X0.here hx rfl (hb hby drz_0) rfl k) ?_
      refine own_go (U' := s₁.setTop (mkF m 2 #[.val (.ref a), .val (.int (Int32.ofNat n)), .val (.int p2), .unset, .unset, .unset] [(.ref a), (.int (Int32.ofNat n))])) (fun t k => XS.aloadN X0.here hx rfl (hb hby drz_1) rfl rfl k) ?_
      obtain ⟨T7, X7, e7, st7⟩ := getF X0 hx hZ hown (host := "") (Or.inl (hw _ (List.mem_of_getElem? (i := 63) rfl))) Via.refl e0 F_latest_a (g := (mkF m 2 #[.val (.ref a), .val (.int (Int32.ofNat n)), .val (.int p2), .unset, .unset, .unset] [(.ref a), (.int (Int32.ofNat n))])) rfl rfl (hb hby drz_2)
      refine own_go (U' := T7.setTop (mkF m 5 #[.val (.ref a), .val (.int (Int32.ofNat n)), .val (.int p2), .unset, .unset, .unset] [(.ref la), (.int (Int32.ofNat n))])) st7 ?_
      refine own_go (U' := T7.setTop (mkF m 6 #[.val (.ref a), .val (.int (Int32.ofNat n)), .val (.int p2), .unset, .unset, .unset] [(.int (8 : Int32)), (.int (Int32.ofNat n))])) (own_arrlen X7 hx hZ e7 V_la (n := (8 : Int32)) (by rw [h_la]; rfl) (g := (mkF m 5 #[.val (.ref a), .val (.int (Int32.ofNat n)), .val (.int p2), .unset, .unset, .unset] [(.ref la), (.int (Int32.ofNat n))])) rfl rfl (hb hby drz_5)) ?_
      refine own_go (U' := T7.setTop (mkF m 9 #[.val (.ref a), .val (.int (Int32.ofNat n)), .val (.int p2), .unset, .unset, .unset] [])) (fun t k => XS.icmpNo X7.here hx rfl (hb hby drz_6) rfl (tlt ((own_lt (j := 8) (by omega) (by omega)).mpr hn)).2.1 k) ?_
      refine own_go (U' := T7.setTop (mkF m 10 #[.val (.ref a), .val (.int (Int32.ofNat n)), .val (.int p2), .unset, .unset, .unset] [(.ref a)])) (fun t k => XS.aloadN X7.here hx rfl (hb hby drz_9) rfl rfl k) ?_
      obtain ⟨T8, X8, e8, st8⟩ := getF X7 hx hZ hown (host := "") (Or.inl (hw _ (List.mem_of_getElem? (i := 63) rfl))) Via.refl e7 F_latest_a (g := (mkF m 10 #[.val (.ref a), .val (.int (Int32.ofNat n)), .val (.int p2), .unset, .unset, .unset] [(.ref a)])) rfl rfl (hb hby drz_10)
      refine own_go (U' := T8.setTop (mkF m 13 #[.val (.ref a), .val (.int (Int32.ofNat n)), .val (.int p2), .unset, .unset, .unset] [(.ref la)])) st8 ?_
      refine own_go (U' := T8.setTop (mkF m 14 #[.val (.ref a), .val (.int (Int32.ofNat n)), .val (.int p2), .unset, .unset, .unset] [(.int (Int32.ofNat n)), (.ref la)])) (fun t k => XS.iloadN X8.here hx rfl (hb hby drz_13) rfl k) ?_
      refine own_go (U' := T8.setTop (mkF m 15 #[.val (.ref a), .val (.int (Int32.ofNat n)), .val (.int p2), .unset, .unset, .unset] [(.int (Int32.ofNat (lt.getD n 0)))])) (own_iaload X8 hx hZ e8 V_la (j := (Int32.ofNat n)) on.1 (i := n) on.2.1 (v := (.int (Int32.ofNat (lt.getD n 0)))) (own_is_at (by omega)) (g := (mkF m 14 #[.val (.ref a), .val (.int (Int32.ofNat n)), .val (.int p2), .unset, .unset, .unset] [(.int (Int32.ofNat n)), (.ref la)])) rfl rfl (hb hby drz_14)) ?_
      rw [hv]
      refine own_go (U' := T8.setTop (mkF m 16 #[.val (.ref a), .val (.int (Int32.ofNat n)), .val (.int p2), .unset, .unset, .unset] [(.int (1 : Int32)), (.int (Int32.ofNat (j + 1)))])) (fun t k => XS.iconst X8.here hx rfl (hb hby drz_15) k) ?_
      refine own_go (U' := T8.setTop (mkF m 17 #[.val (.ref a), .val (.int (Int32.ofNat n)), .val (.int p2), .unset, .unset, .unset] [(.int ((Int32.ofNat (j + 1)) - (1 : Int32)))])) (fun t k => XS.isub X8.here hx rfl (hb hby drz_16) rfl k) ?_
      refine own_go (U' := T8.setTop (mkF m 21 #[.val (.ref a), .val (.int (Int32.ofNat n)), .val (.int p2), .unset, .unset, .unset] [(.int ((Int32.ofNat (j + 1)) - (1 : Int32)))])) (fun t k => XS.goto X8.here hx rfl (pc0 := 17) (pc' := 21) rfl (hb hby drz_17) (by decide) (by decide) k) ?_
      rw [own_up1]
      refine own_go (U' := T8.setTop (mkF m 22 #[.val (.ref a), .val (.int (Int32.ofNat n)), .val (.int p2), .val (.int (Int32.ofNat j)), .unset, .unset] [])) (fun t k => XS.istoreN X8.here hx rfl (hb hby drz_21) rfl (l' := #[.val (.ref a), .val (.int (Int32.ofNat n)), .val (.int p2), .val (.int (Int32.ofNat j)), .unset, .unset]) rfl k) ?_
      refine own_go (U' := T8.setTop (mkF m 23 #[.val (.ref a), .val (.int (Int32.ofNat n)), .val (.int p2), .val (.int (Int32.ofNat j)), .unset, .unset] [(.int (Int32.ofNat j))])) (fun t k => XS.iloadN X8.here hx rfl (hb hby drz_22) rfl k) ?_
      refine own_go (U' := T8.setTop (mkF m 30 #[.val (.ref a), .val (.int (Int32.ofNat n)), .val (.int p2), .val (.int (Int32.ofNat j)), .unset, .unset] [])) (fun t k => XS.ifYes X8.here hx rfl (pc0 := 23) (pc' := 30) rfl (hb hby drz_23) rfl ((if0 _ _).trans (flt oj.1).2.1) (by decide) (by decide) k) ?_
      refine own_go (U' := T8.setTop (mkF m 31 #[.val (.ref a), .val (.int (Int32.ofNat n)), .val (.int p2), .val (.int (Int32.ofNat j)), .unset, .unset] [(.ref a)])) (fun t k => XS.aloadN X8.here hx rfl (hb hby drz_30) rfl rfl k) ?_
      obtain ⟨T9, X9, e9, st9⟩ := getF X8 hx hZ hown (host := "") (Or.inl (hw _ (List.mem_of_getElem? (i := 67) rfl))) Via.refl e8 F_ages_a (g := (mkF m 31 #[.val (.ref a), .val (.int (Int32.ofNat n)), .val (.int p2), .val (.int (Int32.ofNat j)), .unset, .unset] [(.ref a)])) rfl rfl (hb hby drz_31)
      refine own_go (U' := T9.setTop (mkF m 34 #[.val (.ref a), .val (.int (Int32.ofNat n)), .val (.int p2), .val (.int (Int32.ofNat j)), .unset, .unset] [(.ref ga)])) st9 ?_
      refine own_go (U' := T9.setTop (mkF m 35 #[.val (.ref a), .val (.int (Int32.ofNat n)), .val (.int p2), .val (.int (Int32.ofNat j)), .unset, .unset] [(.int (Int32.ofNat j)), (.ref ga)])) (fun t k => XS.iloadN X9.here hx rfl (hb hby drz_34) rfl k) ?_
      refine own_go (U' := T9.setTop (mkF m 36 #[.val (.ref a), .val (.int (Int32.ofNat n)), .val (.int p2), .val (.int (Int32.ofNat j)), .unset, .unset] [(.int x)])) (own_iaload X9 hx hZ e9 V_ga (j := (Int32.ofNat j)) oj.1 (i := j) oj.2.1 (v := (.int x)) hxa (g := (mkF m 35 #[.val (.ref a), .val (.int (Int32.ofNat n)), .val (.int p2), .val (.int (Int32.ofNat j)), .unset, .unset] [(.int (Int32.ofNat j)), (.ref ga)])) rfl rfl (hb hby drz_35)) ?_
      refine own_go (U' := T9.setTop (mkF m 38 #[.val (.ref a), .val (.int (Int32.ofNat n)), .val (.int p2), .val (.int (Int32.ofNat j)), .val (.int x), .unset] [])) (fun t k => XS.istore X9.here hx rfl (hb hby drz_36) rfl (l' := #[.val (.ref a), .val (.int (Int32.ofNat n)), .val (.int p2), .val (.int (Int32.ofNat j)), .val (.int x), .unset]) rfl k) ?_
      refine own_go (U' := T9.setTop (mkF m 39 #[.val (.ref a), .val (.int (Int32.ofNat n)), .val (.int p2), .val (.int (Int32.ofNat j)), .val (.int x), .unset] [(.int p2)])) (fun t k => XS.iloadN X9.here hx rfl (hb hby drz_38) rfl k) ?_
      refine own_go (U' := T9.setTop (mkF m 41 #[.val (.ref a), .val (.int (Int32.ofNat n)), .val (.int p2), .val (.int (Int32.ofNat j)), .val (.int x), .unset] [(.int x), (.int p2)])) (fun t k => XS.iload X9.here hx rfl (hb hby drz_39) rfl k) ?_
      refine own_go (U' := T9.setTop (mkF m 46 #[.val (.ref a), .val (.int (Int32.ofNat n)), .val (.int p2), .val (.int (Int32.ofNat j)), .val (.int x), .unset] [])) (fun t k => XS.icmpYes X9.here hx rfl (pc0 := 41) (pc' := 46) rfl (hb hby drz_41) rfl (tlt hxp).2.2.1 (by decide) (by decide) k) ?_
      refine own_go (U' := T9.setTop (mkF m 47 #[.val (.ref a), .val (.int (Int32.ofNat n)), .val (.int p2), .val (.int (Int32.ofNat j)), .val (.int x), .unset] [(.int (Int32.ofNat j))])) (fun t k => XS.iloadN X9.here hx rfl (hb hby drz_46) rfl k) ?_
      refine own_go (U' := T9.setTop (mkF m 58 #[.val (.ref a), .val (.int (Int32.ofNat n)), .val (.int p2), .val (.int (Int32.ofNat j)), .val (.int x), .unset] [])) (fun t k => XS.ifYes X9.here hx rfl (pc0 := 47) (pc' := 58) rfl (hb hby drz_47) rfl ((if0 _ _).trans (flt oj.1).2.1) (by decide) (by decide) k) ?_
      refine own_go (U' := T9.setTop (mkF m 59 #[.val (.ref a), .val (.int (Int32.ofNat n)), .val (.int p2), .val (.int (Int32.ofNat j)), .val (.int x), .unset] [(.int (Int32.ofNat j))])) (fun t k => XS.iloadN X9.here hx rfl (hb hby drz_58) rfl k) ?_
      refine own_go (U' := T9.setTop (mkF m 60 #[.val (.ref a), .val (.int (Int32.ofNat n)), .val (.int p2), .val (.int (Int32.ofNat j)), .val (.int x), .unset] [(.ref a), (.int (Int32.ofNat j))])) (fun t k => XS.aloadN X9.here hx rfl (hb hby drz_59) rfl rfl k) ?_
      obtain ⟨T10, X10, e10, st10⟩ := getF X9 hx hZ hown (host := "") (Or.inl (hw _ (List.mem_of_getElem? (i := 109) rfl))) Via.refl e9 F_sealed_a (g := (mkF m 60 #[.val (.ref a), .val (.int (Int32.ofNat n)), .val (.int p2), .val (.int (Int32.ofNat j)), .val (.int x), .unset] [(.ref a), (.int (Int32.ofNat j))])) rfl rfl (hb hby drz_60)
      refine own_go (U' := T10.setTop (mkF m 63 #[.val (.ref a), .val (.int (Int32.ofNat n)), .val (.int p2), .val (.int (Int32.ofNat j)), .val (.int x), .unset] [(.int (Int32.ofNat se)), (.int (Int32.ofNat j))])) st10 ?_
      by_cases hjs : (Int32.ofNat j) < (Int32.ofNat se)
      · refine own_go (U' := T10.setTop (mkF m 66 #[.val (.ref a), .val (.int (Int32.ofNat n)), .val (.int p2), .val (.int (Int32.ofNat j)), .val (.int x), .unset] [])) (fun t k => XS.icmpNo X10.here hx rfl (hb hby drz_63) rfl (tlt hjs).2.1 k) ?_
        have hjs := (own_lt (by omega) (by omega)).mp hjs
        refine own_go (U' := T10.setTop (mkF m 67 #[.val (.ref a), .val (.int (Int32.ofNat n)), .val (.int p2), .val (.int (Int32.ofNat j)), .val (.int x), .unset] [(.ref a)])) (fun t k => XS.aloadN X10.here hx rfl (hb hby drz_66) rfl rfl k) ?_
        refine own_go (U' := T10.setTop (mkF m 68 #[.val (.ref a), .val (.int (Int32.ofNat n)), .val (.int p2), .val (.int (Int32.ofNat j)), .val (.int x), .unset] [(.int (Int32.ofNat n)), (.ref a)])) (fun t k => XS.iloadN X10.here hx rfl (hb hby drz_67) rfl k) ?_
        refine own_go (U' := T10.setTop (mkF m 69 #[.val (.ref a), .val (.int (Int32.ofNat n)), .val (.int p2), .val (.int (Int32.ofNat j)), .val (.int x), .unset] [(.int p2), (.int (Int32.ofNat n)), (.ref a)])) (fun t k => XS.iloadN X10.here hx rfl (hb hby drz_68) rfl k) ?_
        obtain ⟨v11, T11, h11, L11, e11, X11, hQ11, st11⟩ := own_callP X10 hx hZ (y := (⟨"com/example/obedient_dog/obedientdog/topologydiscovery/AgeLog", "append", "(II)I"⟩ : MethodName)) hown (hw _ (List.mem_of_getElem? (i := 81) rfl)) (hw _ (List.mem_of_getElem? (i := 82) rfl)) (own_selP (y0 := (⟨"com/example/obedient_dog/obedientdog/topologydiscovery/AgeLog", "raise", "(II)Z"⟩ : MethodName)) (hw _ (List.mem_of_getElem? (i := 74) rfl)) rfl (hw _ (List.mem_of_getElem? (i := 83) rfl)) (hw _ (List.mem_of_getElem? (i := 82) rfl)) (by decide)) (hw _ (List.mem_of_getElem? (i := 83) rfl)) (hw _ (List.mem_of_getElem? (i := 2) rfl)) (hw _ (List.mem_of_getElem? (i := 84) rfl)) (by decide) E_a (own_rmap l Z a0 hw a (Int32.ofNat n) p2 h0 n0 g_a la ra ga nu ha kh (Int32.ofNat en) sz (Int32.ofNat se) pr hs tb .null .null htb hea hlr en hen rfl _ _ kr kg g_ra g_ga ne_ra_ga ⟨E_a, F_latest_a, F_raised_a, F_ages_a, F_numbers_a, F_entries_a, F_size_a, F_sealed_a, F_present_a, F_hash_a, F_table_a, F_earlier_a, F_later_a⟩ V_ra h_ra V_ga h_ga) (W := 0) (by decide) (by decide) (g := (mkF m 69 #[.val (.ref a), .val (.int (Int32.ofNat n)), .val (.int p2), .val (.int (Int32.ofNat j)), .val (.int x), .unset] [(.int p2), (.int (Int32.ofNat n)), (.ref a)])) rfl (by rw [hml]; rfl) (argsL := [(.int (Int32.ofNat n)), (.int p2)]) (rest := []) (lenOf own_pd2 rfl) rfl rfl (by show 2 * 0 + _ ≤ _; exact Nat.le_of_eq rfl) (hb hby drz_69) e10 (by decide) (by decide)
        obtain ⟨rfl, Nq, Kq, F_a, V_ra, V_ga⟩ := hQ11
        have K := K.trans Kq (allS (Or.inl (List.mem_of_getElem? (i := 0) rfl)) (allS (Or.inl (List.mem_of_getElem? (i := 2) rfl)) (allS (Or.inl (List.mem_of_getElem? (i := 3) rfl)) all0)))
        have O := O.keep Kq (allS g_a (allS g_ra (allS g_ga all0)))
        have E_a := E_a.keep Kq
        have E_nu := E_nu.keep Kq
        have F_hashes_nu := F_hashes_nu.keep Kq (ninS (Ne.symm ne_a_nu) (ninS ne_nu_ra (ninS ne_nu_ga nin0)))
        have V_ha := V_ha.keep Kq (ninS (Ne.symm ne_a_ha) (ninS ne_ha_ra (ninS ne_ha_ga nin0)))
        have V_la := V_la.keep Kq (ninS (Ne.symm ne_a_la) (ninS ne_la_ra (ninS ne_la_ga nin0)))
        obtain ⟨E_a, F_latest_a, F_raised_a, F_ages_a, F_numbers_a, F_entries_a, F_size_a, F_sealed_a, F_present_a, F_hash_a, F_table_a, F_earlier_a, F_later_a⟩ := F_a
        have N11 := Fr.app N0 Nq
        refine own_go (U' := T11.setTop (mkF m 72 #[.val (.ref a), .val (.int (Int32.ofNat n)), .val (.int p2), .val (.int (Int32.ofNat j)), .val (.int x), .unset] [(.int (Int32.ofNat en))])) st11 ?_
        refine own_go (U' := T11.setTop (mkF m 74 #[.val (.ref a), .val (.int (Int32.ofNat n)), .val (.int p2), .val (.int (Int32.ofNat j)), .val (.int x), .val (.int (Int32.ofNat en))] [])) (fun t k => XS.istore X11.here hx rfl (hb hby drz_72) rfl (l' := #[.val (.ref a), .val (.int (Int32.ofNat n)), .val (.int p2), .val (.int (Int32.ofNat j)), .val (.int x), .val (.int (Int32.ofNat en))]) rfl k) ?_
        refine own_go (U' := T11.setTop (mkF m 75 #[.val (.ref a), .val (.int (Int32.ofNat n)), .val (.int p2), .val (.int (Int32.ofNat j)), .val (.int x), .val (.int (Int32.ofNat en))] [(.ref a)])) (fun t k => XS.aloadN X11.here hx rfl (hb hby drz_74) rfl rfl k) ?_
        refine own_go (U' := T11.setTop (mkF m 76 #[.val (.ref a), .val (.int (Int32.ofNat n)), .val (.int p2), .val (.int (Int32.ofNat j)), .val (.int x), .val (.int (Int32.ofNat en))] [(.int (Int32.ofNat j)), (.ref a)])) (fun t k => XS.iloadN X11.here hx rfl (hb hby drz_75) rfl k) ?_
        refine own_go (U' := T11.setTop (mkF m 78 #[.val (.ref a), .val (.int (Int32.ofNat n)), .val (.int p2), .val (.int (Int32.ofNat j)), .val (.int x), .val (.int (Int32.ofNat en))] [(.int (Int32.ofNat en)), (.int (Int32.ofNat j)), (.ref a)])) (fun t k => XS.iload X11.here hx rfl (hb hby drz_76) rfl k) ?_
        obtain ⟨v12, T12, h12, L12, e12, X12, hQ12, st12⟩ := own_callP X11 hx hZ (y := (⟨"com/example/obedient_dog/obedientdog/topologydiscovery/AgeLog", "chain", "(II)V"⟩ : MethodName)) hown (hw _ (List.mem_of_getElem? (i := 133) rfl)) (hw _ (List.mem_of_getElem? (i := 134) rfl)) (own_selP (y0 := (⟨"com/example/obedient_dog/obedientdog/topologydiscovery/AgeLog", "raise", "(II)Z"⟩ : MethodName)) (hw _ (List.mem_of_getElem? (i := 74) rfl)) rfl (hw _ (List.mem_of_getElem? (i := 135) rfl)) (hw _ (List.mem_of_getElem? (i := 134) rfl)) (by decide)) (hw _ (List.mem_of_getElem? (i := 135) rfl)) (hw _ (List.mem_of_getElem? (i := 2) rfl)) (hw _ (List.mem_of_getElem? (i := 136) rfl)) (by decide) E_a (own_rmc0 l Z a0 hw a (Int32.ofNat j) (Int32.ofNat en) h11 n0 O g_a la ra ga nu ha kh _ _ _ _ _ _ htb j en (by omega) hen rfl rfl _ kr ⟨E_a, F_latest_a, F_raised_a, F_ages_a, F_numbers_a, F_entries_a, F_size_a, F_sealed_a, F_present_a, F_hash_a, F_table_a, F_earlier_a, F_later_a⟩ V_ra (by simpa using hrl)) (W := 0) (by decide) (by decide) (g := (mkF m 78 #[.val (.ref a), .val (.int (Int32.ofNat n)), .val (.int p2), .val (.int (Int32.ofNat j)), .val (.int x), .val (.int (Int32.ofNat en))] [(.int (Int32.ofNat en)), (.int (Int32.ofNat j)), (.ref a)])) rfl (by rw [hml]; rfl) (argsL := [(.int (Int32.ofNat j)), (.int (Int32.ofNat en))]) (rest := []) (lenOf own_pd3 rfl) rfl rfl (by show 2 * 0 + _ ≤ _; exact Nat.le_of_eq rfl) (hb hby drz_78) e11 (by decide) (by decide)
        obtain ⟨rfl, Nq, Kq, xe, xl, ke, kl2, F_a, V_xe, V_xl, sx_xe, sx_xl, g_xe, g_xl, ne_xe_xl⟩ := hQ12
        have sz_xe : h0.size ≤ xe := Nat.le_trans K.1 sx_xe
        have sz_xl : h0.size ≤ xl := Nat.le_trans K.1 sx_xl
        have ne_xe_la : xe ≠ la := Ne.symm (Nat.ne_of_lt (Nat.lt_of_lt_of_le V_la.lt sx_xe))
        have ne_xl_la : xl ≠ la := Ne.symm (Nat.ne_of_lt (Nat.lt_of_lt_of_le V_la.lt sx_xl))
        have ne_xe_ra : xe ≠ ra := Ne.symm (Nat.ne_of_lt (Nat.lt_of_lt_of_le V_ra.lt sx_xe))
        have ne_xl_ra : xl ≠ ra := Ne.symm (Nat.ne_of_lt (Nat.lt_of_lt_of_le V_ra.lt sx_xl))
        have ne_xe_ga : xe ≠ ga := Ne.symm (Nat.ne_of_lt (Nat.lt_of_lt_of_le V_ga.lt sx_xe))
        have ne_xl_ga : xl ≠ ga := Ne.symm (Nat.ne_of_lt (Nat.lt_of_lt_of_le V_ga.lt sx_xl))
        have ne_xe_ha : xe ≠ ha := Ne.symm (Nat.ne_of_lt (Nat.lt_of_lt_of_le V_ha.lt sx_xe))
        have ne_xl_ha : xl ≠ ha := Ne.symm (Nat.ne_of_lt (Nat.lt_of_lt_of_le V_ha.lt sx_xl))
        have K := K.trans Kq (allS (Or.inl (List.mem_of_getElem? (i := 0) rfl)) all0)
        have O := O.keep Kq (allS g_a all0)
        have E_a := E_a.keep Kq
        have E_nu := E_nu.keep Kq
        have F_hashes_nu := F_hashes_nu.keep Kq (ninS (Ne.symm ne_a_nu) nin0)
        have V_ha := V_ha.keep Kq (ninS (Ne.symm ne_a_ha) nin0)
        have V_la := V_la.keep Kq (ninS (Ne.symm ne_a_la) nin0)
        have V_ra := V_ra.keep Kq (ninS (Ne.symm ne_a_ra) nin0)
        have V_ga := V_ga.keep Kq (ninS (Ne.symm ne_a_ga) nin0)
        obtain ⟨E_a, F_latest_a, F_raised_a, F_ages_a, F_numbers_a, F_entries_a, F_size_a, F_sealed_a, F_present_a, F_hash_a, F_table_a, F_earlier_a, F_later_a⟩ := F_a
        have N12 := Fr.app N11 Nq
        have ne_a_xe : a ≠ xe := by
          obtain ⟨cb, Ab, -⟩ := V_xe
          exact ne_arr E_a (hw _ (List.mem_of_getElem? (i := 1) rfl)) Ab
        have ne_a_xl : a ≠ xl := by
          obtain ⟨cb, Ab, -⟩ := V_xl
          exact ne_arr E_a (hw _ (List.mem_of_getElem? (i := 1) rfl)) Ab
        have ne_nu_xe : nu ≠ xe := by
          obtain ⟨cb, Ab, -⟩ := V_xe
          exact ne_arr E_nu (hw _ (List.mem_of_getElem? (i := 4) rfl)) Ab
        have ne_nu_xl : nu ≠ xl := by
          obtain ⟨cb, Ab, -⟩ := V_xl
          exact ne_arr E_nu (hw _ (List.mem_of_getElem? (i := 4) rfl)) Ab
        refine own_go (U' := T12.setTop (mkF m 81 #[.val (.ref a), .val (.int (Int32.ofNat n)), .val (.int p2), .val (.int (Int32.ofNat j)), .val (.int x), .val (.int (Int32.ofNat en))] [])) st12 ?_
        refine own_go (U' := T12.setTop (mkF m 82 #[.val (.ref a), .val (.int (Int32.ofNat n)), .val (.int p2), .val (.int (Int32.ofNat j)), .val (.int x), .val (.int (Int32.ofNat en))] [(.ref a)])) (fun t k => XS.aloadN X12.here hx rfl (hb hby drz_81) rfl rfl k) ?_
        obtain ⟨T13, X13, e13, st13⟩ := getF X12 hx hZ hown (host := "") (Or.inl (hw _ (List.mem_of_getElem? (i := 63) rfl))) Via.refl e12 F_latest_a (g := (mkF m 82 #[.val (.ref a), .val (.int (Int32.ofNat n)), .val (.int p2), .val (.int (Int32.ofNat j)), .val (.int x), .val (.int (Int32.ofNat en))] [(.ref a)])) rfl rfl (hb hby drz_82)
        refine own_go (U' := T13.setTop (mkF m 85 #[.val (.ref a), .val (.int (Int32.ofNat n)), .val (.int p2), .val (.int (Int32.ofNat j)), .val (.int x), .val (.int (Int32.ofNat en))] [(.ref la)])) st13 ?_
        refine own_go (U' := T13.setTop (mkF m 86 #[.val (.ref a), .val (.int (Int32.ofNat n)), .val (.int p2), .val (.int (Int32.ofNat j)), .val (.int x), .val (.int (Int32.ofNat en))] [(.int (Int32.ofNat n)), (.ref la)])) (fun t k => XS.iloadN X13.here hx rfl (hb hby drz_85) rfl k) ?_
        refine own_go (U' := T13.setTop (mkF m 88 #[.val (.ref a), .val (.int (Int32.ofNat n)), .val (.int p2), .val (.int (Int32.ofNat j)), .val (.int x), .val (.int (Int32.ofNat en))] [(.int (Int32.ofNat en)), (.int (Int32.ofNat n)), (.ref la)])) (fun t k => XS.iload X13.here hx rfl (hb hby drz_86) rfl k) ?_
        refine own_go (U' := T13.setTop (mkF m 89 #[.val (.ref a), .val (.int (Int32.ofNat n)), .val (.int p2), .val (.int (Int32.ofNat j)), .val (.int x), .val (.int (Int32.ofNat en))] [(.int (1 : Int32)), (.int (Int32.ofNat en)), (.int (Int32.ofNat n)), (.ref la)])) (fun t k => XS.iconst X13.here hx rfl (hb hby drz_88) k) ?_
        refine own_go (U' := T13.setTop (mkF m 90 #[.val (.ref a), .val (.int (Int32.ofNat n)), .val (.int p2), .val (.int (Int32.ofNat j)), .val (.int x), .val (.int (Int32.ofNat en))] [(.int ((Int32.ofNat en) + (1 : Int32))), (.int (Int32.ofNat n)), (.ref la)])) (fun t k => XS.iadd X13.here hx rfl (hb hby drz_89) rfl k) ?_
        rw [← own_succ]
        obtain ⟨T14, h14, X14, e14, W14, A14, st14⟩ := own_iastore X13 hx hZ e13 V_la (j := (Int32.ofNat n)) on.1 (i := n) on.2.1 (by omega) (g := (mkF m 90 #[.val (.ref a), .val (.int (Int32.ofNat n)), .val (.int p2), .val (.int (Int32.ofNat j)), .val (.int x), .val (.int (Int32.ofNat en))] [(.int (Int32.ofNat (en + 1))), (.int (Int32.ofNat n)), (.ref la)])) rfl rfl (hb hby drz_90)
        have K := K.wr W14 (Or.inl (List.mem_of_getElem? (i := 1) rfl))
        have O := O.wr W14 g_la
        have E_a := E_a.wr W14
        have E_nu := E_nu.wr W14
        have F_hashes_nu := F_hashes_nu.other W14 (Or.inl ne_nu_la)
        have V_ha := V_ha.other W14 ne_ha_la
        have V_ra := V_ra.other W14 (Ne.symm ne_la_ra)
        have V_ga := V_ga.other W14 (Ne.symm ne_la_ga)
        have F_latest_a := F_latest_a.other W14 (Or.inl ne_a_la)
        have F_raised_a := F_raised_a.other W14 (Or.inl ne_a_la)
        have F_ages_a := F_ages_a.other W14 (Or.inl ne_a_la)
        have F_numbers_a := F_numbers_a.other W14 (Or.inl ne_a_la)
        have F_entries_a := F_entries_a.other W14 (Or.inl ne_a_la)
        have F_size_a := F_size_a.other W14 (Or.inl ne_a_la)
        have F_sealed_a := F_sealed_a.other W14 (Or.inl ne_a_la)
        have F_present_a := F_present_a.other W14 (Or.inl ne_a_la)
        have F_hash_a := F_hash_a.other W14 (Or.inl ne_a_la)
        have F_table_a := F_table_a.other W14 (Or.inl ne_a_la)
        have F_earlier_a := F_earlier_a.other W14 (Or.inl ne_a_la)
        have F_later_a := F_later_a.other W14 (Or.inl ne_a_la)
        have V_xe := V_xe.other W14 ne_xe_la
        have V_xl := V_xl.other W14 ne_xl_la
        have V_la : own_Ar Z h14 la kl .int ((own_is lt).set n (.int (Int32.ofNat (en + 1)))) := A14
        have N14 := Fr.snoc X14 N12 g_la
        refine own_go (U' := T14.setTop (mkF m 91 #[.val (.ref a), .val (.int (Int32.ofNat n)), .val (.int p2), .val (.int (Int32.ofNat j)), .val (.int x), .val (.int (Int32.ofNat en))] [])) st14 ?_
        refine own_go (U' := T14.setTop (mkF m 101 #[.val (.ref a), .val (.int (Int32.ofNat n)), .val (.int p2), .val (.int (Int32.ofNat j)), .val (.int x), .val (.int (Int32.ofNat en))] [])) (fun t k => XS.goto X14.here hx rfl (pc0 := 91) (pc' := 101) rfl (hb hby drz_91) (by decide) (by decide) k) ?_
        refine own_go (U' := T14.setTop (mkF m 102 #[.val (.ref a), .val (.int (Int32.ofNat n)), .val (.int p2), .val (.int (Int32.ofNat j)), .val (.int x), .val (.int (Int32.ofNat en))] [(.ref a)])) (fun t k => XS.aloadN X14.here hx rfl (hb hby drz_101) rfl rfl k) ?_
        refine own_go (U' := T14.setTop (mkF m 103 #[.val (.ref a), .val (.int (Int32.ofNat n)), .val (.int p2), .val (.int (Int32.ofNat j)), .val (.int x), .val (.int (Int32.ofNat en))] [(.int (Int32.ofNat n)), (.ref a)])) (fun t k => XS.iloadN X14.here hx rfl (hb hby drz_102) rfl k) ?_
        refine own_go (U' := T14.setTop (mkF m 105 #[.val (.ref a), .val (.int (Int32.ofNat n)), .val (.int p2), .val (.int (Int32.ofNat j)), .val (.int x), .val (.int (Int32.ofNat en))] [(.int x), (.int (Int32.ofNat n)), (.ref a)])) (fun t k => XS.iload X14.here hx rfl (hb hby drz_103) rfl k) ?_
        refine own_go (U' := T14.setTop (mkF m 106 #[.val (.ref a), .val (.int (Int32.ofNat n)), .val (.int p2), .val (.int (Int32.ofNat j)), .val (.int x), .val (.int (Int32.ofNat en))] [(.int (-1 : Int32)), (.int x), (.int (Int32.ofNat n)), (.ref a)])) (fun t k => XS.iconst X14.here hx rfl (hb hby drz_105) k) ?_
        obtain ⟨v15, T15, h15, L15, e15, X15, hQ15, st15⟩ := own_callP X14 hx hZ (y := (⟨"com/example/obedient_dog/obedientdog/topologydiscovery/AgeLog", "count", "(III)V"⟩ : MethodName)) hown (hw _ (List.mem_of_getElem? (i := 89) rfl)) (hw _ (List.mem_of_getElem? (i := 90) rfl)) (own_selP (y0 := (⟨"com/example/obedient_dog/obedientdog/topologydiscovery/AgeLog", "raise", "(II)Z"⟩ : MethodName)) (hw _ (List.mem_of_getElem? (i := 74) rfl)) rfl (hw _ (List.mem_of_getElem? (i := 91) rfl)) (hw _ (List.mem_of_getElem? (i := 90) rfl)) (by decide)) (hw _ (List.mem_of_getElem? (i := 91) rfl)) (hw _ (List.mem_of_getElem? (i := 2) rfl)) (hw _ (List.mem_of_getElem? (i := 92) rfl)) (by decide) E_a (own_rmct l Z a0 hw a (Int32.ofNat n) x (-1) h14 n0 g_a la ra ga nu ha kh _ _ _ _ _ _ _ _ htb (by rfl) (by rfl) n (by omega) rfl ⟨E_a, F_latest_a, F_raised_a, F_ages_a, F_numbers_a, F_entries_a, F_size_a, F_sealed_a, F_present_a, F_hash_a, F_table_a, F_earlier_a, F_later_a⟩ E_nu F_hashes_nu V_ha) (W := 0) (by decide) (by decide) (g := (mkF m 106 #[.val (.ref a), .val (.int (Int32.ofNat n)), .val (.int p2), .val (.int (Int32.ofNat j)), .val (.int x), .val (.int (Int32.ofNat en))] [(.int (-1 : Int32)), (.int x), (.int (Int32.ofNat n)), (.ref a)])) rfl (by rw [hml]; rfl) (argsL := [(.int (Int32.ofNat n)), (.int x), (.int (-1 : Int32))]) (rest := []) (lenOf own_pd1 rfl) rfl rfl (by show 2 * 0 + _ ≤ _; exact Nat.le_of_eq rfl) (hb hby drz_106) e14 (by decide) (by decide)
        obtain ⟨rfl, Nq, Kq, pr0, hs0, F_a⟩ := hQ15
        have K := K.trans Kq (allS (Or.inl (List.mem_of_getElem? (i := 0) rfl)) all0)
        have O := O.keep Kq (allS g_a all0)
        have E_a := E_a.keep Kq
        have E_nu := E_nu.keep Kq
        have F_hashes_nu := F_hashes_nu.keep Kq (ninS (Ne.symm ne_a_nu) nin0)
        have V_ha := V_ha.keep Kq (ninS (Ne.symm ne_a_ha) nin0)
        have V_la := V_la.keep Kq (ninS (Ne.symm ne_a_la) nin0)
        have V_ra := V_ra.keep Kq (ninS (Ne.symm ne_a_ra) nin0)
        have V_ga := V_ga.keep Kq (ninS (Ne.symm ne_a_ga) nin0)
        have V_xe := V_xe.keep Kq (ninS (Ne.symm ne_a_xe) nin0)
        have V_xl := V_xl.keep Kq (ninS (Ne.symm ne_a_xl) nin0)
        obtain ⟨E_a, F_latest_a, F_raised_a, F_ages_a, F_numbers_a, F_entries_a, F_size_a, F_sealed_a, F_present_a, F_hash_a, F_table_a, F_earlier_a, F_later_a⟩ := F_a
        have N15 := Fr.app N14 Nq
        refine own_go (U' := T15.setTop (mkF m 109 #[.val (.ref a), .val (.int (Int32.ofNat n)), .val (.int p2), .val (.int (Int32.ofNat j)), .val (.int x), .val (.int (Int32.ofNat en))] [])) st15 ?_
        refine own_go (U' := T15.setTop (mkF m 110 #[.val (.ref a), .val (.int (Int32.ofNat n)), .val (.int p2), .val (.int (Int32.ofNat j)), .val (.int x), .val (.int (Int32.ofNat en))] [(.ref a)])) (fun t k => XS.aloadN X15.here hx rfl (hb hby drz_109) rfl rfl k) ?_
        refine own_go (U' := T15.setTop (mkF m 111 #[.val (.ref a), .val (.int (Int32.ofNat n)), .val (.int p2), .val (.int (Int32.ofNat j)), .val (.int x), .val (.int (Int32.ofNat en))] [(.int (Int32.ofNat n)), (.ref a)])) (fun t k => XS.iloadN X15.here hx rfl (hb hby drz_110) rfl k) ?_
        refine own_go (U' := T15.setTop (mkF m 112 #[.val (.ref a), .val (.int (Int32.ofNat n)), .val (.int p2), .val (.int (Int32.ofNat j)), .val (.int x), .val (.int (Int32.ofNat en))] [(.int p2), (.int (Int32.ofNat n)), (.ref a)])) (fun t k => XS.iloadN X15.here hx rfl (hb hby drz_111) rfl k) ?_
        refine own_go (U' := T15.setTop (mkF m 113 #[.val (.ref a), .val (.int (Int32.ofNat n)), .val (.int p2), .val (.int (Int32.ofNat j)), .val (.int x), .val (.int (Int32.ofNat en))] [(.int (1 : Int32)), (.int p2), (.int (Int32.ofNat n)), (.ref a)])) (fun t k => XS.iconst X15.here hx rfl (hb hby drz_112) k) ?_
        obtain ⟨v16, T16, h16, L16, e16, X16, hQ16, st16⟩ := own_callP X15 hx hZ (y := (⟨"com/example/obedient_dog/obedientdog/topologydiscovery/AgeLog", "count", "(III)V"⟩ : MethodName)) hown (hw _ (List.mem_of_getElem? (i := 89) rfl)) (hw _ (List.mem_of_getElem? (i := 90) rfl)) (own_selP (y0 := (⟨"com/example/obedient_dog/obedientdog/topologydiscovery/AgeLog", "raise", "(II)Z"⟩ : MethodName)) (hw _ (List.mem_of_getElem? (i := 74) rfl)) rfl (hw _ (List.mem_of_getElem? (i := 91) rfl)) (hw _ (List.mem_of_getElem? (i := 90) rfl)) (by decide)) (hw _ (List.mem_of_getElem? (i := 91) rfl)) (hw _ (List.mem_of_getElem? (i := 2) rfl)) (hw _ (List.mem_of_getElem? (i := 92) rfl)) (by decide) E_a (own_rmct l Z a0 hw a (Int32.ofNat n) p2 1 h15 n0 g_a la ra ga nu ha kh _ _ _ _ _ _ _ _ htb (by rfl) (by rfl) n (by omega) rfl ⟨E_a, F_latest_a, F_raised_a, F_ages_a, F_numbers_a, F_entries_a, F_size_a, F_sealed_a, F_present_a, F_hash_a, F_table_a, F_earlier_a, F_later_a⟩ E_nu F_hashes_nu V_ha) (W := 0) (by decide) (by decide) (g := (mkF m 113 #[.val (.ref a), .val (.int (Int32.ofNat n)), .val (.int p2), .val (.int (Int32.ofNat j)), .val (.int x), .val (.int (Int32.ofNat en))] [(.int (1 : Int32)), (.int p2), (.int (Int32.ofNat n)), (.ref a)])) rfl (by rw [hml]; rfl) (argsL := [(.int (Int32.ofNat n)), (.int p2), (.int (1 : Int32))]) (rest := []) (lenOf own_pd1 rfl) rfl rfl (by show 2 * 0 + _ ≤ _; exact Nat.le_of_eq rfl) (hb hby drz_113) e15 (by decide) (by decide)
        obtain ⟨rfl, Nq, Kq, pr1, hs1, F_a⟩ := hQ16
        have K := K.trans Kq (allS (Or.inl (List.mem_of_getElem? (i := 0) rfl)) all0)
        have O := O.keep Kq (allS g_a all0)
        have E_a := E_a.keep Kq
        have E_nu := E_nu.keep Kq
        have F_hashes_nu := F_hashes_nu.keep Kq (ninS (Ne.symm ne_a_nu) nin0)
        have V_ha := V_ha.keep Kq (ninS (Ne.symm ne_a_ha) nin0)
        have V_la := V_la.keep Kq (ninS (Ne.symm ne_a_la) nin0)
        have V_ra := V_ra.keep Kq (ninS (Ne.symm ne_a_ra) nin0)
        have V_ga := V_ga.keep Kq (ninS (Ne.symm ne_a_ga) nin0)
        have V_xe := V_xe.keep Kq (ninS (Ne.symm ne_a_xe) nin0)
        have V_xl := V_xl.keep Kq (ninS (Ne.symm ne_a_xl) nin0)
        obtain ⟨E_a, F_latest_a, F_raised_a, F_ages_a, F_numbers_a, F_entries_a, F_size_a, F_sealed_a, F_present_a, F_hash_a, F_table_a, F_earlier_a, F_later_a⟩ := F_a
        have N16 := Fr.app N15 Nq
        refine own_go (U' := T16.setTop (mkF m 116 #[.val (.ref a), .val (.int (Int32.ofNat n)), .val (.int p2), .val (.int (Int32.ofNat j)), .val (.int x), .val (.int (Int32.ofNat en))] [])) st16 ?_
        refine own_go (U' := T16.setTop (mkF m 117 #[.val (.ref a), .val (.int (Int32.ofNat n)), .val (.int p2), .val (.int (Int32.ofNat j)), .val (.int x), .val (.int (Int32.ofNat en))] [(.ref a)])) (fun t k => XS.aloadN X16.here hx rfl (hb hby drz_116) rfl rfl k) ?_
        refine own_go (U' := T16.setTop (mkF m 118 #[.val (.ref a), .val (.int (Int32.ofNat n)), .val (.int p2), .val (.int (Int32.ofNat j)), .val (.int x), .val (.int (Int32.ofNat en))] [.null, (.ref a)])) (fun t k => XS.aconstNull X16.here hx rfl (hb hby drz_117) k) ?_
        obtain ⟨T17, h17, X17, e17, W17, st17⟩ := putF X16 hx hZ hown (host := "") (Or.inl (hw _ (List.mem_of_getElem? (i := 102) rfl))) Via.refl e16 F_table_a E_a (Or.inl (hw _ (List.mem_of_getElem? (i := 103) rfl))) (hw _ (List.mem_of_getElem? (i := 1) rfl)) (ty := (.object "com/example/obedient_dog/obedientdog/topologydiscovery/AgeTable")) (by decide) rfl rfl (g := (mkF m 118 #[.val (.ref a), .val (.int (Int32.ofNat n)), .val (.int p2), .val (.int (Int32.ofNat j)), .val (.int x), .val (.int (Int32.ofNat en))] [.null, (.ref a)])) rfl rfl (hb hby drz_118)
        have K := K.wr W17 (Or.inl (List.mem_of_getElem? (i := 0) rfl))
        have O := O.wr W17 g_a
        have E_a := E_a.wr W17
        have E_nu := E_nu.wr W17
        have F_hashes_nu := F_hashes_nu.other W17 (Or.inl (Ne.symm ne_a_nu))
        have V_ha := V_ha.other W17 (Ne.symm ne_a_ha)
        have V_la := V_la.other W17 (Ne.symm ne_a_la)
        have V_ra := V_ra.other W17 (Ne.symm ne_a_ra)
        have V_ga := V_ga.other W17 (Ne.symm ne_a_ga)
        have V_xe := V_xe.other W17 (Ne.symm ne_a_xe)
        have V_xl := V_xl.other W17 (Ne.symm ne_a_xl)
        have F_latest_a := F_latest_a.other W17 (Or.inr (slot_ne (Or.inl (hw _ (List.mem_of_getElem? (i := 64) rfl))) (Or.inl (hw _ (List.mem_of_getElem? (i := 103) rfl))) (by decide) (t := (.array .int)) (t' := (.object "com/example/obedient_dog/obedientdog/topologydiscovery/AgeTable")) (by decide) (by decide)))
        have F_raised_a := F_raised_a.other W17 (Or.inr (slot_ne (Or.inl (hw _ (List.mem_of_getElem? (i := 66) rfl))) (Or.inl (hw _ (List.mem_of_getElem? (i := 103) rfl))) (by decide) (t := (.array .int)) (t' := (.object "com/example/obedient_dog/obedientdog/topologydiscovery/AgeTable")) (by decide) (by decide)))
        have F_ages_a := F_ages_a.other W17 (Or.inr (slot_ne (Or.inl (hw _ (List.mem_of_getElem? (i := 68) rfl))) (Or.inl (hw _ (List.mem_of_getElem? (i := 103) rfl))) (by decide) (t := (.array .int)) (t' := (.object "com/example/obedient_dog/obedientdog/topologydiscovery/AgeTable")) (by decide) (by decide)))
        have F_numbers_a := F_numbers_a.other W17 (Or.inr (slot_ne (Or.inr (hw _ (List.mem_of_getElem? (i := 70) rfl))) (Or.inl (hw _ (List.mem_of_getElem? (i := 103) rfl))) (by decide) (t := (.object "com/example/obedient_dog/obedientdog/topologydiscovery/LinkNumbers")) (t' := (.object "com/example/obedient_dog/obedientdog/topologydiscovery/AgeTable")) (by decide) (by decide)))
        have F_entries_a := F_entries_a.other W17 (Or.inr (slot_ne (Or.inl (hw _ (List.mem_of_getElem? (i := 86) rfl))) (Or.inl (hw _ (List.mem_of_getElem? (i := 103) rfl))) (by decide) (t := .int) (t' := (.object "com/example/obedient_dog/obedientdog/topologydiscovery/AgeTable")) (by decide) (by decide)))
        have F_size_a := F_size_a.other W17 (Or.inr (slot_ne (Or.inl (hw _ (List.mem_of_getElem? (i := 88) rfl))) (Or.inl (hw _ (List.mem_of_getElem? (i := 103) rfl))) (by decide) (t := .int) (t' := (.object "com/example/obedient_dog/obedientdog/topologydiscovery/AgeTable")) (by decide) (by decide)))
        have F_sealed_a := F_sealed_a.other W17 (Or.inr (slot_ne (Or.inl (hw _ (List.mem_of_getElem? (i := 110) rfl))) (Or.inl (hw _ (List.mem_of_getElem? (i := 103) rfl))) (by decide) (t := .int) (t' := (.object "com/example/obedient_dog/obedientdog/topologydiscovery/AgeTable")) (by decide) (by decide)))
        have F_present_a := F_present_a.other W17 (Or.inr (slot_ne (Or.inl (hw _ (List.mem_of_getElem? (i := 94) rfl))) (Or.inl (hw _ (List.mem_of_getElem? (i := 103) rfl))) (by decide) (t := .int) (t' := (.object "com/example/obedient_dog/obedientdog/topologydiscovery/AgeTable")) (by decide) (by decide)))
        have F_hash_a := F_hash_a.other W17 (Or.inr (slot_ne (Or.inl (hw _ (List.mem_of_getElem? (i := 96) rfl))) (Or.inl (hw _ (List.mem_of_getElem? (i := 103) rfl))) (by decide) (t := .int) (t' := (.object "com/example/obedient_dog/obedientdog/topologydiscovery/AgeTable")) (by decide) (by decide)))
        have F_earlier_a := F_earlier_a.other W17 (Or.inr (slot_ne (Or.inl (hw _ (List.mem_of_getElem? (i := 138) rfl))) (Or.inl (hw _ (List.mem_of_getElem? (i := 103) rfl))) (by decide) (t := (.array .int)) (t' := (.object "com/example/obedient_dog/obedientdog/topologydiscovery/AgeTable")) (by decide) (by decide)))
        have F_later_a := F_later_a.other W17 (Or.inr (slot_ne (Or.inl (hw _ (List.mem_of_getElem? (i := 140) rfl))) (Or.inl (hw _ (List.mem_of_getElem? (i := 103) rfl))) (by decide) (t := (.array .int)) (t' := (.object "com/example/obedient_dog/obedientdog/topologydiscovery/AgeTable")) (by decide) (by decide)))
        have F_table_a := F_table_a.same W17
        have N17 := Fr.snoc X17 N16 g_a
        refine own_go (U' := T17.setTop (mkF m 121 #[.val (.ref a), .val (.int (Int32.ofNat n)), .val (.int p2), .val (.int (Int32.ofNat j)), .val (.int x), .val (.int (Int32.ofNat en))] [])) st17 ?_
        refine own_go (U' := T17.setTop (mkF m 122 #[.val (.ref a), .val (.int (Int32.ofNat n)), .val (.int p2), .val (.int (Int32.ofNat j)), .val (.int x), .val (.int (Int32.ofNat en))] [(.int (1 : Int32))])) (fun t k => XS.iconst X17.here hx rfl (hb hby drz_121) k) ?_
        refine own_retN X17 hx (t := .boolean) hret (by simp) hlk (hb hby drz_122) ?_ (by decide) (by decide)
        rw [e17]
        have hr : own_raise (lt, rs, en, none) se n = (lt.set n (en + 1), rs.set en n, en + 1, some (own_chain (none) j en)) := by rw [own_raise, if_neg (by dsimp only; omega), if_pos (by dsimp only; omega)]; dsimp only; rw [hv]; rfl
        rw [hr] at hir ⊢
        rw [own_is_set] at V_la V_ra
        rw [← List.map_set] at V_ga
        exact ⟨rfl, N17, K, _, _, (fun y hy => by simp only [List.mem_cons, List.not_mem_nil, or_false] at hy; rcases hy with rfl | rfl; exact Or.inr sz_xe; exact Or.inr sz_xl), own_ag_set hag, ⟨_, _, _, _, _, ⟨E_a, F_latest_a, F_raised_a, F_ages_a, F_numbers_a, F_entries_a, F_size_a, F_sealed_a, F_present_a, F_hash_a, F_table_a, F_earlier_a, F_later_a⟩, V_la, V_ra, V_ga, (by simpa using hgl), E_nu, F_hashes_nu, V_ha, hir, ⟨_, _, _, _, rfl, rfl, rfl, V_xe, V_xl, g_xe, g_xl, ne_xe_xl⟩, rfl, ⟨ne_la_ra, ne_la_ga, ne_ra_ga, ne_ha_la, ne_ha_ra, ne_ha_ga⟩, ⟨g_a, g_la, g_ra, g_ga⟩, (fun y hy => by simp only [List.mem_cons, List.not_mem_nil, or_false] at hy; rcases hy with rfl | rfl; exact ⟨ne_xe_la, ne_xe_ra, ne_xe_ga, ne_xe_ha⟩; exact ⟨ne_xl_la, ne_xl_ra, ne_xl_ga, ne_xl_ha⟩)⟩⟩
      · refine own_go (U' := T10.setTop (mkF m 94 #[.val (.ref a), .val (.int (Int32.ofNat n)), .val (.int p2), .val (.int (Int32.ofNat j)), .val (.int x), .unset] [])) (fun t k => XS.icmpYes X10.here hx rfl (pc0 := 63) (pc' := 94) rfl (hb hby drz_63) rfl (flt hjs).2.1 (by decide) (by decide) k) ?_
        have hjs : ¬ j < se := fun q => hjs ((own_lt (by omega) (by omega)).mpr q)
        refine own_go (U' := T10.setTop (mkF m 95 #[.val (.ref a), .val (.int (Int32.ofNat n)), .val (.int p2), .val (.int (Int32.ofNat j)), .val (.int x), .unset] [(.ref a)])) (fun t k => XS.aloadN X10.here hx rfl (hb hby drz_94) rfl rfl k) ?_
        obtain ⟨T18, X18, e18, st18⟩ := getF X10 hx hZ hown (host := "") (Or.inl (hw _ (List.mem_of_getElem? (i := 67) rfl))) Via.refl e10 F_ages_a (g := (mkF m 95 #[.val (.ref a), .val (.int (Int32.ofNat n)), .val (.int p2), .val (.int (Int32.ofNat j)), .val (.int x), .unset] [(.ref a)])) rfl rfl (hb hby drz_95)
        refine own_go (U' := T18.setTop (mkF m 98 #[.val (.ref a), .val (.int (Int32.ofNat n)), .val (.int p2), .val (.int (Int32.ofNat j)), .val (.int x), .unset] [(.ref ga)])) st18 ?_
        refine own_go (U' := T18.setTop (mkF m 99 #[.val (.ref a), .val (.int (Int32.ofNat n)), .val (.int p2), .val (.int (Int32.ofNat j)), .val (.int x), .unset] [(.int (Int32.ofNat j)), (.ref ga)])) (fun t k => XS.iloadN X18.here hx rfl (hb hby drz_98) rfl k) ?_
        refine own_go (U' := T18.setTop (mkF m 100 #[.val (.ref a), .val (.int (Int32.ofNat n)), .val (.int p2), .val (.int (Int32.ofNat j)), .val (.int x), .unset] [(.int p2), (.int (Int32.ofNat j)), (.ref ga)])) (fun t k => XS.iloadN X18.here hx rfl (hb hby drz_99) rfl k) ?_
        obtain ⟨T19, h19, X19, e19, W19, A19, st19⟩ := own_iastore X18 hx hZ e18 V_ga (j := (Int32.ofNat j)) oj.1 (i := j) oj.2.1 (by rw [h_ga]; omega) (g := (mkF m 100 #[.val (.ref a), .val (.int (Int32.ofNat n)), .val (.int p2), .val (.int (Int32.ofNat j)), .val (.int x), .unset] [(.int p2), (.int (Int32.ofNat j)), (.ref ga)])) rfl rfl (hb hby drz_100)
        have K := K.wr W19 (Or.inl (List.mem_of_getElem? (i := 3) rfl))
        have O := O.wr W19 g_ga
        have E_a := E_a.wr W19
        have F_latest_a := F_latest_a.other W19 (Or.inl ne_a_ga)
        have F_raised_a := F_raised_a.other W19 (Or.inl ne_a_ga)
        have F_ages_a := F_ages_a.other W19 (Or.inl ne_a_ga)
        have F_numbers_a := F_numbers_a.other W19 (Or.inl ne_a_ga)
        have F_entries_a := F_entries_a.other W19 (Or.inl ne_a_ga)
        have F_size_a := F_size_a.other W19 (Or.inl ne_a_ga)
        have F_sealed_a := F_sealed_a.other W19 (Or.inl ne_a_ga)
        have F_present_a := F_present_a.other W19 (Or.inl ne_a_ga)
        have F_hash_a := F_hash_a.other W19 (Or.inl ne_a_ga)
        have F_table_a := F_table_a.other W19 (Or.inl ne_a_ga)
        have F_earlier_a := F_earlier_a.other W19 (Or.inl ne_a_ga)
        have F_later_a := F_later_a.other W19 (Or.inl ne_a_ga)
        have E_nu := E_nu.wr W19
        have F_hashes_nu := F_hashes_nu.other W19 (Or.inl ne_nu_ga)
        have V_ha := V_ha.other W19 ne_ha_ga
        have V_la := V_la.other W19 ne_la_ga
        have V_ra := V_ra.other W19 ne_ra_ga
        have V_ga : own_Ar Z h19 ga kg .int ((ag.map Value.int).set j (.int p2)) := A19
        have N19 := Fr.snoc X19 N0 g_ga
        refine own_go (U' := T19.setTop (mkF m 101 #[.val (.ref a), .val (.int (Int32.ofNat n)), .val (.int p2), .val (.int (Int32.ofNat j)), .val (.int x), .unset] [])) st19 ?_
        refine own_go (U' := T19.setTop (mkF m 102 #[.val (.ref a), .val (.int (Int32.ofNat n)), .val (.int p2), .val (.int (Int32.ofNat j)), .val (.int x), .unset] [(.ref a)])) (fun t k => XS.aloadN X19.here hx rfl (hb hby drz_101) rfl rfl k) ?_
        refine own_go (U' := T19.setTop (mkF m 103 #[.val (.ref a), .val (.int (Int32.ofNat n)), .val (.int p2), .val (.int (Int32.ofNat j)), .val (.int x), .unset] [(.int (Int32.ofNat n)), (.ref a)])) (fun t k => XS.iloadN X19.here hx rfl (hb hby drz_102) rfl k) ?_
        refine own_go (U' := T19.setTop (mkF m 105 #[.val (.ref a), .val (.int (Int32.ofNat n)), .val (.int p2), .val (.int (Int32.ofNat j)), .val (.int x), .unset] [(.int x), (.int (Int32.ofNat n)), (.ref a)])) (fun t k => XS.iload X19.here hx rfl (hb hby drz_103) rfl k) ?_
        refine own_go (U' := T19.setTop (mkF m 106 #[.val (.ref a), .val (.int (Int32.ofNat n)), .val (.int p2), .val (.int (Int32.ofNat j)), .val (.int x), .unset] [(.int (-1 : Int32)), (.int x), (.int (Int32.ofNat n)), (.ref a)])) (fun t k => XS.iconst X19.here hx rfl (hb hby drz_105) k) ?_
        obtain ⟨v20, T20, h20, L20, e20, X20, hQ20, st20⟩ := own_callP X19 hx hZ (y := (⟨"com/example/obedient_dog/obedientdog/topologydiscovery/AgeLog", "count", "(III)V"⟩ : MethodName)) hown (hw _ (List.mem_of_getElem? (i := 89) rfl)) (hw _ (List.mem_of_getElem? (i := 90) rfl)) (own_selP (y0 := (⟨"com/example/obedient_dog/obedientdog/topologydiscovery/AgeLog", "raise", "(II)Z"⟩ : MethodName)) (hw _ (List.mem_of_getElem? (i := 74) rfl)) rfl (hw _ (List.mem_of_getElem? (i := 91) rfl)) (hw _ (List.mem_of_getElem? (i := 90) rfl)) (by decide)) (hw _ (List.mem_of_getElem? (i := 91) rfl)) (hw _ (List.mem_of_getElem? (i := 2) rfl)) (hw _ (List.mem_of_getElem? (i := 92) rfl)) (by decide) E_a (own_rmct l Z a0 hw a (Int32.ofNat n) x (-1) h19 n0 g_a la ra ga nu ha kh _ _ _ _ _ _ _ _ htb (by rfl) (by rfl) n (by omega) rfl ⟨E_a, F_latest_a, F_raised_a, F_ages_a, F_numbers_a, F_entries_a, F_size_a, F_sealed_a, F_present_a, F_hash_a, F_table_a, F_earlier_a, F_later_a⟩ E_nu F_hashes_nu V_ha) (W := 0) (by decide) (by decide) (g := (mkF m 106 #[.val (.ref a), .val (.int (Int32.ofNat n)), .val (.int p2), .val (.int (Int32.ofNat j)), .val (.int x), .unset] [(.int (-1 : Int32)), (.int x), (.int (Int32.ofNat n)), (.ref a)])) rfl (by rw [hml]; rfl) (argsL := [(.int (Int32.ofNat n)), (.int x), (.int (-1 : Int32))]) (rest := []) (lenOf own_pd1 rfl) rfl rfl (by show 2 * 0 + _ ≤ _; exact Nat.le_of_eq rfl) (hb hby drz_106) e19 (by decide) (by decide)
        obtain ⟨rfl, Nq, Kq, pr0, hs0, F_a⟩ := hQ20
        have K := K.trans Kq (allS (Or.inl (List.mem_of_getElem? (i := 0) rfl)) all0)
        have O := O.keep Kq (allS g_a all0)
        have E_a := E_a.keep Kq
        have E_nu := E_nu.keep Kq
        have F_hashes_nu := F_hashes_nu.keep Kq (ninS (Ne.symm ne_a_nu) nin0)
        have V_ha := V_ha.keep Kq (ninS (Ne.symm ne_a_ha) nin0)
        have V_la := V_la.keep Kq (ninS (Ne.symm ne_a_la) nin0)
        have V_ra := V_ra.keep Kq (ninS (Ne.symm ne_a_ra) nin0)
        have V_ga := V_ga.keep Kq (ninS (Ne.symm ne_a_ga) nin0)
        obtain ⟨E_a, F_latest_a, F_raised_a, F_ages_a, F_numbers_a, F_entries_a, F_size_a, F_sealed_a, F_present_a, F_hash_a, F_table_a, F_earlier_a, F_later_a⟩ := F_a
        have N20 := Fr.app N19 Nq
        refine own_go (U' := T20.setTop (mkF m 109 #[.val (.ref a), .val (.int (Int32.ofNat n)), .val (.int p2), .val (.int (Int32.ofNat j)), .val (.int x), .unset] [])) st20 ?_
        refine own_go (U' := T20.setTop (mkF m 110 #[.val (.ref a), .val (.int (Int32.ofNat n)), .val (.int p2), .val (.int (Int32.ofNat j)), .val (.int x), .unset] [(.ref a)])) (fun t k => XS.aloadN X20.here hx rfl (hb hby drz_109) rfl rfl k) ?_
        refine own_go (U' := T20.setTop (mkF m 111 #[.val (.ref a), .val (.int (Int32.ofNat n)), .val (.int p2), .val (.int (Int32.ofNat j)), .val (.int x), .unset] [(.int (Int32.ofNat n)), (.ref a)])) (fun t k => XS.iloadN X20.here hx rfl (hb hby drz_110) rfl k) ?_
        refine own_go (U' := T20.setTop (mkF m 112 #[.val (.ref a), .val (.int (Int32.ofNat n)), .val (.int p2), .val (.int (Int32.ofNat j)), .val (.int x), .unset] [(.int p2), (.int (Int32.ofNat n)), (.ref a)])) (fun t k => XS.iloadN X20.here hx rfl (hb hby drz_111) rfl k) ?_
        refine own_go (U' := T20.setTop (mkF m 113 #[.val (.ref a), .val (.int (Int32.ofNat n)), .val (.int p2), .val (.int (Int32.ofNat j)), .val (.int x), .unset] [(.int (1 : Int32)), (.int p2), (.int (Int32.ofNat n)), (.ref a)])) (fun t k => XS.iconst X20.here hx rfl (hb hby drz_112) k) ?_
        obtain ⟨v21, T21, h21, L21, e21, X21, hQ21, st21⟩ := own_callP X20 hx hZ (y := (⟨"com/example/obedient_dog/obedientdog/topologydiscovery/AgeLog", "count", "(III)V"⟩ : MethodName)) hown (hw _ (List.mem_of_getElem? (i := 89) rfl)) (hw _ (List.mem_of_getElem? (i := 90) rfl)) (own_selP (y0 := (⟨"com/example/obedient_dog/obedientdog/topologydiscovery/AgeLog", "raise", "(II)Z"⟩ : MethodName)) (hw _ (List.mem_of_getElem? (i := 74) rfl)) rfl (hw _ (List.mem_of_getElem? (i := 91) rfl)) (hw _ (List.mem_of_getElem? (i := 90) rfl)) (by decide)) (hw _ (List.mem_of_getElem? (i := 91) rfl)) (hw _ (List.mem_of_getElem? (i := 2) rfl)) (hw _ (List.mem_of_getElem? (i := 92) rfl)) (by decide) E_a (own_rmct l Z a0 hw a (Int32.ofNat n) p2 1 h20 n0 g_a la ra ga nu ha kh _ _ _ _ _ _ _ _ htb (by rfl) (by rfl) n (by omega) rfl ⟨E_a, F_latest_a, F_raised_a, F_ages_a, F_numbers_a, F_entries_a, F_size_a, F_sealed_a, F_present_a, F_hash_a, F_table_a, F_earlier_a, F_later_a⟩ E_nu F_hashes_nu V_ha) (W := 0) (by decide) (by decide) (g := (mkF m 113 #[.val (.ref a), .val (.int (Int32.ofNat n)), .val (.int p2), .val (.int (Int32.ofNat j)), .val (.int x), .unset] [(.int (1 : Int32)), (.int p2), (.int (Int32.ofNat n)), (.ref a)])) rfl (by rw [hml]; rfl) (argsL := [(.int (Int32.ofNat n)), (.int p2), (.int (1 : Int32))]) (rest := []) (lenOf own_pd1 rfl) rfl rfl (by show 2 * 0 + _ ≤ _; exact Nat.le_of_eq rfl) (hb hby drz_113) e20 (by decide) (by decide)
        obtain ⟨rfl, Nq, Kq, pr1, hs1, F_a⟩ := hQ21
        have K := K.trans Kq (allS (Or.inl (List.mem_of_getElem? (i := 0) rfl)) all0)
        have O := O.keep Kq (allS g_a all0)
        have E_a := E_a.keep Kq
        have E_nu := E_nu.keep Kq
        have F_hashes_nu := F_hashes_nu.keep Kq (ninS (Ne.symm ne_a_nu) nin0)
        have V_ha := V_ha.keep Kq (ninS (Ne.symm ne_a_ha) nin0)
        have V_la := V_la.keep Kq (ninS (Ne.symm ne_a_la) nin0)
        have V_ra := V_ra.keep Kq (ninS (Ne.symm ne_a_ra) nin0)
        have V_ga := V_ga.keep Kq (ninS (Ne.symm ne_a_ga) nin0)
        obtain ⟨E_a, F_latest_a, F_raised_a, F_ages_a, F_numbers_a, F_entries_a, F_size_a, F_sealed_a, F_present_a, F_hash_a, F_table_a, F_earlier_a, F_later_a⟩ := F_a
        have N21 := Fr.app N20 Nq
        refine own_go (U' := T21.setTop (mkF m 116 #[.val (.ref a), .val (.int (Int32.ofNat n)), .val (.int p2), .val (.int (Int32.ofNat j)), .val (.int x), .unset] [])) st21 ?_
        refine own_go (U' := T21.setTop (mkF m 117 #[.val (.ref a), .val (.int (Int32.ofNat n)), .val (.int p2), .val (.int (Int32.ofNat j)), .val (.int x), .unset] [(.ref a)])) (fun t k => XS.aloadN X21.here hx rfl (hb hby drz_116) rfl rfl k) ?_
        refine own_go (U' := T21.setTop (mkF m 118 #[.val (.ref a), .val (.int (Int32.ofNat n)), .val (.int p2), .val (.int (Int32.ofNat j)), .val (.int x), .unset] [.null, (.ref a)])) (fun t k => XS.aconstNull X21.here hx rfl (hb hby drz_117) k) ?_
        obtain ⟨T22, h22, X22, e22, W22, st22⟩ := putF X21 hx hZ hown (host := "") (Or.inl (hw _ (List.mem_of_getElem? (i := 102) rfl))) Via.refl e21 F_table_a E_a (Or.inl (hw _ (List.mem_of_getElem? (i := 103) rfl))) (hw _ (List.mem_of_getElem? (i := 1) rfl)) (ty := (.object "com/example/obedient_dog/obedientdog/topologydiscovery/AgeTable")) (by decide) rfl rfl (g := (mkF m 118 #[.val (.ref a), .val (.int (Int32.ofNat n)), .val (.int p2), .val (.int (Int32.ofNat j)), .val (.int x), .unset] [.null, (.ref a)])) rfl rfl (hb hby drz_118)
        have K := K.wr W22 (Or.inl (List.mem_of_getElem? (i := 0) rfl))
        have O := O.wr W22 g_a
        have E_a := E_a.wr W22
        have E_nu := E_nu.wr W22
        have F_hashes_nu := F_hashes_nu.other W22 (Or.inl (Ne.symm ne_a_nu))
        have V_ha := V_ha.other W22 (Ne.symm ne_a_ha)
        have V_la := V_la.other W22 (Ne.symm ne_a_la)
        have V_ra := V_ra.other W22 (Ne.symm ne_a_ra)
        have V_ga := V_ga.other W22 (Ne.symm ne_a_ga)
        have F_latest_a := F_latest_a.other W22 (Or.inr (slot_ne (Or.inl (hw _ (List.mem_of_getElem? (i := 64) rfl))) (Or.inl (hw _ (List.mem_of_getElem? (i := 103) rfl))) (by decide) (t := (.array .int)) (t' := (.object "com/example/obedient_dog/obedientdog/topologydiscovery/AgeTable")) (by decide) (by decide)))
        have F_raised_a := F_raised_a.other W22 (Or.inr (slot_ne (Or.inl (hw _ (List.mem_of_getElem? (i := 66) rfl))) (Or.inl (hw _ (List.mem_of_getElem? (i := 103) rfl))) (by decide) (t := (.array .int)) (t' := (.object "com/example/obedient_dog/obedientdog/topologydiscovery/AgeTable")) (by decide) (by decide)))
        have F_ages_a := F_ages_a.other W22 (Or.inr (slot_ne (Or.inl (hw _ (List.mem_of_getElem? (i := 68) rfl))) (Or.inl (hw _ (List.mem_of_getElem? (i := 103) rfl))) (by decide) (t := (.array .int)) (t' := (.object "com/example/obedient_dog/obedientdog/topologydiscovery/AgeTable")) (by decide) (by decide)))
        have F_numbers_a := F_numbers_a.other W22 (Or.inr (slot_ne (Or.inr (hw _ (List.mem_of_getElem? (i := 70) rfl))) (Or.inl (hw _ (List.mem_of_getElem? (i := 103) rfl))) (by decide) (t := (.object "com/example/obedient_dog/obedientdog/topologydiscovery/LinkNumbers")) (t' := (.object "com/example/obedient_dog/obedientdog/topologydiscovery/AgeTable")) (by decide) (by decide)))
        have F_entries_a := F_entries_a.other W22 (Or.inr (slot_ne (Or.inl (hw _ (List.mem_of_getElem? (i := 86) rfl))) (Or.inl (hw _ (List.mem_of_getElem? (i := 103) rfl))) (by decide) (t := .int) (t' := (.object "com/example/obedient_dog/obedientdog/topologydiscovery/AgeTable")) (by decide) (by decide)))
        have F_size_a := F_size_a.other W22 (Or.inr (slot_ne (Or.inl (hw _ (List.mem_of_getElem? (i := 88) rfl))) (Or.inl (hw _ (List.mem_of_getElem? (i := 103) rfl))) (by decide) (t := .int) (t' := (.object "com/example/obedient_dog/obedientdog/topologydiscovery/AgeTable")) (by decide) (by decide)))
        have F_sealed_a := F_sealed_a.other W22 (Or.inr (slot_ne (Or.inl (hw _ (List.mem_of_getElem? (i := 110) rfl))) (Or.inl (hw _ (List.mem_of_getElem? (i := 103) rfl))) (by decide) (t := .int) (t' := (.object "com/example/obedient_dog/obedientdog/topologydiscovery/AgeTable")) (by decide) (by decide)))
        have F_present_a := F_present_a.other W22 (Or.inr (slot_ne (Or.inl (hw _ (List.mem_of_getElem? (i := 94) rfl))) (Or.inl (hw _ (List.mem_of_getElem? (i := 103) rfl))) (by decide) (t := .int) (t' := (.object "com/example/obedient_dog/obedientdog/topologydiscovery/AgeTable")) (by decide) (by decide)))
        have F_hash_a := F_hash_a.other W22 (Or.inr (slot_ne (Or.inl (hw _ (List.mem_of_getElem? (i := 96) rfl))) (Or.inl (hw _ (List.mem_of_getElem? (i := 103) rfl))) (by decide) (t := .int) (t' := (.object "com/example/obedient_dog/obedientdog/topologydiscovery/AgeTable")) (by decide) (by decide)))
        have F_earlier_a := F_earlier_a.other W22 (Or.inr (slot_ne (Or.inl (hw _ (List.mem_of_getElem? (i := 138) rfl))) (Or.inl (hw _ (List.mem_of_getElem? (i := 103) rfl))) (by decide) (t := (.array .int)) (t' := (.object "com/example/obedient_dog/obedientdog/topologydiscovery/AgeTable")) (by decide) (by decide)))
        have F_later_a := F_later_a.other W22 (Or.inr (slot_ne (Or.inl (hw _ (List.mem_of_getElem? (i := 140) rfl))) (Or.inl (hw _ (List.mem_of_getElem? (i := 103) rfl))) (by decide) (t := (.array .int)) (t' := (.object "com/example/obedient_dog/obedientdog/topologydiscovery/AgeTable")) (by decide) (by decide)))
        have F_table_a := F_table_a.same W22
        have N22 := Fr.snoc X22 N21 g_a
        refine own_go (U' := T22.setTop (mkF m 121 #[.val (.ref a), .val (.int (Int32.ofNat n)), .val (.int p2), .val (.int (Int32.ofNat j)), .val (.int x), .unset] [])) st22 ?_
        refine own_go (U' := T22.setTop (mkF m 122 #[.val (.ref a), .val (.int (Int32.ofNat n)), .val (.int p2), .val (.int (Int32.ofNat j)), .val (.int x), .unset] [(.int (1 : Int32))])) (fun t k => XS.iconst X22.here hx rfl (hb hby drz_121) k) ?_
        refine own_retN X22 hx (t := .boolean) hret (by simp) hlk (hb hby drz_122) ?_ (by decide) (by decide)
        rw [e22]
        have hr : own_raise (lt, rs, en, none) se n = (lt, rs, en, none) := by rw [own_raise, if_neg (by dsimp only; omega), if_neg (by dsimp only; omega)]
        rw [hr] at hir ⊢
        rw [← List.map_set] at V_ga
        exact ⟨rfl, N22, K, _, _, (fun y hy => Or.inl hy), own_ag_set hag, ⟨_, _, _, _, _, ⟨E_a, F_latest_a, F_raised_a, F_ages_a, F_numbers_a, F_entries_a, F_size_a, F_sealed_a, F_present_a, F_hash_a, F_table_a, F_earlier_a, F_later_a⟩, V_la, V_ra, V_ga, (by simpa using hgl), E_nu, F_hashes_nu, V_ha, hir, ⟨rfl, rfl, rfl⟩, rfl, ⟨ne_la_ra, ne_la_ga, ne_ra_ga, ne_ha_la, ne_ha_ra, ne_ha_ga⟩, ⟨g_a, g_la, g_ra, g_ga⟩, hne⟩⟩
    | some q =>
      obtain ⟨xe, xl, ke, kl2, rfl, rfl, rfl, V_xe, V_xl, g_xe, g_xl, ne_xe_xl⟩ := hcf
      obtain ⟨hq1, hq2, hq3, hq4⟩ := hcl q rfl
      have K := Keep.refl h0 ([a, la, ra, ga] ++ [xe, xl])
      obtain ⟨E_a, F_latest_a, F_raised_a, F_ages_a, F_numbers_a, F_entries_a, F_size_a, F_sealed_a, F_present_a, F_hash_a, F_table_a, F_earlier_a, F_later_a⟩ := F_a
      have ne_a_la : a ≠ la := by
        obtain ⟨cb, Ab, -⟩ := V_la
        exact ne_arr E_a (hw _ (List.mem_of_getElem? (i := 1) rfl)) Ab
      have ne_a_ra : a ≠ ra := by
        obtain ⟨cb, Ab, -⟩ := V_ra
        exact ne_arr E_a (hw _ (List.mem_of_getElem? (i := 1) rfl)) Ab
      have ne_a_ga : a ≠ ga := by
        obtain ⟨cb, Ab, -⟩ := V_ga
        exact ne_arr E_a (hw _ (List.mem_of_getElem? (i := 1) rfl)) Ab
      have ne_a_ha : a ≠ ha := by
        obtain ⟨cb, Ab, -⟩ := V_ha
        exact ne_arr E_a (hw _ (List.mem_of_getElem? (i := 1) rfl)) Ab
      have ne_nu_la : nu ≠ la := by
        obtain ⟨cb, Ab, -⟩ := V_la
        exact ne_arr E_nu (hw _ (List.mem_of_getElem? (i := 4) rfl)) Ab
      have ne_nu_ra : nu ≠ ra := by
        obtain ⟨cb, Ab, -⟩ := V_ra
        exact ne_arr E_nu (hw _ (List.mem_of_getElem? (i := 4) rfl)) Ab
      have ne_nu_ga : nu ≠ ga := by
        obtain ⟨cb, Ab, -⟩ := V_ga
        exact ne_arr E_nu (hw _ (List.mem_of_getElem? (i := 4) rfl)) Ab
      have ne_nu_ha : nu ≠ ha := by
        obtain ⟨cb, Ab, -⟩ := V_ha
        exact ne_arr E_nu (hw _ (List.mem_of_getElem? (i := 4) rfl)) Ab
      have ne_a_nu : a ≠ nu := ne_exa E_a E_nu (by decide)
      have ne_a_xe : a ≠ xe := by
        obtain ⟨cb, Ab, -⟩ := V_xe
        exact ne_arr E_a (hw _ (List.mem_of_getElem? (i := 1) rfl)) Ab
      have ne_a_xl : a ≠ xl := by
        obtain ⟨cb, Ab, -⟩ := V_xl
        exact ne_arr E_a (hw _ (List.mem_of_getElem? (i := 1) rfl)) Ab
      have ne_nu_xe : nu ≠ xe := by
        obtain ⟨cb, Ab, -⟩ := V_xe
        exact ne_arr E_nu (hw _ (List.mem_of_getElem? (i := 4) rfl)) Ab
      have ne_nu_xl : nu ≠ xl := by
        obtain ⟨cb, Ab, -⟩ := V_xl
        exact ne_arr E_nu (hw _ (List.mem_of_getElem? (i := 4) rfl)) Ab
      obtain ⟨ne_xe_la, ne_xe_ra, ne_xe_ga, ne_xe_ha⟩ := hne xe (by simp)
      obtain ⟨ne_xl_la, ne_xl_ra, ne_xl_ga, ne_xl_ha⟩ := hne xl (by simp)
      refine own_go (U' := s₁.setTop (mkF m 1 #[.val (.ref a), .val (.int (Int32.ofNat n)), .val (.int p2), .unset, .unset, .unset] [(.int (Int32.ofNat n))])) (fun t k => XS.iloadN X0.here hx rfl (hb hby drz_0) rfl k) ?_
      refine own_go (U' := s₁.setTop (mkF m 2 #[.val (.ref a), .val (.int (Int32.ofNat n)), .val (.int p2), .unset, .unset, .unset] [(.ref a), (.int (Int32.ofNat n))])) (fun t k => XS.aloadN X0.here hx rfl (hb hby drz_1) rfl rfl k) ?_
      obtain ⟨T23, X23, e23, st23⟩ := getF X0 hx hZ hown (host := "") (Or.inl (hw _ (List.mem_of_getElem? (i := 63) rfl))) Via.refl e0 F_latest_a (g := (mkF m 2 #[.val (.ref a), .val (.int (Int32.ofNat n)), .val (.int p2), .unset, .unset, .unset] [(.ref a), (.int (Int32.ofNat n))])) rfl rfl (hb hby drz_2)
      refine own_go (U' := T23.setTop (mkF m 5 #[.val (.ref a), .val (.int (Int32.ofNat n)), .val (.int p2), .unset, .unset, .unset] [(.ref la), (.int (Int32.ofNat n))])) st23 ?_
      refine own_go (U' := T23.setTop (mkF m 6 #[.val (.ref a), .val (.int (Int32.ofNat n)), .val (.int p2), .unset, .unset, .unset] [(.int (8 : Int32)), (.int (Int32.ofNat n))])) (own_arrlen X23 hx hZ e23 V_la (n := (8 : Int32)) (by rw [h_la]; rfl) (g := (mkF m 5 #[.val (.ref a), .val (.int (Int32.ofNat n)), .val (.int p2), .unset, .unset, .unset] [(.ref la), (.int (Int32.ofNat n))])) rfl rfl (hb hby drz_5)) ?_
      refine own_go (U' := T23.setTop (mkF m 9 #[.val (.ref a), .val (.int (Int32.ofNat n)), .val (.int p2), .unset, .unset, .unset] [])) (fun t k => XS.icmpNo X23.here hx rfl (hb hby drz_6) rfl (tlt ((own_lt (j := 8) (by omega) (by omega)).mpr hn)).2.1 k) ?_
      refine own_go (U' := T23.setTop (mkF m 10 #[.val (.ref a), .val (.int (Int32.ofNat n)), .val (.int p2), .unset, .unset, .unset] [(.ref a)])) (fun t k => XS.aloadN X23.here hx rfl (hb hby drz_9) rfl rfl k) ?_
      obtain ⟨T24, X24, e24, st24⟩ := getF X23 hx hZ hown (host := "") (Or.inl (hw _ (List.mem_of_getElem? (i := 63) rfl))) Via.refl e23 F_latest_a (g := (mkF m 10 #[.val (.ref a), .val (.int (Int32.ofNat n)), .val (.int p2), .unset, .unset, .unset] [(.ref a)])) rfl rfl (hb hby drz_10)
      refine own_go (U' := T24.setTop (mkF m 13 #[.val (.ref a), .val (.int (Int32.ofNat n)), .val (.int p2), .unset, .unset, .unset] [(.ref la)])) st24 ?_
      refine own_go (U' := T24.setTop (mkF m 14 #[.val (.ref a), .val (.int (Int32.ofNat n)), .val (.int p2), .unset, .unset, .unset] [(.int (Int32.ofNat n)), (.ref la)])) (fun t k => XS.iloadN X24.here hx rfl (hb hby drz_13) rfl k) ?_
      refine own_go (U' := T24.setTop (mkF m 15 #[.val (.ref a), .val (.int (Int32.ofNat n)), .val (.int p2), .unset, .unset, .unset] [(.int (Int32.ofNat (lt.getD n 0)))])) (own_iaload X24 hx hZ e24 V_la (j := (Int32.ofNat n)) on.1 (i := n) on.2.1 (v := (.int (Int32.ofNat (lt.getD n 0)))) (own_is_at (by omega)) (g := (mkF m 14 #[.val (.ref a), .val (.int (Int32.ofNat n)), .val (.int p2), .unset, .unset, .unset] [(.int (Int32.ofNat n)), (.ref la)])) rfl rfl (hb hby drz_14)) ?_
      rw [hv]
      refine own_go (U' := T24.setTop (mkF m 16 #[.val (.ref a), .val (.int (Int32.ofNat n)), .val (.int p2), .unset, .unset, .unset] [(.int (1 : Int32)), (.int (Int32.ofNat (j + 1)))])) (fun t k => XS.iconst X24.here hx rfl (hb hby drz_15) k) ?_
      refine own_go (U' := T24.setTop (mkF m 17 #[.val (.ref a), .val (.int (Int32.ofNat n)), .val (.int p2), .unset, .unset, .unset] [(.int ((Int32.ofNat (j + 1)) - (1 : Int32)))])) (fun t k => XS.isub X24.here hx rfl (hb hby drz_16) rfl k) ?_
      refine own_go (U' := T24.setTop (mkF m 21 #[.val (.ref a), .val (.int (Int32.ofNat n)), .val (.int p2), .unset, .unset, .unset] [(.int ((Int32.ofNat (j + 1)) - (1 : Int32)))])) (fun t k => XS.goto X24.here hx rfl (pc0 := 17) (pc' := 21) rfl (hb hby drz_17) (by decide) (by decide) k) ?_
      rw [own_up1]
      refine own_go (U' := T24.setTop (mkF m 22 #[.val (.ref a), .val (.int (Int32.ofNat n)), .val (.int p2), .val (.int (Int32.ofNat j)), .unset, .unset] [])) (fun t k => XS.istoreN X24.here hx rfl (hb hby drz_21) rfl (l' := #[.val (.ref a), .val (.int (Int32.ofNat n)), .val (.int p2), .val (.int (Int32.ofNat j)), .unset, .unset]) rfl k) ?_
      refine own_go (U' := T24.setTop (mkF m 23 #[.val (.ref a), .val (.int (Int32.ofNat n)), .val (.int p2), .val (.int (Int32.ofNat j)), .unset, .unset] [(.int (Int32.ofNat j))])) (fun t k => XS.iloadN X24.here hx rfl (hb hby drz_22) rfl k) ?_
      refine own_go (U' := T24.setTop (mkF m 30 #[.val (.ref a), .val (.int (Int32.ofNat n)), .val (.int p2), .val (.int (Int32.ofNat j)), .unset, .unset] [])) (fun t k => XS.ifYes X24.here hx rfl (pc0 := 23) (pc' := 30) rfl (hb hby drz_23) rfl ((if0 _ _).trans (flt oj.1).2.1) (by decide) (by decide) k) ?_
      refine own_go (U' := T24.setTop (mkF m 31 #[.val (.ref a), .val (.int (Int32.ofNat n)), .val (.int p2), .val (.int (Int32.ofNat j)), .unset, .unset] [(.ref a)])) (fun t k => XS.aloadN X24.here hx rfl (hb hby drz_30) rfl rfl k) ?_
      obtain ⟨T25, X25, e25, st25⟩ := getF X24 hx hZ hown (host := "") (Or.inl (hw _ (List.mem_of_getElem? (i := 67) rfl))) Via.refl e24 F_ages_a (g := (mkF m 31 #[.val (.ref a), .val (.int (Int32.ofNat n)), .val (.int p2), .val (.int (Int32.ofNat j)), .unset, .unset] [(.ref a)])) rfl rfl (hb hby drz_31)
      refine own_go (U' := T25.setTop (mkF m 34 #[.val (.ref a), .val (.int (Int32.ofNat n)), .val (.int p2), .val (.int (Int32.ofNat j)), .unset, .unset] [(.ref ga)])) st25 ?_
      refine own_go (U' := T25.setTop (mkF m 35 #[.val (.ref a), .val (.int (Int32.ofNat n)), .val (.int p2), .val (.int (Int32.ofNat j)), .unset, .unset] [(.int (Int32.ofNat j)), (.ref ga)])) (fun t k => XS.iloadN X25.here hx rfl (hb hby drz_34) rfl k) ?_
      refine own_go (U' := T25.setTop (mkF m 36 #[.val (.ref a), .val (.int (Int32.ofNat n)), .val (.int p2), .val (.int (Int32.ofNat j)), .unset, .unset] [(.int x)])) (own_iaload X25 hx hZ e25 V_ga (j := (Int32.ofNat j)) oj.1 (i := j) oj.2.1 (v := (.int x)) hxa (g := (mkF m 35 #[.val (.ref a), .val (.int (Int32.ofNat n)), .val (.int p2), .val (.int (Int32.ofNat j)), .unset, .unset] [(.int (Int32.ofNat j)), (.ref ga)])) rfl rfl (hb hby drz_35)) ?_
      refine own_go (U' := T25.setTop (mkF m 38 #[.val (.ref a), .val (.int (Int32.ofNat n)), .val (.int p2), .val (.int (Int32.ofNat j)), .val (.int x), .unset] [])) (fun t k => XS.istore X25.here hx rfl (hb hby drz_36) rfl (l' := #[.val (.ref a), .val (.int (Int32.ofNat n)), .val (.int p2), .val (.int (Int32.ofNat j)), .val (.int x), .unset]) rfl k) ?_
      refine own_go (U' := T25.setTop (mkF m 39 #[.val (.ref a), .val (.int (Int32.ofNat n)), .val (.int p2), .val (.int (Int32.ofNat j)), .val (.int x), .unset] [(.int p2)])) (fun t k => XS.iloadN X25.here hx rfl (hb hby drz_38) rfl k) ?_
      refine own_go (U' := T25.setTop (mkF m 41 #[.val (.ref a), .val (.int (Int32.ofNat n)), .val (.int p2), .val (.int (Int32.ofNat j)), .val (.int x), .unset] [(.int x), (.int p2)])) (fun t k => XS.iload X25.here hx rfl (hb hby drz_39) rfl k) ?_
      refine own_go (U' := T25.setTop (mkF m 46 #[.val (.ref a), .val (.int (Int32.ofNat n)), .val (.int p2), .val (.int (Int32.ofNat j)), .val (.int x), .unset] [])) (fun t k => XS.icmpYes X25.here hx rfl (pc0 := 41) (pc' := 46) rfl (hb hby drz_41) rfl (tlt hxp).2.2.1 (by decide) (by decide) k) ?_
      refine own_go (U' := T25.setTop (mkF m 47 #[.val (.ref a), .val (.int (Int32.ofNat n)), .val (.int p2), .val (.int (Int32.ofNat j)), .val (.int x), .unset] [(.int (Int32.ofNat j))])) (fun t k => XS.iloadN X25.here hx rfl (hb hby drz_46) rfl k) ?_
      refine own_go (U' := T25.setTop (mkF m 58 #[.val (.ref a), .val (.int (Int32.ofNat n)), .val (.int p2), .val (.int (Int32.ofNat j)), .val (.int x), .unset] [])) (fun t k => XS.ifYes X25.here hx rfl (pc0 := 47) (pc' := 58) rfl (hb hby drz_47) rfl ((if0 _ _).trans (flt oj.1).2.1) (by decide) (by decide) k) ?_
      refine own_go (U' := T25.setTop (mkF m 59 #[.val (.ref a), .val (.int (Int32.ofNat n)), .val (.int p2), .val (.int (Int32.ofNat j)), .val (.int x), .unset] [(.int (Int32.ofNat j))])) (fun t k => XS.iloadN X25.here hx rfl (hb hby drz_58) rfl k) ?_
      refine own_go (U' := T25.setTop (mkF m 60 #[.val (.ref a), .val (.int (Int32.ofNat n)), .val (.int p2), .val (.int (Int32.ofNat j)), .val (.int x), .unset] [(.ref a), (.int (Int32.ofNat j))])) (fun t k => XS.aloadN X25.here hx rfl (hb hby drz_59) rfl rfl k) ?_
      obtain ⟨T26, X26, e26, st26⟩ := getF X25 hx hZ hown (host := "") (Or.inl (hw _ (List.mem_of_getElem? (i := 109) rfl))) Via.refl e25 F_sealed_a (g := (mkF m 60 #[.val (.ref a), .val (.int (Int32.ofNat n)), .val (.int p2), .val (.int (Int32.ofNat j)), .val (.int x), .unset] [(.ref a), (.int (Int32.ofNat j))])) rfl rfl (hb hby drz_60)
      refine own_go (U' := T26.setTop (mkF m 63 #[.val (.ref a), .val (.int (Int32.ofNat n)), .val (.int p2), .val (.int (Int32.ofNat j)), .val (.int x), .unset] [(.int (Int32.ofNat se)), (.int (Int32.ofNat j))])) st26 ?_
      by_cases hjs : (Int32.ofNat j) < (Int32.ofNat se)
      · refine own_go (U' := T26.setTop (mkF m 66 #[.val (.ref a), .val (.int (Int32.ofNat n)), .val (.int p2), .val (.int (Int32.ofNat j)), .val (.int x), .unset] [])) (fun t k => XS.icmpNo X26.here hx rfl (hb hby drz_63) rfl (tlt hjs).2.1 k) ?_
        have hjs := (own_lt (by omega) (by omega)).mp hjs
        refine own_go (U' := T26.setTop (mkF m 67 #[.val (.ref a), .val (.int (Int32.ofNat n)), .val (.int p2), .val (.int (Int32.ofNat j)), .val (.int x), .unset] [(.ref a)])) (fun t k => XS.aloadN X26.here hx rfl (hb hby drz_66) rfl rfl k) ?_
        refine own_go (U' := T26.setTop (mkF m 68 #[.val (.ref a), .val (.int (Int32.ofNat n)), .val (.int p2), .val (.int (Int32.ofNat j)), .val (.int x), .unset] [(.int (Int32.ofNat n)), (.ref a)])) (fun t k => XS.iloadN X26.here hx rfl (hb hby drz_67) rfl k) ?_
        refine own_go (U' := T26.setTop (mkF m 69 #[.val (.ref a), .val (.int (Int32.ofNat n)), .val (.int p2), .val (.int (Int32.ofNat j)), .val (.int x), .unset] [(.int p2), (.int (Int32.ofNat n)), (.ref a)])) (fun t k => XS.iloadN X26.here hx rfl (hb hby drz_68) rfl k) ?_
        obtain ⟨v27, T27, h27, L27, e27, X27, hQ27, st27⟩ := own_callP X26 hx hZ (y := (⟨"com/example/obedient_dog/obedientdog/topologydiscovery/AgeLog", "append", "(II)I"⟩ : MethodName)) hown (hw _ (List.mem_of_getElem? (i := 81) rfl)) (hw _ (List.mem_of_getElem? (i := 82) rfl)) (own_selP (y0 := (⟨"com/example/obedient_dog/obedientdog/topologydiscovery/AgeLog", "raise", "(II)Z"⟩ : MethodName)) (hw _ (List.mem_of_getElem? (i := 74) rfl)) rfl (hw _ (List.mem_of_getElem? (i := 83) rfl)) (hw _ (List.mem_of_getElem? (i := 82) rfl)) (by decide)) (hw _ (List.mem_of_getElem? (i := 83) rfl)) (hw _ (List.mem_of_getElem? (i := 2) rfl)) (hw _ (List.mem_of_getElem? (i := 84) rfl)) (by decide) E_a (own_rmap l Z a0 hw a (Int32.ofNat n) p2 h0 n0 g_a la ra ga nu ha kh (Int32.ofNat en) sz (Int32.ofNat se) pr hs tb (.ref xe) (.ref xl) htb hea hlr en hen rfl _ _ kr kg g_ra g_ga ne_ra_ga ⟨E_a, F_latest_a, F_raised_a, F_ages_a, F_numbers_a, F_entries_a, F_size_a, F_sealed_a, F_present_a, F_hash_a, F_table_a, F_earlier_a, F_later_a⟩ V_ra h_ra V_ga h_ga) (W := 0) (by decide) (by decide) (g := (mkF m 69 #[.val (.ref a), .val (.int (Int32.ofNat n)), .val (.int p2), .val (.int (Int32.ofNat j)), .val (.int x), .unset] [(.int p2), (.int (Int32.ofNat n)), (.ref a)])) rfl (by rw [hml]; rfl) (argsL := [(.int (Int32.ofNat n)), (.int p2)]) (rest := []) (lenOf own_pd2 rfl) rfl rfl (by show 2 * 0 + _ ≤ _; exact Nat.le_of_eq rfl) (hb hby drz_69) e26 (by decide) (by decide)
        obtain ⟨rfl, Nq, Kq, F_a, V_ra, V_ga⟩ := hQ27
        have K := K.trans Kq (allS (Or.inl (List.mem_of_getElem? (i := 0) rfl)) (allS (Or.inl (List.mem_of_getElem? (i := 2) rfl)) (allS (Or.inl (List.mem_of_getElem? (i := 3) rfl)) all0)))
        have O := O.keep Kq (allS g_a (allS g_ra (allS g_ga all0)))
        have E_a := E_a.keep Kq
        have E_nu := E_nu.keep Kq
        have F_hashes_nu := F_hashes_nu.keep Kq (ninS (Ne.symm ne_a_nu) (ninS ne_nu_ra (ninS ne_nu_ga nin0)))
        have V_ha := V_ha.keep Kq (ninS (Ne.symm ne_a_ha) (ninS ne_ha_ra (ninS ne_ha_ga nin0)))
        have V_la := V_la.keep Kq (ninS (Ne.symm ne_a_la) (ninS ne_la_ra (ninS ne_la_ga nin0)))
        have V_xe := V_xe.keep Kq (ninS (Ne.symm ne_a_xe) (ninS ne_xe_ra (ninS ne_xe_ga nin0)))
        have V_xl := V_xl.keep Kq (ninS (Ne.symm ne_a_xl) (ninS ne_xl_ra (ninS ne_xl_ga nin0)))
        obtain ⟨E_a, F_latest_a, F_raised_a, F_ages_a, F_numbers_a, F_entries_a, F_size_a, F_sealed_a, F_present_a, F_hash_a, F_table_a, F_earlier_a, F_later_a⟩ := F_a
        have N27 := Fr.app N0 Nq
        refine own_go (U' := T27.setTop (mkF m 72 #[.val (.ref a), .val (.int (Int32.ofNat n)), .val (.int p2), .val (.int (Int32.ofNat j)), .val (.int x), .unset] [(.int (Int32.ofNat en))])) st27 ?_
        refine own_go (U' := T27.setTop (mkF m 74 #[.val (.ref a), .val (.int (Int32.ofNat n)), .val (.int p2), .val (.int (Int32.ofNat j)), .val (.int x), .val (.int (Int32.ofNat en))] [])) (fun t k => XS.istore X27.here hx rfl (hb hby drz_72) rfl (l' := #[.val (.ref a), .val (.int (Int32.ofNat n)), .val (.int p2), .val (.int (Int32.ofNat j)), .val (.int x), .val (.int (Int32.ofNat en))]) rfl k) ?_
        refine own_go (U' := T27.setTop (mkF m 75 #[.val (.ref a), .val (.int (Int32.ofNat n)), .val (.int p2), .val (.int (Int32.ofNat j)), .val (.int x), .val (.int (Int32.ofNat en))] [(.ref a)])) (fun t k => XS.aloadN X27.here hx rfl (hb hby drz_74) rfl rfl k) ?_
        refine own_go (U' := T27.setTop (mkF m 76 #[.val (.ref a), .val (.int (Int32.ofNat n)), .val (.int p2), .val (.int (Int32.ofNat j)), .val (.int x), .val (.int (Int32.ofNat en))] [(.int (Int32.ofNat j)), (.ref a)])) (fun t k => XS.iloadN X27.here hx rfl (hb hby drz_75) rfl k) ?_
        refine own_go (U' := T27.setTop (mkF m 78 #[.val (.ref a), .val (.int (Int32.ofNat n)), .val (.int p2), .val (.int (Int32.ofNat j)), .val (.int x), .val (.int (Int32.ofNat en))] [(.int (Int32.ofNat en)), (.int (Int32.ofNat j)), (.ref a)])) (fun t k => XS.iload X27.here hx rfl (hb hby drz_76) rfl k) ?_
        obtain ⟨v28, T28, h28, L28, e28, X28, hQ28, st28⟩ := own_callP X27 hx hZ (y := (⟨"com/example/obedient_dog/obedientdog/topologydiscovery/AgeLog", "chain", "(II)V"⟩ : MethodName)) hown (hw _ (List.mem_of_getElem? (i := 133) rfl)) (hw _ (List.mem_of_getElem? (i := 134) rfl)) (own_selP (y0 := (⟨"com/example/obedient_dog/obedientdog/topologydiscovery/AgeLog", "raise", "(II)Z"⟩ : MethodName)) (hw _ (List.mem_of_getElem? (i := 74) rfl)) rfl (hw _ (List.mem_of_getElem? (i := 135) rfl)) (hw _ (List.mem_of_getElem? (i := 134) rfl)) (by decide)) (hw _ (List.mem_of_getElem? (i := 135) rfl)) (hw _ (List.mem_of_getElem? (i := 2) rfl)) (hw _ (List.mem_of_getElem? (i := 136) rfl)) (by decide) E_a (own_rmc1 l Z a0 hw a (Int32.ofNat j) (Int32.ofNat en) h27 n0 g_a la ra ga nu ha kh _ _ _ _ _ _ xe xl htb j en (by omega) hen rfl rfl q.1 q.2 ke kl2 hq1 hq2 g_xe g_xl ne_xe_xl ⟨E_a, F_latest_a, F_raised_a, F_ages_a, F_numbers_a, F_entries_a, F_size_a, F_sealed_a, F_present_a, F_hash_a, F_table_a, F_earlier_a, F_later_a⟩ V_xe V_xl) (W := 0) (by decide) (by decide) (g := (mkF m 78 #[.val (.ref a), .val (.int (Int32.ofNat n)), .val (.int p2), .val (.int (Int32.ofNat j)), .val (.int x), .val (.int (Int32.ofNat en))] [(.int (Int32.ofNat en)), (.int (Int32.ofNat j)), (.ref a)])) rfl (by rw [hml]; rfl) (argsL := [(.int (Int32.ofNat j)), (.int (Int32.ofNat en))]) (rest := []) (lenOf own_pd3 rfl) rfl rfl (by show 2 * 0 + _ ≤ _; exact Nat.le_of_eq rfl) (hb hby drz_78) e27 (by decide) (by decide)
        obtain ⟨rfl, Nq, Kq, F_a, V_xe, V_xl⟩ := hQ28
        have K := K.trans Kq (allS (Or.inl (List.mem_of_getElem? (i := 0) rfl)) (allS (Or.inl (List.mem_of_getElem? (i := 4) rfl)) (allS (Or.inl (List.mem_of_getElem? (i := 5) rfl)) all0)))
        have O := O.keep Kq (allS g_a (allS g_xe (allS g_xl all0)))
        have E_a := E_a.keep Kq
        have E_nu := E_nu.keep Kq
        have F_hashes_nu := F_hashes_nu.keep Kq (ninS (Ne.symm ne_a_nu) (ninS ne_nu_xe (ninS ne_nu_xl nin0)))
        have V_ha := V_ha.keep Kq (ninS (Ne.symm ne_a_ha) (ninS (Ne.symm ne_xe_ha) (ninS (Ne.symm ne_xl_ha) nin0)))
        have V_la := V_la.keep Kq (ninS (Ne.symm ne_a_la) (ninS (Ne.symm ne_xe_la) (ninS (Ne.symm ne_xl_la) nin0)))
        have V_ra := V_ra.keep Kq (ninS (Ne.symm ne_a_ra) (ninS (Ne.symm ne_xe_ra) (ninS (Ne.symm ne_xl_ra) nin0)))
        have V_ga := V_ga.keep Kq (ninS (Ne.symm ne_a_ga) (ninS (Ne.symm ne_xe_ga) (ninS (Ne.symm ne_xl_ga) nin0)))
        obtain ⟨E_a, F_latest_a, F_raised_a, F_ages_a, F_numbers_a, F_entries_a, F_size_a, F_sealed_a, F_present_a, F_hash_a, F_table_a, F_earlier_a, F_later_a⟩ := F_a
        have N28 := Fr.app N27 Nq
        refine own_go (U' := T28.setTop (mkF m 81 #[.val (.ref a), .val (.int (Int32.ofNat n)), .val (.int p2), .val (.int (Int32.ofNat j)), .val (.int x), .val (.int (Int32.ofNat en))] [])) st28 ?_
        refine own_go (U' := T28.setTop (mkF m 82 #[.val (.ref a), .val (.int (Int32.ofNat n)), .val (.int p2), .val (.int (Int32.ofNat j)), .val (.int x), .val (.int (Int32.ofNat en))] [(.ref a)])) (fun t k => XS.aloadN X28.here hx rfl (hb hby drz_81) rfl rfl k) ?_
        obtain ⟨T29, X29, e29, st29⟩ := getF X28 hx hZ hown (host := "") (Or.inl (hw _ (List.mem_of_getElem? (i := 63) rfl))) Via.refl e28 F_latest_a (g := (mkF m 82 #[.val (.ref a), .val (.int (Int32.ofNat n)), .val (.int p2), .val (.int (Int32.ofNat j)), .val (.int x), .val (.int (Int32.ofNat en))] [(.ref a)])) rfl rfl (hb hby drz_82)
        refine own_go (U' := T29.setTop (mkF m 85 #[.val (.ref a), .val (.int (Int32.ofNat n)), .val (.int p2), .val (.int (Int32.ofNat j)), .val (.int x), .val (.int (Int32.ofNat en))] [(.ref la)])) st29 ?_
        refine own_go (U' := T29.setTop (mkF m 86 #[.val (.ref a), .val (.int (Int32.ofNat n)), .val (.int p2), .val (.int (Int32.ofNat j)), .val (.int x), .val (.int (Int32.ofNat en))] [(.int (Int32.ofNat n)), (.ref la)])) (fun t k => XS.iloadN X29.here hx rfl (hb hby drz_85) rfl k) ?_
        refine own_go (U' := T29.setTop (mkF m 88 #[.val (.ref a), .val (.int (Int32.ofNat n)), .val (.int p2), .val (.int (Int32.ofNat j)), .val (.int x), .val (.int (Int32.ofNat en))] [(.int (Int32.ofNat en)), (.int (Int32.ofNat n)), (.ref la)])) (fun t k => XS.iload X29.here hx rfl (hb hby drz_86) rfl k) ?_
        refine own_go (U' := T29.setTop (mkF m 89 #[.val (.ref a), .val (.int (Int32.ofNat n)), .val (.int p2), .val (.int (Int32.ofNat j)), .val (.int x), .val (.int (Int32.ofNat en))] [(.int (1 : Int32)), (.int (Int32.ofNat en)), (.int (Int32.ofNat n)), (.ref la)])) (fun t k => XS.iconst X29.here hx rfl (hb hby drz_88) k) ?_
        refine own_go (U' := T29.setTop (mkF m 90 #[.val (.ref a), .val (.int (Int32.ofNat n)), .val (.int p2), .val (.int (Int32.ofNat j)), .val (.int x), .val (.int (Int32.ofNat en))] [(.int ((Int32.ofNat en) + (1 : Int32))), (.int (Int32.ofNat n)), (.ref la)])) (fun t k => XS.iadd X29.here hx rfl (hb hby drz_89) rfl k) ?_
        rw [← own_succ]
        obtain ⟨T30, h30, X30, e30, W30, A30, st30⟩ := own_iastore X29 hx hZ e29 V_la (j := (Int32.ofNat n)) on.1 (i := n) on.2.1 (by omega) (g := (mkF m 90 #[.val (.ref a), .val (.int (Int32.ofNat n)), .val (.int p2), .val (.int (Int32.ofNat j)), .val (.int x), .val (.int (Int32.ofNat en))] [(.int (Int32.ofNat (en + 1))), (.int (Int32.ofNat n)), (.ref la)])) rfl rfl (hb hby drz_90)
        have K := K.wr W30 (Or.inl (List.mem_of_getElem? (i := 1) rfl))
        have O := O.wr W30 g_la
        have E_a := E_a.wr W30
        have E_nu := E_nu.wr W30
        have F_hashes_nu := F_hashes_nu.other W30 (Or.inl ne_nu_la)
        have V_ha := V_ha.other W30 ne_ha_la
        have V_ra := V_ra.other W30 (Ne.symm ne_la_ra)
        have V_ga := V_ga.other W30 (Ne.symm ne_la_ga)
        have F_latest_a := F_latest_a.other W30 (Or.inl ne_a_la)
        have F_raised_a := F_raised_a.other W30 (Or.inl ne_a_la)
        have F_ages_a := F_ages_a.other W30 (Or.inl ne_a_la)
        have F_numbers_a := F_numbers_a.other W30 (Or.inl ne_a_la)
        have F_entries_a := F_entries_a.other W30 (Or.inl ne_a_la)
        have F_size_a := F_size_a.other W30 (Or.inl ne_a_la)
        have F_sealed_a := F_sealed_a.other W30 (Or.inl ne_a_la)
        have F_present_a := F_present_a.other W30 (Or.inl ne_a_la)
        have F_hash_a := F_hash_a.other W30 (Or.inl ne_a_la)
        have F_table_a := F_table_a.other W30 (Or.inl ne_a_la)
        have F_earlier_a := F_earlier_a.other W30 (Or.inl ne_a_la)
        have F_later_a := F_later_a.other W30 (Or.inl ne_a_la)
        have V_xe := V_xe.other W30 ne_xe_la
        have V_xl := V_xl.other W30 ne_xl_la
        have V_la : own_Ar Z h30 la kl .int ((own_is lt).set n (.int (Int32.ofNat (en + 1)))) := A30
        have N30 := Fr.snoc X30 N28 g_la
        refine own_go (U' := T30.setTop (mkF m 91 #[.val (.ref a), .val (.int (Int32.ofNat n)), .val (.int p2), .val (.int (Int32.ofNat j)), .val (.int x), .val (.int (Int32.ofNat en))] [])) st30 ?_
        refine own_go (U' := T30.setTop (mkF m 101 #[.val (.ref a), .val (.int (Int32.ofNat n)), .val (.int p2), .val (.int (Int32.ofNat j)), .val (.int x), .val (.int (Int32.ofNat en))] [])) (fun t k => XS.goto X30.here hx rfl (pc0 := 91) (pc' := 101) rfl (hb hby drz_91) (by decide) (by decide) k) ?_
        refine own_go (U' := T30.setTop (mkF m 102 #[.val (.ref a), .val (.int (Int32.ofNat n)), .val (.int p2), .val (.int (Int32.ofNat j)), .val (.int x), .val (.int (Int32.ofNat en))] [(.ref a)])) (fun t k => XS.aloadN X30.here hx rfl (hb hby drz_101) rfl rfl k) ?_
        refine own_go (U' := T30.setTop (mkF m 103 #[.val (.ref a), .val (.int (Int32.ofNat n)), .val (.int p2), .val (.int (Int32.ofNat j)), .val (.int x), .val (.int (Int32.ofNat en))] [(.int (Int32.ofNat n)), (.ref a)])) (fun t k => XS.iloadN X30.here hx rfl (hb hby drz_102) rfl k) ?_
        refine own_go (U' := T30.setTop (mkF m 105 #[.val (.ref a), .val (.int (Int32.ofNat n)), .val (.int p2), .val (.int (Int32.ofNat j)), .val (.int x), .val (.int (Int32.ofNat en))] [(.int x), (.int (Int32.ofNat n)), (.ref a)])) (fun t k => XS.iload X30.here hx rfl (hb hby drz_103) rfl k) ?_
        refine own_go (U' := T30.setTop (mkF m 106 #[.val (.ref a), .val (.int (Int32.ofNat n)), .val (.int p2), .val (.int (Int32.ofNat j)), .val (.int x), .val (.int (Int32.ofNat en))] [(.int (-1 : Int32)), (.int x), (.int (Int32.ofNat n)), (.ref a)])) (fun t k => XS.iconst X30.here hx rfl (hb hby drz_105) k) ?_
        obtain ⟨v31, T31, h31, L31, e31, X31, hQ31, st31⟩ := own_callP X30 hx hZ (y := (⟨"com/example/obedient_dog/obedientdog/topologydiscovery/AgeLog", "count", "(III)V"⟩ : MethodName)) hown (hw _ (List.mem_of_getElem? (i := 89) rfl)) (hw _ (List.mem_of_getElem? (i := 90) rfl)) (own_selP (y0 := (⟨"com/example/obedient_dog/obedientdog/topologydiscovery/AgeLog", "raise", "(II)Z"⟩ : MethodName)) (hw _ (List.mem_of_getElem? (i := 74) rfl)) rfl (hw _ (List.mem_of_getElem? (i := 91) rfl)) (hw _ (List.mem_of_getElem? (i := 90) rfl)) (by decide)) (hw _ (List.mem_of_getElem? (i := 91) rfl)) (hw _ (List.mem_of_getElem? (i := 2) rfl)) (hw _ (List.mem_of_getElem? (i := 92) rfl)) (by decide) E_a (own_rmct l Z a0 hw a (Int32.ofNat n) x (-1) h30 n0 g_a la ra ga nu ha kh _ _ _ _ _ _ _ _ htb (by rfl) (by rfl) n (by omega) rfl ⟨E_a, F_latest_a, F_raised_a, F_ages_a, F_numbers_a, F_entries_a, F_size_a, F_sealed_a, F_present_a, F_hash_a, F_table_a, F_earlier_a, F_later_a⟩ E_nu F_hashes_nu V_ha) (W := 0) (by decide) (by decide) (g := (mkF m 106 #[.val (.ref a), .val (.int (Int32.ofNat n)), .val (.int p2), .val (.int (Int32.ofNat j)), .val (.int x), .val (.int (Int32.ofNat en))] [(.int (-1 : Int32)), (.int x), (.int (Int32.ofNat n)), (.ref a)])) rfl (by rw [hml]; rfl) (argsL := [(.int (Int32.ofNat n)), (.int x), (.int (-1 : Int32))]) (rest := []) (lenOf own_pd1 rfl) rfl rfl (by show 2 * 0 + _ ≤ _; exact Nat.le_of_eq rfl) (hb hby drz_106) e30 (by decide) (by decide)
        obtain ⟨rfl, Nq, Kq, pr0, hs0, F_a⟩ := hQ31
        have K := K.trans Kq (allS (Or.inl (List.mem_of_getElem? (i := 0) rfl)) all0)
        have O := O.keep Kq (allS g_a all0)
        have E_a := E_a.keep Kq
        have E_nu := E_nu.keep Kq
        have F_hashes_nu := F_hashes_nu.keep Kq (ninS (Ne.symm ne_a_nu) nin0)
        have V_ha := V_ha.keep Kq (ninS (Ne.symm ne_a_ha) nin0)
        have V_la := V_la.keep Kq (ninS (Ne.symm ne_a_la) nin0)
        have V_ra := V_ra.keep Kq (ninS (Ne.symm ne_a_ra) nin0)
        have V_ga := V_ga.keep Kq (ninS (Ne.symm ne_a_ga) nin0)
        have V_xe := V_xe.keep Kq (ninS (Ne.symm ne_a_xe) nin0)
        have V_xl := V_xl.keep Kq (ninS (Ne.symm ne_a_xl) nin0)
        obtain ⟨E_a, F_latest_a, F_raised_a, F_ages_a, F_numbers_a, F_entries_a, F_size_a, F_sealed_a, F_present_a, F_hash_a, F_table_a, F_earlier_a, F_later_a⟩ := F_a
        have N31 := Fr.app N30 Nq
        refine own_go (U' := T31.setTop (mkF m 109 #[.val (.ref a), .val (.int (Int32.ofNat n)), .val (.int p2), .val (.int (Int32.ofNat j)), .val (.int x), .val (.int (Int32.ofNat en))] [])) st31 ?_
        refine own_go (U' := T31.setTop (mkF m 110 #[.val (.ref a), .val (.int (Int32.ofNat n)), .val (.int p2), .val (.int (Int32.ofNat j)), .val (.int x), .val (.int (Int32.ofNat en))] [(.ref a)])) (fun t k => XS.aloadN X31.here hx rfl (hb hby drz_109) rfl rfl k) ?_
        refine own_go (U' := T31.setTop (mkF m 111 #[.val (.ref a), .val (.int (Int32.ofNat n)), .val (.int p2), .val (.int (Int32.ofNat j)), .val (.int x), .val (.int (Int32.ofNat en))] [(.int (Int32.ofNat n)), (.ref a)])) (fun t k => XS.iloadN X31.here hx rfl (hb hby drz_110) rfl k) ?_
        refine own_go (U' := T31.setTop (mkF m 112 #[.val (.ref a), .val (.int (Int32.ofNat n)), .val (.int p2), .val (.int (Int32.ofNat j)), .val (.int x), .val (.int (Int32.ofNat en))] [(.int p2), (.int (Int32.ofNat n)), (.ref a)])) (fun t k => XS.iloadN X31.here hx rfl (hb hby drz_111) rfl k) ?_
        refine own_go (U' := T31.setTop (mkF m 113 #[.val (.ref a), .val (.int (Int32.ofNat n)), .val (.int p2), .val (.int (Int32.ofNat j)), .val (.int x), .val (.int (Int32.ofNat en))] [(.int (1 : Int32)), (.int p2), (.int (Int32.ofNat n)), (.ref a)])) (fun t k => XS.iconst X31.here hx rfl (hb hby drz_112) k) ?_
        obtain ⟨v32, T32, h32, L32, e32, X32, hQ32, st32⟩ := own_callP X31 hx hZ (y := (⟨"com/example/obedient_dog/obedientdog/topologydiscovery/AgeLog", "count", "(III)V"⟩ : MethodName)) hown (hw _ (List.mem_of_getElem? (i := 89) rfl)) (hw _ (List.mem_of_getElem? (i := 90) rfl)) (own_selP (y0 := (⟨"com/example/obedient_dog/obedientdog/topologydiscovery/AgeLog", "raise", "(II)Z"⟩ : MethodName)) (hw _ (List.mem_of_getElem? (i := 74) rfl)) rfl (hw _ (List.mem_of_getElem? (i := 91) rfl)) (hw _ (List.mem_of_getElem? (i := 90) rfl)) (by decide)) (hw _ (List.mem_of_getElem? (i := 91) rfl)) (hw _ (List.mem_of_getElem? (i := 2) rfl)) (hw _ (List.mem_of_getElem? (i := 92) rfl)) (by decide) E_a (own_rmct l Z a0 hw a (Int32.ofNat n) p2 1 h31 n0 g_a la ra ga nu ha kh _ _ _ _ _ _ _ _ htb (by rfl) (by rfl) n (by omega) rfl ⟨E_a, F_latest_a, F_raised_a, F_ages_a, F_numbers_a, F_entries_a, F_size_a, F_sealed_a, F_present_a, F_hash_a, F_table_a, F_earlier_a, F_later_a⟩ E_nu F_hashes_nu V_ha) (W := 0) (by decide) (by decide) (g := (mkF m 113 #[.val (.ref a), .val (.int (Int32.ofNat n)), .val (.int p2), .val (.int (Int32.ofNat j)), .val (.int x), .val (.int (Int32.ofNat en))] [(.int (1 : Int32)), (.int p2), (.int (Int32.ofNat n)), (.ref a)])) rfl (by rw [hml]; rfl) (argsL := [(.int (Int32.ofNat n)), (.int p2), (.int (1 : Int32))]) (rest := []) (lenOf own_pd1 rfl) rfl rfl (by show 2 * 0 + _ ≤ _; exact Nat.le_of_eq rfl) (hb hby drz_113) e31 (by decide) (by decide)
        obtain ⟨rfl, Nq, Kq, pr1, hs1, F_a⟩ := hQ32
        have K := K.trans Kq (allS (Or.inl (List.mem_of_getElem? (i := 0) rfl)) all0)
        have O := O.keep Kq (allS g_a all0)
        have E_a := E_a.keep Kq
        have E_nu := E_nu.keep Kq
        have F_hashes_nu := F_hashes_nu.keep Kq (ninS (Ne.symm ne_a_nu) nin0)
        have V_ha := V_ha.keep Kq (ninS (Ne.symm ne_a_ha) nin0)
        have V_la := V_la.keep Kq (ninS (Ne.symm ne_a_la) nin0)
        have V_ra := V_ra.keep Kq (ninS (Ne.symm ne_a_ra) nin0)
        have V_ga := V_ga.keep Kq (ninS (Ne.symm ne_a_ga) nin0)
        have V_xe := V_xe.keep Kq (ninS (Ne.symm ne_a_xe) nin0)
        have V_xl := V_xl.keep Kq (ninS (Ne.symm ne_a_xl) nin0)
        obtain ⟨E_a, F_latest_a, F_raised_a, F_ages_a, F_numbers_a, F_entries_a, F_size_a, F_sealed_a, F_present_a, F_hash_a, F_table_a, F_earlier_a, F_later_a⟩ := F_a
        have N32 := Fr.app N31 Nq
        refine own_go (U' := T32.setTop (mkF m 116 #[.val (.ref a), .val (.int (Int32.ofNat n)), .val (.int p2), .val (.int (Int32.ofNat j)), .val (.int x), .val (.int (Int32.ofNat en))] [])) st32 ?_
        refine own_go (U' := T32.setTop (mkF m 117 #[.val (.ref a), .val (.int (Int32.ofNat n)), .val (.int p2), .val (.int (Int32.ofNat j)), .val (.int x), .val (.int (Int32.ofNat en))] [(.ref a)])) (fun t k => XS.aloadN X32.here hx rfl (hb hby drz_116) rfl rfl k) ?_
        refine own_go (U' := T32.setTop (mkF m 118 #[.val (.ref a), .val (.int (Int32.ofNat n)), .val (.int p2), .val (.int (Int32.ofNat j)), .val (.int x), .val (.int (Int32.ofNat en))] [.null, (.ref a)])) (fun t k => XS.aconstNull X32.here hx rfl (hb hby drz_117) k) ?_
        obtain ⟨T33, h33, X33, e33, W33, st33⟩ := putF X32 hx hZ hown (host := "") (Or.inl (hw _ (List.mem_of_getElem? (i := 102) rfl))) Via.refl e32 F_table_a E_a (Or.inl (hw _ (List.mem_of_getElem? (i := 103) rfl))) (hw _ (List.mem_of_getElem? (i := 1) rfl)) (ty := (.object "com/example/obedient_dog/obedientdog/topologydiscovery/AgeTable")) (by decide) rfl rfl (g := (mkF m 118 #[.val (.ref a), .val (.int (Int32.ofNat n)), .val (.int p2), .val (.int (Int32.ofNat j)), .val (.int x), .val (.int (Int32.ofNat en))] [.null, (.ref a)])) rfl rfl (hb hby drz_118)
        have K := K.wr W33 (Or.inl (List.mem_of_getElem? (i := 0) rfl))
        have O := O.wr W33 g_a
        have E_a := E_a.wr W33
        have E_nu := E_nu.wr W33
        have F_hashes_nu := F_hashes_nu.other W33 (Or.inl (Ne.symm ne_a_nu))
        have V_ha := V_ha.other W33 (Ne.symm ne_a_ha)
        have V_la := V_la.other W33 (Ne.symm ne_a_la)
        have V_ra := V_ra.other W33 (Ne.symm ne_a_ra)
        have V_ga := V_ga.other W33 (Ne.symm ne_a_ga)
        have V_xe := V_xe.other W33 (Ne.symm ne_a_xe)
        have V_xl := V_xl.other W33 (Ne.symm ne_a_xl)
        have F_latest_a := F_latest_a.other W33 (Or.inr (slot_ne (Or.inl (hw _ (List.mem_of_getElem? (i := 64) rfl))) (Or.inl (hw _ (List.mem_of_getElem? (i := 103) rfl))) (by decide) (t := (.array .int)) (t' := (.object "com/example/obedient_dog/obedientdog/topologydiscovery/AgeTable")) (by decide) (by decide)))
        have F_raised_a := F_raised_a.other W33 (Or.inr (slot_ne (Or.inl (hw _ (List.mem_of_getElem? (i := 66) rfl))) (Or.inl (hw _ (List.mem_of_getElem? (i := 103) rfl))) (by decide) (t := (.array .int)) (t' := (.object "com/example/obedient_dog/obedientdog/topologydiscovery/AgeTable")) (by decide) (by decide)))
        have F_ages_a := F_ages_a.other W33 (Or.inr (slot_ne (Or.inl (hw _ (List.mem_of_getElem? (i := 68) rfl))) (Or.inl (hw _ (List.mem_of_getElem? (i := 103) rfl))) (by decide) (t := (.array .int)) (t' := (.object "com/example/obedient_dog/obedientdog/topologydiscovery/AgeTable")) (by decide) (by decide)))
        have F_numbers_a := F_numbers_a.other W33 (Or.inr (slot_ne (Or.inr (hw _ (List.mem_of_getElem? (i := 70) rfl))) (Or.inl (hw _ (List.mem_of_getElem? (i := 103) rfl))) (by decide) (t := (.object "com/example/obedient_dog/obedientdog/topologydiscovery/LinkNumbers")) (t' := (.object "com/example/obedient_dog/obedientdog/topologydiscovery/AgeTable")) (by decide) (by decide)))
        have F_entries_a := F_entries_a.other W33 (Or.inr (slot_ne (Or.inl (hw _ (List.mem_of_getElem? (i := 86) rfl))) (Or.inl (hw _ (List.mem_of_getElem? (i := 103) rfl))) (by decide) (t := .int) (t' := (.object "com/example/obedient_dog/obedientdog/topologydiscovery/AgeTable")) (by decide) (by decide)))
        have F_size_a := F_size_a.other W33 (Or.inr (slot_ne (Or.inl (hw _ (List.mem_of_getElem? (i := 88) rfl))) (Or.inl (hw _ (List.mem_of_getElem? (i := 103) rfl))) (by decide) (t := .int) (t' := (.object "com/example/obedient_dog/obedientdog/topologydiscovery/AgeTable")) (by decide) (by decide)))
        have F_sealed_a := F_sealed_a.other W33 (Or.inr (slot_ne (Or.inl (hw _ (List.mem_of_getElem? (i := 110) rfl))) (Or.inl (hw _ (List.mem_of_getElem? (i := 103) rfl))) (by decide) (t := .int) (t' := (.object "com/example/obedient_dog/obedientdog/topologydiscovery/AgeTable")) (by decide) (by decide)))
        have F_present_a := F_present_a.other W33 (Or.inr (slot_ne (Or.inl (hw _ (List.mem_of_getElem? (i := 94) rfl))) (Or.inl (hw _ (List.mem_of_getElem? (i := 103) rfl))) (by decide) (t := .int) (t' := (.object "com/example/obedient_dog/obedientdog/topologydiscovery/AgeTable")) (by decide) (by decide)))
        have F_hash_a := F_hash_a.other W33 (Or.inr (slot_ne (Or.inl (hw _ (List.mem_of_getElem? (i := 96) rfl))) (Or.inl (hw _ (List.mem_of_getElem? (i := 103) rfl))) (by decide) (t := .int) (t' := (.object "com/example/obedient_dog/obedientdog/topologydiscovery/AgeTable")) (by decide) (by decide)))
        have F_earlier_a := F_earlier_a.other W33 (Or.inr (slot_ne (Or.inl (hw _ (List.mem_of_getElem? (i := 138) rfl))) (Or.inl (hw _ (List.mem_of_getElem? (i := 103) rfl))) (by decide) (t := (.array .int)) (t' := (.object "com/example/obedient_dog/obedientdog/topologydiscovery/AgeTable")) (by decide) (by decide)))
        have F_later_a := F_later_a.other W33 (Or.inr (slot_ne (Or.inl (hw _ (List.mem_of_getElem? (i := 140) rfl))) (Or.inl (hw _ (List.mem_of_getElem? (i := 103) rfl))) (by decide) (t := (.array .int)) (t' := (.object "com/example/obedient_dog/obedientdog/topologydiscovery/AgeTable")) (by decide) (by decide)))
        have F_table_a := F_table_a.same W33
        have N33 := Fr.snoc X33 N32 g_a
        refine own_go (U' := T33.setTop (mkF m 121 #[.val (.ref a), .val (.int (Int32.ofNat n)), .val (.int p2), .val (.int (Int32.ofNat j)), .val (.int x), .val (.int (Int32.ofNat en))] [])) st33 ?_
        refine own_go (U' := T33.setTop (mkF m 122 #[.val (.ref a), .val (.int (Int32.ofNat n)), .val (.int p2), .val (.int (Int32.ofNat j)), .val (.int x), .val (.int (Int32.ofNat en))] [(.int (1 : Int32))])) (fun t k => XS.iconst X33.here hx rfl (hb hby drz_121) k) ?_
        refine own_retN X33 hx (t := .boolean) hret (by simp) hlk (hb hby drz_122) ?_ (by decide) (by decide)
        rw [e33]
        have hr : own_raise (lt, rs, en, some q) se n = (lt.set n (en + 1), rs.set en n, en + 1, some (own_chain (some q) j en)) := by rw [own_raise, if_neg (by dsimp only; omega), if_pos (by dsimp only; omega)]; dsimp only; rw [hv]; rfl
        rw [hr] at hir ⊢
        rw [own_is_set] at V_la V_ra
        rw [← List.map_set] at V_ga
        exact ⟨rfl, N33, K, _, _, (fun y hy => Or.inl hy), own_ag_set hag, ⟨_, _, _, _, _, ⟨E_a, F_latest_a, F_raised_a, F_ages_a, F_numbers_a, F_entries_a, F_size_a, F_sealed_a, F_present_a, F_hash_a, F_table_a, F_earlier_a, F_later_a⟩, V_la, V_ra, V_ga, (by simpa using hgl), E_nu, F_hashes_nu, V_ha, hir, ⟨_, _, _, _, rfl, rfl, rfl, V_xe, V_xl, g_xe, g_xl, ne_xe_xl⟩, rfl, ⟨ne_la_ra, ne_la_ga, ne_ra_ga, ne_ha_la, ne_ha_ra, ne_ha_ga⟩, ⟨g_a, g_la, g_ra, g_ga⟩, hne⟩⟩
      · refine own_go (U' := T26.setTop (mkF m 94 #[.val (.ref a), .val (.int (Int32.ofNat n)), .val (.int p2), .val (.int (Int32.ofNat j)), .val (.int x), .unset] [])) (fun t k => XS.icmpYes X26.here hx rfl (pc0 := 63) (pc' := 94) rfl (hb hby drz_63) rfl (flt hjs).2.1 (by decide) (by decide) k) ?_
        have hjs : ¬ j < se := fun q => hjs ((own_lt (by omega) (by omega)).mpr q)
        refine own_go (U' := T26.setTop (mkF m 95 #[.val (.ref a), .val (.int (Int32.ofNat n)), .val (.int p2), .val (.int (Int32.ofNat j)), .val (.int x), .unset] [(.ref a)])) (fun t k => XS.aloadN X26.here hx rfl (hb hby drz_94) rfl rfl k) ?_
        obtain ⟨T34, X34, e34, st34⟩ := getF X26 hx hZ hown (host := "") (Or.inl (hw _ (List.mem_of_getElem? (i := 67) rfl))) Via.refl e26 F_ages_a (g := (mkF m 95 #[.val (.ref a), .val (.int (Int32.ofNat n)), .val (.int p2), .val (.int (Int32.ofNat j)), .val (.int x), .unset] [(.ref a)])) rfl rfl (hb hby drz_95)
        refine own_go (U' := T34.setTop (mkF m 98 #[.val (.ref a), .val (.int (Int32.ofNat n)), .val (.int p2), .val (.int (Int32.ofNat j)), .val (.int x), .unset] [(.ref ga)])) st34 ?_
        refine own_go (U' := T34.setTop (mkF m 99 #[.val (.ref a), .val (.int (Int32.ofNat n)), .val (.int p2), .val (.int (Int32.ofNat j)), .val (.int x), .unset] [(.int (Int32.ofNat j)), (.ref ga)])) (fun t k => XS.iloadN X34.here hx rfl (hb hby drz_98) rfl k) ?_
        refine own_go (U' := T34.setTop (mkF m 100 #[.val (.ref a), .val (.int (Int32.ofNat n)), .val (.int p2), .val (.int (Int32.ofNat j)), .val (.int x), .unset] [(.int p2), (.int (Int32.ofNat j)), (.ref ga)])) (fun t k => XS.iloadN X34.here hx rfl (hb hby drz_99) rfl k) ?_
        obtain ⟨T35, h35, X35, e35, W35, A35, st35⟩ := own_iastore X34 hx hZ e34 V_ga (j := (Int32.ofNat j)) oj.1 (i := j) oj.2.1 (by rw [h_ga]; omega) (g := (mkF m 100 #[.val (.ref a), .val (.int (Int32.ofNat n)), .val (.int p2), .val (.int (Int32.ofNat j)), .val (.int x), .unset] [(.int p2), (.int (Int32.ofNat j)), (.ref ga)])) rfl rfl (hb hby drz_100)
        have K := K.wr W35 (Or.inl (List.mem_of_getElem? (i := 3) rfl))
        have O := O.wr W35 g_ga
        have E_a := E_a.wr W35
        have F_latest_a := F_latest_a.other W35 (Or.inl ne_a_ga)
        have F_raised_a := F_raised_a.other W35 (Or.inl ne_a_ga)
        have F_ages_a := F_ages_a.other W35 (Or.inl ne_a_ga)
        have F_numbers_a := F_numbers_a.other W35 (Or.inl ne_a_ga)
        have F_entries_a := F_entries_a.other W35 (Or.inl ne_a_ga)
        have F_size_a := F_size_a.other W35 (Or.inl ne_a_ga)
        have F_sealed_a := F_sealed_a.other W35 (Or.inl ne_a_ga)
        have F_present_a := F_present_a.other W35 (Or.inl ne_a_ga)
        have F_hash_a := F_hash_a.other W35 (Or.inl ne_a_ga)
        have F_table_a := F_table_a.other W35 (Or.inl ne_a_ga)
        have F_earlier_a := F_earlier_a.other W35 (Or.inl ne_a_ga)
        have F_later_a := F_later_a.other W35 (Or.inl ne_a_ga)
        have E_nu := E_nu.wr W35
        have F_hashes_nu := F_hashes_nu.other W35 (Or.inl ne_nu_ga)
        have V_ha := V_ha.other W35 ne_ha_ga
        have V_la := V_la.other W35 ne_la_ga
        have V_ra := V_ra.other W35 ne_ra_ga
        have V_xe := V_xe.other W35 ne_xe_ga
        have V_xl := V_xl.other W35 ne_xl_ga
        have V_ga : own_Ar Z h35 ga kg .int ((ag.map Value.int).set j (.int p2)) := A35
        have N35 := Fr.snoc X35 N0 g_ga
        refine own_go (U' := T35.setTop (mkF m 101 #[.val (.ref a), .val (.int (Int32.ofNat n)), .val (.int p2), .val (.int (Int32.ofNat j)), .val (.int x), .unset] [])) st35 ?_
        refine own_go (U' := T35.setTop (mkF m 102 #[.val (.ref a), .val (.int (Int32.ofNat n)), .val (.int p2), .val (.int (Int32.ofNat j)), .val (.int x), .unset] [(.ref a)])) (fun t k => XS.aloadN X35.here hx rfl (hb hby drz_101) rfl rfl k) ?_
        refine own_go (U' := T35.setTop (mkF m 103 #[.val (.ref a), .val (.int (Int32.ofNat n)), .val (.int p2), .val (.int (Int32.ofNat j)), .val (.int x), .unset] [(.int (Int32.ofNat n)), (.ref a)])) (fun t k => XS.iloadN X35.here hx rfl (hb hby drz_102) rfl k) ?_
        refine own_go (U' := T35.setTop (mkF m 105 #[.val (.ref a), .val (.int (Int32.ofNat n)), .val (.int p2), .val (.int (Int32.ofNat j)), .val (.int x), .unset] [(.int x), (.int (Int32.ofNat n)), (.ref a)])) (fun t k => XS.iload X35.here hx rfl (hb hby drz_103) rfl k) ?_
        refine own_go (U' := T35.setTop (mkF m 106 #[.val (.ref a), .val (.int (Int32.ofNat n)), .val (.int p2), .val (.int (Int32.ofNat j)), .val (.int x), .unset] [(.int (-1 : Int32)), (.int x), (.int (Int32.ofNat n)), (.ref a)])) (fun t k => XS.iconst X35.here hx rfl (hb hby drz_105) k) ?_
        obtain ⟨v36, T36, h36, L36, e36, X36, hQ36, st36⟩ := own_callP X35 hx hZ (y := (⟨"com/example/obedient_dog/obedientdog/topologydiscovery/AgeLog", "count", "(III)V"⟩ : MethodName)) hown (hw _ (List.mem_of_getElem? (i := 89) rfl)) (hw _ (List.mem_of_getElem? (i := 90) rfl)) (own_selP (y0 := (⟨"com/example/obedient_dog/obedientdog/topologydiscovery/AgeLog", "raise", "(II)Z"⟩ : MethodName)) (hw _ (List.mem_of_getElem? (i := 74) rfl)) rfl (hw _ (List.mem_of_getElem? (i := 91) rfl)) (hw _ (List.mem_of_getElem? (i := 90) rfl)) (by decide)) (hw _ (List.mem_of_getElem? (i := 91) rfl)) (hw _ (List.mem_of_getElem? (i := 2) rfl)) (hw _ (List.mem_of_getElem? (i := 92) rfl)) (by decide) E_a (own_rmct l Z a0 hw a (Int32.ofNat n) x (-1) h35 n0 g_a la ra ga nu ha kh _ _ _ _ _ _ _ _ htb (by rfl) (by rfl) n (by omega) rfl ⟨E_a, F_latest_a, F_raised_a, F_ages_a, F_numbers_a, F_entries_a, F_size_a, F_sealed_a, F_present_a, F_hash_a, F_table_a, F_earlier_a, F_later_a⟩ E_nu F_hashes_nu V_ha) (W := 0) (by decide) (by decide) (g := (mkF m 106 #[.val (.ref a), .val (.int (Int32.ofNat n)), .val (.int p2), .val (.int (Int32.ofNat j)), .val (.int x), .unset] [(.int (-1 : Int32)), (.int x), (.int (Int32.ofNat n)), (.ref a)])) rfl (by rw [hml]; rfl) (argsL := [(.int (Int32.ofNat n)), (.int x), (.int (-1 : Int32))]) (rest := []) (lenOf own_pd1 rfl) rfl rfl (by show 2 * 0 + _ ≤ _; exact Nat.le_of_eq rfl) (hb hby drz_106) e35 (by decide) (by decide)
        obtain ⟨rfl, Nq, Kq, pr0, hs0, F_a⟩ := hQ36
        have K := K.trans Kq (allS (Or.inl (List.mem_of_getElem? (i := 0) rfl)) all0)
        have O := O.keep Kq (allS g_a all0)
        have E_a := E_a.keep Kq
        have E_nu := E_nu.keep Kq
        have F_hashes_nu := F_hashes_nu.keep Kq (ninS (Ne.symm ne_a_nu) nin0)
        have V_ha := V_ha.keep Kq (ninS (Ne.symm ne_a_ha) nin0)
        have V_la := V_la.keep Kq (ninS (Ne.symm ne_a_la) nin0)
        have V_ra := V_ra.keep Kq (ninS (Ne.symm ne_a_ra) nin0)
        have V_ga := V_ga.keep Kq (ninS (Ne.symm ne_a_ga) nin0)
        have V_xe := V_xe.keep Kq (ninS (Ne.symm ne_a_xe) nin0)
        have V_xl := V_xl.keep Kq (ninS (Ne.symm ne_a_xl) nin0)
        obtain ⟨E_a, F_latest_a, F_raised_a, F_ages_a, F_numbers_a, F_entries_a, F_size_a, F_sealed_a, F_present_a, F_hash_a, F_table_a, F_earlier_a, F_later_a⟩ := F_a
        have N36 := Fr.app N35 Nq
        refine own_go (U' := T36.setTop (mkF m 109 #[.val (.ref a), .val (.int (Int32.ofNat n)), .val (.int p2), .val (.int (Int32.ofNat j)), .val (.int x), .unset] [])) st36 ?_
        refine own_go (U' := T36.setTop (mkF m 110 #[.val (.ref a), .val (.int (Int32.ofNat n)), .val (.int p2), .val (.int (Int32.ofNat j)), .val (.int x), .unset] [(.ref a)])) (fun t k => XS.aloadN X36.here hx rfl (hb hby drz_109) rfl rfl k) ?_
        refine own_go (U' := T36.setTop (mkF m 111 #[.val (.ref a), .val (.int (Int32.ofNat n)), .val (.int p2), .val (.int (Int32.ofNat j)), .val (.int x), .unset] [(.int (Int32.ofNat n)), (.ref a)])) (fun t k => XS.iloadN X36.here hx rfl (hb hby drz_110) rfl k) ?_
        refine own_go (U' := T36.setTop (mkF m 112 #[.val (.ref a), .val (.int (Int32.ofNat n)), .val (.int p2), .val (.int (Int32.ofNat j)), .val (.int x), .unset] [(.int p2), (.int (Int32.ofNat n)), (.ref a)])) (fun t k => XS.iloadN X36.here hx rfl (hb hby drz_111) rfl k) ?_
        refine own_go (U' := T36.setTop (mkF m 113 #[.val (.ref a), .val (.int (Int32.ofNat n)), .val (.int p2), .val (.int (Int32.ofNat j)), .val (.int x), .unset] [(.int (1 : Int32)), (.int p2), (.int (Int32.ofNat n)), (.ref a)])) (fun t k => XS.iconst X36.here hx rfl (hb hby drz_112) k) ?_
        obtain ⟨v37, T37, h37, L37, e37, X37, hQ37, st37⟩ := own_callP X36 hx hZ (y := (⟨"com/example/obedient_dog/obedientdog/topologydiscovery/AgeLog", "count", "(III)V"⟩ : MethodName)) hown (hw _ (List.mem_of_getElem? (i := 89) rfl)) (hw _ (List.mem_of_getElem? (i := 90) rfl)) (own_selP (y0 := (⟨"com/example/obedient_dog/obedientdog/topologydiscovery/AgeLog", "raise", "(II)Z"⟩ : MethodName)) (hw _ (List.mem_of_getElem? (i := 74) rfl)) rfl (hw _ (List.mem_of_getElem? (i := 91) rfl)) (hw _ (List.mem_of_getElem? (i := 90) rfl)) (by decide)) (hw _ (List.mem_of_getElem? (i := 91) rfl)) (hw _ (List.mem_of_getElem? (i := 2) rfl)) (hw _ (List.mem_of_getElem? (i := 92) rfl)) (by decide) E_a (own_rmct l Z a0 hw a (Int32.ofNat n) p2 1 h36 n0 g_a la ra ga nu ha kh _ _ _ _ _ _ _ _ htb (by rfl) (by rfl) n (by omega) rfl ⟨E_a, F_latest_a, F_raised_a, F_ages_a, F_numbers_a, F_entries_a, F_size_a, F_sealed_a, F_present_a, F_hash_a, F_table_a, F_earlier_a, F_later_a⟩ E_nu F_hashes_nu V_ha) (W := 0) (by decide) (by decide) (g := (mkF m 113 #[.val (.ref a), .val (.int (Int32.ofNat n)), .val (.int p2), .val (.int (Int32.ofNat j)), .val (.int x), .unset] [(.int (1 : Int32)), (.int p2), (.int (Int32.ofNat n)), (.ref a)])) rfl (by rw [hml]; rfl) (argsL := [(.int (Int32.ofNat n)), (.int p2), (.int (1 : Int32))]) (rest := []) (lenOf own_pd1 rfl) rfl rfl (by show 2 * 0 + _ ≤ _; exact Nat.le_of_eq rfl) (hb hby drz_113) e36 (by decide) (by decide)
        obtain ⟨rfl, Nq, Kq, pr1, hs1, F_a⟩ := hQ37
        have K := K.trans Kq (allS (Or.inl (List.mem_of_getElem? (i := 0) rfl)) all0)
        have O := O.keep Kq (allS g_a all0)
        have E_a := E_a.keep Kq
        have E_nu := E_nu.keep Kq
        have F_hashes_nu := F_hashes_nu.keep Kq (ninS (Ne.symm ne_a_nu) nin0)
        have V_ha := V_ha.keep Kq (ninS (Ne.symm ne_a_ha) nin0)
        have V_la := V_la.keep Kq (ninS (Ne.symm ne_a_la) nin0)
        have V_ra := V_ra.keep Kq (ninS (Ne.symm ne_a_ra) nin0)
        have V_ga := V_ga.keep Kq (ninS (Ne.symm ne_a_ga) nin0)
        have V_xe := V_xe.keep Kq (ninS (Ne.symm ne_a_xe) nin0)
        have V_xl := V_xl.keep Kq (ninS (Ne.symm ne_a_xl) nin0)
        obtain ⟨E_a, F_latest_a, F_raised_a, F_ages_a, F_numbers_a, F_entries_a, F_size_a, F_sealed_a, F_present_a, F_hash_a, F_table_a, F_earlier_a, F_later_a⟩ := F_a
        have N37 := Fr.app N36 Nq
        refine own_go (U' := T37.setTop (mkF m 116 #[.val (.ref a), .val (.int (Int32.ofNat n)), .val (.int p2), .val (.int (Int32.ofNat j)), .val (.int x), .unset] [])) st37 ?_
        refine own_go (U' := T37.setTop (mkF m 117 #[.val (.ref a), .val (.int (Int32.ofNat n)), .val (.int p2), .val (.int (Int32.ofNat j)), .val (.int x), .unset] [(.ref a)])) (fun t k => XS.aloadN X37.here hx rfl (hb hby drz_116) rfl rfl k) ?_
        refine own_go (U' := T37.setTop (mkF m 118 #[.val (.ref a), .val (.int (Int32.ofNat n)), .val (.int p2), .val (.int (Int32.ofNat j)), .val (.int x), .unset] [.null, (.ref a)])) (fun t k => XS.aconstNull X37.here hx rfl (hb hby drz_117) k) ?_
        obtain ⟨T38, h38, X38, e38, W38, st38⟩ := putF X37 hx hZ hown (host := "") (Or.inl (hw _ (List.mem_of_getElem? (i := 102) rfl))) Via.refl e37 F_table_a E_a (Or.inl (hw _ (List.mem_of_getElem? (i := 103) rfl))) (hw _ (List.mem_of_getElem? (i := 1) rfl)) (ty := (.object "com/example/obedient_dog/obedientdog/topologydiscovery/AgeTable")) (by decide) rfl rfl (g := (mkF m 118 #[.val (.ref a), .val (.int (Int32.ofNat n)), .val (.int p2), .val (.int (Int32.ofNat j)), .val (.int x), .unset] [.null, (.ref a)])) rfl rfl (hb hby drz_118)
        have K := K.wr W38 (Or.inl (List.mem_of_getElem? (i := 0) rfl))
        have O := O.wr W38 g_a
        have E_a := E_a.wr W38
        have E_nu := E_nu.wr W38
        have F_hashes_nu := F_hashes_nu.other W38 (Or.inl (Ne.symm ne_a_nu))
        have V_ha := V_ha.other W38 (Ne.symm ne_a_ha)
        have V_la := V_la.other W38 (Ne.symm ne_a_la)
        have V_ra := V_ra.other W38 (Ne.symm ne_a_ra)
        have V_ga := V_ga.other W38 (Ne.symm ne_a_ga)
        have V_xe := V_xe.other W38 (Ne.symm ne_a_xe)
        have V_xl := V_xl.other W38 (Ne.symm ne_a_xl)
        have F_latest_a := F_latest_a.other W38 (Or.inr (slot_ne (Or.inl (hw _ (List.mem_of_getElem? (i := 64) rfl))) (Or.inl (hw _ (List.mem_of_getElem? (i := 103) rfl))) (by decide) (t := (.array .int)) (t' := (.object "com/example/obedient_dog/obedientdog/topologydiscovery/AgeTable")) (by decide) (by decide)))
        have F_raised_a := F_raised_a.other W38 (Or.inr (slot_ne (Or.inl (hw _ (List.mem_of_getElem? (i := 66) rfl))) (Or.inl (hw _ (List.mem_of_getElem? (i := 103) rfl))) (by decide) (t := (.array .int)) (t' := (.object "com/example/obedient_dog/obedientdog/topologydiscovery/AgeTable")) (by decide) (by decide)))
        have F_ages_a := F_ages_a.other W38 (Or.inr (slot_ne (Or.inl (hw _ (List.mem_of_getElem? (i := 68) rfl))) (Or.inl (hw _ (List.mem_of_getElem? (i := 103) rfl))) (by decide) (t := (.array .int)) (t' := (.object "com/example/obedient_dog/obedientdog/topologydiscovery/AgeTable")) (by decide) (by decide)))
        have F_numbers_a := F_numbers_a.other W38 (Or.inr (slot_ne (Or.inr (hw _ (List.mem_of_getElem? (i := 70) rfl))) (Or.inl (hw _ (List.mem_of_getElem? (i := 103) rfl))) (by decide) (t := (.object "com/example/obedient_dog/obedientdog/topologydiscovery/LinkNumbers")) (t' := (.object "com/example/obedient_dog/obedientdog/topologydiscovery/AgeTable")) (by decide) (by decide)))
        have F_entries_a := F_entries_a.other W38 (Or.inr (slot_ne (Or.inl (hw _ (List.mem_of_getElem? (i := 86) rfl))) (Or.inl (hw _ (List.mem_of_getElem? (i := 103) rfl))) (by decide) (t := .int) (t' := (.object "com/example/obedient_dog/obedientdog/topologydiscovery/AgeTable")) (by decide) (by decide)))
        have F_size_a := F_size_a.other W38 (Or.inr (slot_ne (Or.inl (hw _ (List.mem_of_getElem? (i := 88) rfl))) (Or.inl (hw _ (List.mem_of_getElem? (i := 103) rfl))) (by decide) (t := .int) (t' := (.object "com/example/obedient_dog/obedientdog/topologydiscovery/AgeTable")) (by decide) (by decide)))
        have F_sealed_a := F_sealed_a.other W38 (Or.inr (slot_ne (Or.inl (hw _ (List.mem_of_getElem? (i := 110) rfl))) (Or.inl (hw _ (List.mem_of_getElem? (i := 103) rfl))) (by decide) (t := .int) (t' := (.object "com/example/obedient_dog/obedientdog/topologydiscovery/AgeTable")) (by decide) (by decide)))
        have F_present_a := F_present_a.other W38 (Or.inr (slot_ne (Or.inl (hw _ (List.mem_of_getElem? (i := 94) rfl))) (Or.inl (hw _ (List.mem_of_getElem? (i := 103) rfl))) (by decide) (t := .int) (t' := (.object "com/example/obedient_dog/obedientdog/topologydiscovery/AgeTable")) (by decide) (by decide)))
        have F_hash_a := F_hash_a.other W38 (Or.inr (slot_ne (Or.inl (hw _ (List.mem_of_getElem? (i := 96) rfl))) (Or.inl (hw _ (List.mem_of_getElem? (i := 103) rfl))) (by decide) (t := .int) (t' := (.object "com/example/obedient_dog/obedientdog/topologydiscovery/AgeTable")) (by decide) (by decide)))
        have F_earlier_a := F_earlier_a.other W38 (Or.inr (slot_ne (Or.inl (hw _ (List.mem_of_getElem? (i := 138) rfl))) (Or.inl (hw _ (List.mem_of_getElem? (i := 103) rfl))) (by decide) (t := (.array .int)) (t' := (.object "com/example/obedient_dog/obedientdog/topologydiscovery/AgeTable")) (by decide) (by decide)))
        have F_later_a := F_later_a.other W38 (Or.inr (slot_ne (Or.inl (hw _ (List.mem_of_getElem? (i := 140) rfl))) (Or.inl (hw _ (List.mem_of_getElem? (i := 103) rfl))) (by decide) (t := (.array .int)) (t' := (.object "com/example/obedient_dog/obedientdog/topologydiscovery/AgeTable")) (by decide) (by decide)))
        have F_table_a := F_table_a.same W38
        have N38 := Fr.snoc X38 N37 g_a
        refine own_go (U' := T38.setTop (mkF m 121 #[.val (.ref a), .val (.int (Int32.ofNat n)), .val (.int p2), .val (.int (Int32.ofNat j)), .val (.int x), .unset] [])) st38 ?_
        refine own_go (U' := T38.setTop (mkF m 122 #[.val (.ref a), .val (.int (Int32.ofNat n)), .val (.int p2), .val (.int (Int32.ofNat j)), .val (.int x), .unset] [(.int (1 : Int32))])) (fun t k => XS.iconst X38.here hx rfl (hb hby drz_121) k) ?_
        refine own_retN X38 hx (t := .boolean) hret (by simp) hlk (hb hby drz_122) ?_ (by decide) (by decide)
        rw [e38]
        have hr : own_raise (lt, rs, en, some q) se n = (lt, rs, en, some q) := by rw [own_raise, if_neg (by dsimp only; omega), if_neg (by dsimp only; omega)]
        rw [hr] at hir ⊢
        rw [← List.map_set] at V_ga
        exact ⟨rfl, N38, K, _, _, (fun y hy => Or.inl hy), own_ag_set hag, ⟨_, _, _, _, _, ⟨E_a, F_latest_a, F_raised_a, F_ages_a, F_numbers_a, F_entries_a, F_size_a, F_sealed_a, F_present_a, F_hash_a, F_table_a, F_earlier_a, F_later_a⟩, V_la, V_ra, V_ga, (by simpa using hgl), E_nu, F_hashes_nu, V_ha, hir, ⟨_, _, _, _, rfl, rfl, rfl, V_xe, V_xl, g_xe, g_xl, ne_xe_xl⟩, rfl, ⟨ne_la_ra, ne_la_ga, ne_ra_ga, ne_ha_la, ne_ha_ra, ne_ha_ga⟩, ⟨g_a, g_la, g_ra, g_ga⟩, hne⟩⟩
theorem own_pd6 : parseMethodDescriptor "(Lcom/example/obedient_dog/obedientdog/topologydiscovery/AgeLog;IIII)V" = some ⟨[(.object "com/example/obedient_dog/obedientdog/topologydiscovery/AgeLog"), .int, .int, .int, .int], none⟩ := by decide +kernel
theorem own_pd7 : parseMethodDescriptor "()Lcom/example/obedient_dog/obedientdog/topologydiscovery/AgeTable;" = some ⟨[], some (.object "com/example/obedient_dog/obedientdog/topologydiscovery/AgeTable")⟩ := by decide +kernel
theorem own_pd8 : parseMethodDescriptor "(Lcom/example/obedient_dog/obedientdog/topologydiscovery/LinkNumbers;)V" = some ⟨[(.object "com/example/obedient_dog/obedientdog/topologydiscovery/LinkNumbers")], none⟩ := by decide +kernel
theorem own_St.keep {Z : State} {h h' : Heap} {n0 : Nat} {a la ra ga nu ha : Addr} {kl kr kg kh : ClassId} {s : own_S} {se : Nat} {ag : List Int32} {tb : Value} {cs ws : List Addr} (S : own_St Z h n0 a la ra ga nu ha kl kr kg kh s se ag tb cs) (K : Keep h h' ws) (q : ∀ y ∈ [a, la, ra, ga, nu, ha] ++ cs, y ∉ ws) : own_St Z h' n0 a la ra ga nu ha kl kr kg kh s se ag tb cs := by
  obtain ⟨sz, pr, hs, ea, lr, ⟨E, f1, f2, f3, f4, f5, f6, f7, f8, f9, f10, f11, f12⟩, V1, V2, V3, hgl, E2, F2, V4, hinv, hcf, r⟩ := S
  have qa := q a (by simp)
  exact ⟨sz, pr, hs, ea, lr, ⟨E.keep K, f1.keep K qa, f2.keep K qa, f3.keep K qa, f4.keep K qa, f5.keep K qa, f6.keep K qa, f7.keep K qa, f8.keep K qa, f9.keep K qa, f10.keep K qa, f11.keep K qa, f12.keep K qa⟩, V1.keep K (q la (by simp)), V2.keep K (q ra (by simp)), V3.keep K (q ga (by simp)), hgl, E2.keep K, F2.keep K (q nu (by simp)), V4.keep K (q ha (by simp)), hinv, hcf.keep K (fun x hx => q x (List.mem_append_right _ hx)), r⟩
theorem own_St.exa {Z : State} {h : Heap} {n0 : Nat} {a la ra ga nu ha : Addr} {kl kr kg kh : ClassId} {s : own_S} {se : Nat} {ag : List Int32} {tb : Value} {cs : List Addr} (S : own_St Z h n0 a la ra ga nu ha kl kr kg kh s se ag tb cs) : Exa Z h a "com/example/obedient_dog/obedientdog/topologydiscovery/AgeLog" := by
  obtain ⟨_, _, _, _, _, ⟨E, -⟩, -⟩ := S; exact E
theorem own_St.inv {Z : State} {h : Heap} {n0 : Nat} {a la ra ga nu ha : Addr} {kl kr kg kh : ClassId} {s : own_S} {se : Nat} {ag : List Int32} {tb : Value} {cs : List Addr} (S : own_St Z h n0 a la ra ga nu ha kl kr kg kh s se ag tb cs) : own_inv s se := by
  obtain ⟨_, _, _, _, _, _, _, _, _, _, _, _, _, hinv, -⟩ := S; exact hinv
theorem own_St.ge {Z : State} {h : Heap} {n0 : Nat} {a la ra ga nu ha : Addr} {kl kr kg kh : ClassId} {s : own_S} {se : Nat} {ag : List Int32} {tb : Value} {cs : List Addr} (S : own_St Z h n0 a la ra ga nu ha kl kr kg kh s se ag tb cs) : ∀ y ∈ [a, la, ra, ga] ++ cs, n0 ≤ y := by
  obtain ⟨_, _, _, ea, lr, _, _, _, _, _, _, _, _, _, hcf, _, _, ⟨q1, q2, q3, q4⟩, _⟩ := S
  intro y hy
  rcases List.mem_append.mp hy with hy | hy
  · simp only [List.mem_cons, List.not_mem_nil, or_false] at hy
    rcases hy with rfl | rfl | rfl | rfl <;> assumption
  · generalize s.2.2.2 = ch at hcf
    cases ch with
    | none => obtain ⟨-, -, rfl⟩ := hcf; cases hy
    | some q =>
      obtain ⟨xe, xl, ke, kl2, -, -, rfl, -, -, g1, g2, -⟩ := hcf
      simp only [List.mem_cons, List.not_mem_nil, or_false] at hy
      rcases hy with rfl | rfl <;> assumption
theorem own_St.ext {Z : State} {h h' : Heap} {n0 : Nat} {a la ra ga nu ha : Addr} {kl kr kg kh : ClassId} {s : own_S} {se : Nat} {ag : List Int32} {tb : Value} {cs : List Addr} (S : own_St Z h n0 a la ra ga nu ha kl kr kg kh s se ag tb cs) (E : Ext h h') : own_St Z h' n0 a la ra ga nu ha kl kr kg kh s se ag tb cs := S.keep ((Keep.refl h []).ext E) (fun y hy => nin0)
theorem own_nin {y N : Nat} {G cs cs' : List Addr} (h : y ∉ G ++ cs) (hc : ∀ z ∈ cs', z ∈ cs ∨ N ≤ z) (hy : y < N) : y ∉ G ++ cs' := by
  intro q
  rcases List.mem_append.mp q with q | q
  · exact h (List.mem_append_left _ q)
  · rcases hc y q with q | q
    · exact h (List.mem_append_right _ q)
    · exact absurd hy (Nat.not_lt.mpr q)
theorem own_sub {y : Addr} {a la ra ga nu ha : Addr} {cs : List Addr} (h : y ∉ [a, la, ra, ga, nu, ha] ++ cs) : y ∉ [a, la, ra, ga] ++ cs := by
  intro q
  apply h
  simp only [List.mem_append, List.mem_cons, List.not_mem_nil, or_false] at q ⊢
  rcases q with (q | q | q | q) | q
  · exact Or.inl (Or.inl q)
  · exact Or.inl (Or.inr (Or.inl q))
  · exact Or.inl (Or.inr (Or.inr (Or.inl q)))
  · exact Or.inl (Or.inr (Or.inr (Or.inr (Or.inl q))))
  · exact Or.inr q
def own_il (ch : Option (List Nat × List Nat)) (e d : Nat) : Int32 := match ch with | none => 1 | some p => if p.2.getD e 0 = 0 then 1 else if p.2.getD e 0 < d then 0 else 1
theorem own_gd {l : List Nat} {i b : Nat} (h : ∀ x ∈ l, x ≤ b) : l.getD i 0 ≤ b := by
  by_cases hi : i < l.length
  · have : l.getD i 0 ∈ l := by rw [List.getD, List.getElem?_eq_getElem hi, Option.getD_some]; exact List.getElem_mem _
    exact h _ this
  · rw [List.getD, List.getElem?_eq_none (by omega)]; exact Nat.zero_le _
theorem dam_0 : decode jdk_71_method_1_code 0 = .ok (.aload_n 0, 1) := by decide +kernel
theorem dam_1 : decode jdk_71_method_1_code 1 = .ok (.invokespecial 1, 3) := by decide +kernel
theorem dam_4 : decode jdk_71_method_1_code 4 = .ok (.return_, 1) := by decide +kernel
theorem own_pn2 : plainName "java/util/AbstractMap" = true := by first | (simp [plainName, overriddenIn]; done) | decide +kernel
theorem own_efam (m : MethodId) (a : Addr) : entryFrame m #[(.ref a)] 1 = mkF m 0 #[.val (.ref a)] [] := by first | (simp [entryFrame, mkF, argsToLocals, Value.category]; done) | rfl
set_option maxRecDepth 65536 in
set_option maxHeartbeats 40000000 in
theorem own_rmam (l : Launch) (Z : State) (a0 : Array Value) (hw : ∀ d ∈ tables_1, d.before a0 Z = true) (a : Addr) (h0 : Heap)  :
    own_C l Z (⟨"java/util/AbstractMap", "<init>", "()V"⟩ : MethodName) jdk_71_method_1_code 1 none [] ({ frames := 1, cells := 0, slots := 0, locals := 12 } : Room) #[(.ref a)] h0 (fun v h L => v = none ∧ L = [] ∧ h = h0) := by
  refine own_body (plainFor_of_name own_pn2) fun p e s m below meth c s₁ hx hby hml hret hlk hown hnm hZ X0 e0 => ?_
  rw [own_efam m a]
  refine own_go (U' := s₁.setTop (mkF m 1 #[.val (.ref a)] [(.ref a)])) (fun t k => XS.aloadN X0.here hx rfl (hb hby dam_0) rfl rfl k) ?_
  obtain ⟨T1, X1, e1, st1⟩ := initO X0 hx hZ hown (hw _ (List.mem_of_getElem? (i := 24) rfl)) (hw _ (List.mem_of_getElem? (i := 10) rfl)) (hw _ (List.mem_of_getElem? (i := 11) rfl)) e0 (g := (mkF m 1 #[.val (.ref a)] [(.ref a)])) rfl (by rw [hml]; rfl) rfl (hb hby dam_1) (by decide) (W := 0) (by show 2 * 0 + _ ≤ _; exact Nat.le_of_eq rfl) (by decide)
  refine own_go (U' := T1.setTop (mkF m 4 #[.val (.ref a)] [])) st1 ?_
  refine own_retV X1 hx hret hlk (hb hby dam_4) ?_ (by decide) (by decide)
  exact ⟨rfl, rfl, e1⟩
theorem dti_0 : decode prog_41_method_1_code 0 = .ok (.aload_n 0, 1) := by decide +kernel
theorem dti_1 : decode prog_41_method_1_code 1 = .ok (.invokespecial 1, 3) := by decide +kernel
theorem dti_4 : decode prog_41_method_1_code 4 = .ok (.aload_n 0, 1) := by decide +kernel
theorem dti_5 : decode prog_41_method_1_code 5 = .ok (.aload_n 1, 1) := by decide +kernel
theorem dti_6 : decode prog_41_method_1_code 6 = .ok (.putfield 7, 3) := by decide +kernel
theorem dti_9 : decode prog_41_method_1_code 9 = .ok (.aload_n 0, 1) := by decide +kernel
theorem dti_10 : decode prog_41_method_1_code 10 = .ok (.iload_n 2, 1) := by decide +kernel
theorem dti_11 : decode prog_41_method_1_code 11 = .ok (.putfield 13, 3) := by decide +kernel
theorem dti_14 : decode prog_41_method_1_code 14 = .ok (.aload_n 0, 1) := by decide +kernel
theorem dti_15 : decode prog_41_method_1_code 15 = .ok (.iload_n 3, 1) := by decide +kernel
theorem dti_16 : decode prog_41_method_1_code 16 = .ok (.putfield 17, 3) := by decide +kernel
theorem dti_19 : decode prog_41_method_1_code 19 = .ok (.aload_n 0, 1) := by decide +kernel
theorem dti_20 : decode prog_41_method_1_code 20 = .ok (.iload 4, 2) := by decide +kernel
theorem dti_22 : decode prog_41_method_1_code 22 = .ok (.putfield 20, 3) := by decide +kernel
theorem dti_25 : decode prog_41_method_1_code 25 = .ok (.aload_n 0, 1) := by decide +kernel
theorem dti_26 : decode prog_41_method_1_code 26 = .ok (.iload 5, 2) := by decide +kernel
theorem dti_28 : decode prog_41_method_1_code 28 = .ok (.putfield 23, 3) := by decide +kernel
theorem dti_31 : decode prog_41_method_1_code 31 = .ok (.return_, 1) := by decide +kernel
theorem own_pn3 : plainName "com/example/obedient_dog/obedientdog/topologydiscovery/AgeTable" = true := by first | (simp [plainName, overriddenIn]; done) | decide +kernel
theorem own_efti (m : MethodId) (t b : Addr) (p1 p2 p3 p4 : Int32) : entryFrame m #[(.ref t), (.ref b), (.int p1), (.int p2), (.int p3), (.int p4)] 6 = mkF m 0 #[.val (.ref t), .val (.ref b), .val (.int p1), .val (.int p2), .val (.int p3), .val (.int p4)] [] := by first | (simp [entryFrame, mkF, argsToLocals, Value.category]; done) | rfl
set_option maxRecDepth 65536 in
set_option maxHeartbeats 40000000 in
theorem own_rmti (l : Launch) (Z : State) (a0 : Array Value) (hw : ∀ d ∈ tables_1, d.before a0 Z = true) (t b : Addr) (p1 p2 p3 p4 : Int32) (h0 : Heap) (n0 : Nat) (g_t : n0 ≤ t) (u0 u1 u2 u3 u4 : Value) (E_t : Exa Z h0 t "com/example/obedient_dog/obedientdog/topologydiscovery/AgeTable") (F_log_t : Fld Z h0 t "com/example/obedient_dog/obedientdog/topologydiscovery/AgeTable" "log" "Lcom/example/obedient_dog/obedientdog/topologydiscovery/AgeLog;" u0) (F_end_t : Fld Z h0 t "com/example/obedient_dog/obedientdog/topologydiscovery/AgeTable" "end" "I" u1) (F_size_t : Fld Z h0 t "com/example/obedient_dog/obedientdog/topologydiscovery/AgeTable" "size" "I" u2) (F_present_t : Fld Z h0 t "com/example/obedient_dog/obedientdog/topologydiscovery/AgeTable" "present" "I" u3) (F_hash_t : Fld Z h0 t "com/example/obedient_dog/obedientdog/topologydiscovery/AgeTable" "hash" "I" u4) :
    own_C l Z (⟨"com/example/obedient_dog/obedientdog/topologydiscovery/AgeTable", "<init>", "(Lcom/example/obedient_dog/obedientdog/topologydiscovery/AgeLog;IIII)V"⟩ : MethodName) prog_41_method_1_code 6 none [] ({ frames := 2, cells := 0, slots := 0, locals := 24 } : Room) #[(.ref t), (.ref b), (.int p1), (.int p2), (.int p3), (.int p4)] h0 (fun v h L => v = none ∧ Fr n0 L ∧ Keep h0 h [t]) := by
  refine own_body (plainFor_of_name own_pn3) fun p e s m below meth c s₁ hx hby hml hret hlk hown hnm hZ X0 e0 => ?_
  rw [own_efti m t b p1 p2 p3 p4]
  have N0 := Fr.nil n0
  have K := Keep.refl h0 [t]
  refine own_go (U' := s₁.setTop (mkF m 1 #[.val (.ref t), .val (.ref b), .val (.int p1), .val (.int p2), .val (.int p3), .val (.int p4)] [(.ref t)])) (fun t k => XS.aloadN X0.here hx rfl (hb hby dti_0) rfl rfl k) ?_
  obtain ⟨v1, T1, h1, L1, e1, X1, hQ1, st1⟩ := own_callC X0 hx hZ (y := (⟨"java/util/AbstractMap", "<init>", "()V"⟩ : MethodName)) rfl hown (hw _ (List.mem_of_getElem? (i := 117) rfl)) (hw _ (List.mem_of_getElem? (i := 19) rfl)) (hw _ (List.mem_of_getElem? (i := 22) rfl)) (hw _ (List.mem_of_getElem? (i := 23) rfl)) (by decide) (a := t) (own_rmam l Z a0 hw t h0) (W := 0) (by decide) (by decide) (g := (mkF m 1 #[.val (.ref t), .val (.ref b), .val (.int p1), .val (.int p2), .val (.int p3), .val (.int p4)] [(.ref t)])) rfl (by rw [hml]; rfl) (argsL := []) (rest := []) (lenOf own_pd4 rfl) rfl rfl (by show 2 * 0 + _ ≤ _; exact Nat.le_of_eq rfl) (hb hby dti_1) e0 (by decide) (by decide)
  obtain ⟨rfl, rfl, eh1⟩ := hQ1
  have e1 := e1.trans eh1
  rw [List.append_nil] at X1
  refine own_go (U' := T1.setTop (mkF m 4 #[.val (.ref t), .val (.ref b), .val (.int p1), .val (.int p2), .val (.int p3), .val (.int p4)] [])) st1 ?_
  refine own_go (U' := T1.setTop (mkF m 5 #[.val (.ref t), .val (.ref b), .val (.int p1), .val (.int p2), .val (.int p3), .val (.int p4)] [(.ref t)])) (fun t k => XS.aloadN X1.here hx rfl (hb hby dti_4) rfl rfl k) ?_
  refine own_go (U' := T1.setTop (mkF m 6 #[.val (.ref t), .val (.ref b), .val (.int p1), .val (.int p2), .val (.int p3), .val (.int p4)] [(.ref b), (.ref t)])) (fun t k => XS.aloadN X1.here hx rfl (hb hby dti_5) rfl rfl k) ?_
  obtain ⟨T2, h2, X2, e2, W2, st2⟩ := putF X1 hx hZ hown (host := "") (Or.inl (hw _ (List.mem_of_getElem? (i := 118) rfl))) Via.refl e1 F_log_t E_t (Or.inr ⟨(hw _ (List.mem_of_getElem? (i := 119) rfl)), rfl, hnm⟩) (hw _ (List.mem_of_getElem? (i := 112) rfl)) (ty := (.object "com/example/obedient_dog/obedientdog/topologydiscovery/AgeLog")) (by decide) rfl rfl (g := (mkF m 6 #[.val (.ref t), .val (.ref b), .val (.int p1), .val (.int p2), .val (.int p3), .val (.int p4)] [(.ref b), (.ref t)])) rfl rfl (hb hby dti_6)
  have K := K.wr W2 (Or.inl (List.mem_of_getElem? (i := 0) rfl))
  have E_t := E_t.wr W2
  have F_end_t := F_end_t.other W2 (Or.inr (slot_ne (Or.inr (hw _ (List.mem_of_getElem? (i := 121) rfl))) (Or.inr (hw _ (List.mem_of_getElem? (i := 119) rfl))) (by decide) (t := .int) (t' := (.object "com/example/obedient_dog/obedientdog/topologydiscovery/AgeLog")) (by decide) (by decide)))
  have F_size_t := F_size_t.other W2 (Or.inr (slot_ne (Or.inr (hw _ (List.mem_of_getElem? (i := 123) rfl))) (Or.inr (hw _ (List.mem_of_getElem? (i := 119) rfl))) (by decide) (t := .int) (t' := (.object "com/example/obedient_dog/obedientdog/topologydiscovery/AgeLog")) (by decide) (by decide)))
  have F_present_t := F_present_t.other W2 (Or.inr (slot_ne (Or.inr (hw _ (List.mem_of_getElem? (i := 125) rfl))) (Or.inr (hw _ (List.mem_of_getElem? (i := 119) rfl))) (by decide) (t := .int) (t' := (.object "com/example/obedient_dog/obedientdog/topologydiscovery/AgeLog")) (by decide) (by decide)))
  have F_hash_t := F_hash_t.other W2 (Or.inr (slot_ne (Or.inr (hw _ (List.mem_of_getElem? (i := 127) rfl))) (Or.inr (hw _ (List.mem_of_getElem? (i := 119) rfl))) (by decide) (t := .int) (t' := (.object "com/example/obedient_dog/obedientdog/topologydiscovery/AgeLog")) (by decide) (by decide)))
  have F_log_t := F_log_t.same W2
  have N2 := Fr.snoc X2 N0 g_t
  refine own_go (U' := T2.setTop (mkF m 9 #[.val (.ref t), .val (.ref b), .val (.int p1), .val (.int p2), .val (.int p3), .val (.int p4)] [])) st2 ?_
  refine own_go (U' := T2.setTop (mkF m 10 #[.val (.ref t), .val (.ref b), .val (.int p1), .val (.int p2), .val (.int p3), .val (.int p4)] [(.ref t)])) (fun t k => XS.aloadN X2.here hx rfl (hb hby dti_9) rfl rfl k) ?_
  refine own_go (U' := T2.setTop (mkF m 11 #[.val (.ref t), .val (.ref b), .val (.int p1), .val (.int p2), .val (.int p3), .val (.int p4)] [(.int p1), (.ref t)])) (fun t k => XS.iloadN X2.here hx rfl (hb hby dti_10) rfl k) ?_
  obtain ⟨T3, h3, X3, e3, W3, st3⟩ := putF X2 hx hZ hown (host := "") (Or.inl (hw _ (List.mem_of_getElem? (i := 120) rfl))) Via.refl e2 F_end_t E_t (Or.inr ⟨(hw _ (List.mem_of_getElem? (i := 121) rfl)), rfl, hnm⟩) (hw _ (List.mem_of_getElem? (i := 112) rfl)) (ty := .int) (by decide) rfl rfl (g := (mkF m 11 #[.val (.ref t), .val (.ref b), .val (.int p1), .val (.int p2), .val (.int p3), .val (.int p4)] [(.int p1), (.ref t)])) rfl rfl (hb hby dti_11)
  have K := K.wr W3 (Or.inl (List.mem_of_getElem? (i := 0) rfl))
  have E_t := E_t.wr W3
  have F_log_t := F_log_t.other W3 (Or.inr (slot_ne (Or.inr (hw _ (List.mem_of_getElem? (i := 119) rfl))) (Or.inr (hw _ (List.mem_of_getElem? (i := 121) rfl))) (by decide) (t := (.object "com/example/obedient_dog/obedientdog/topologydiscovery/AgeLog")) (t' := .int) (by decide) (by decide)))
  have F_size_t := F_size_t.other W3 (Or.inr (slot_ne (Or.inr (hw _ (List.mem_of_getElem? (i := 123) rfl))) (Or.inr (hw _ (List.mem_of_getElem? (i := 121) rfl))) (by decide) (t := .int) (t' := .int) (by decide) (by decide)))
  have F_present_t := F_present_t.other W3 (Or.inr (slot_ne (Or.inr (hw _ (List.mem_of_getElem? (i := 125) rfl))) (Or.inr (hw _ (List.mem_of_getElem? (i := 121) rfl))) (by decide) (t := .int) (t' := .int) (by decide) (by decide)))
  have F_hash_t := F_hash_t.other W3 (Or.inr (slot_ne (Or.inr (hw _ (List.mem_of_getElem? (i := 127) rfl))) (Or.inr (hw _ (List.mem_of_getElem? (i := 121) rfl))) (by decide) (t := .int) (t' := .int) (by decide) (by decide)))
  have F_end_t := F_end_t.same W3
  have N3 := Fr.snoc X3 N2 g_t
  refine own_go (U' := T3.setTop (mkF m 14 #[.val (.ref t), .val (.ref b), .val (.int p1), .val (.int p2), .val (.int p3), .val (.int p4)] [])) st3 ?_
  refine own_go (U' := T3.setTop (mkF m 15 #[.val (.ref t), .val (.ref b), .val (.int p1), .val (.int p2), .val (.int p3), .val (.int p4)] [(.ref t)])) (fun t k => XS.aloadN X3.here hx rfl (hb hby dti_14) rfl rfl k) ?_
  refine own_go (U' := T3.setTop (mkF m 16 #[.val (.ref t), .val (.ref b), .val (.int p1), .val (.int p2), .val (.int p3), .val (.int p4)] [(.int p2), (.ref t)])) (fun t k => XS.iloadN X3.here hx rfl (hb hby dti_15) rfl k) ?_
  obtain ⟨T4, h4, X4, e4, W4, st4⟩ := putF X3 hx hZ hown (host := "") (Or.inl (hw _ (List.mem_of_getElem? (i := 122) rfl))) Via.refl e3 F_size_t E_t (Or.inr ⟨(hw _ (List.mem_of_getElem? (i := 123) rfl)), rfl, hnm⟩) (hw _ (List.mem_of_getElem? (i := 112) rfl)) (ty := .int) (by decide) rfl rfl (g := (mkF m 16 #[.val (.ref t), .val (.ref b), .val (.int p1), .val (.int p2), .val (.int p3), .val (.int p4)] [(.int p2), (.ref t)])) rfl rfl (hb hby dti_16)
  have K := K.wr W4 (Or.inl (List.mem_of_getElem? (i := 0) rfl))
  have E_t := E_t.wr W4
  have F_log_t := F_log_t.other W4 (Or.inr (slot_ne (Or.inr (hw _ (List.mem_of_getElem? (i := 119) rfl))) (Or.inr (hw _ (List.mem_of_getElem? (i := 123) rfl))) (by decide) (t := (.object "com/example/obedient_dog/obedientdog/topologydiscovery/AgeLog")) (t' := .int) (by decide) (by decide)))
  have F_end_t := F_end_t.other W4 (Or.inr (slot_ne (Or.inr (hw _ (List.mem_of_getElem? (i := 121) rfl))) (Or.inr (hw _ (List.mem_of_getElem? (i := 123) rfl))) (by decide) (t := .int) (t' := .int) (by decide) (by decide)))
  have F_present_t := F_present_t.other W4 (Or.inr (slot_ne (Or.inr (hw _ (List.mem_of_getElem? (i := 125) rfl))) (Or.inr (hw _ (List.mem_of_getElem? (i := 123) rfl))) (by decide) (t := .int) (t' := .int) (by decide) (by decide)))
  have F_hash_t := F_hash_t.other W4 (Or.inr (slot_ne (Or.inr (hw _ (List.mem_of_getElem? (i := 127) rfl))) (Or.inr (hw _ (List.mem_of_getElem? (i := 123) rfl))) (by decide) (t := .int) (t' := .int) (by decide) (by decide)))
  have F_size_t := F_size_t.same W4
  have N4 := Fr.snoc X4 N3 g_t
  refine own_go (U' := T4.setTop (mkF m 19 #[.val (.ref t), .val (.ref b), .val (.int p1), .val (.int p2), .val (.int p3), .val (.int p4)] [])) st4 ?_
  refine own_go (U' := T4.setTop (mkF m 20 #[.val (.ref t), .val (.ref b), .val (.int p1), .val (.int p2), .val (.int p3), .val (.int p4)] [(.ref t)])) (fun t k => XS.aloadN X4.here hx rfl (hb hby dti_19) rfl rfl k) ?_
  refine own_go (U' := T4.setTop (mkF m 22 #[.val (.ref t), .val (.ref b), .val (.int p1), .val (.int p2), .val (.int p3), .val (.int p4)] [(.int p3), (.ref t)])) (fun t k => XS.iload X4.here hx rfl (hb hby dti_20) rfl k) ?_
  obtain ⟨T5, h5, X5, e5, W5, st5⟩ := putF X4 hx hZ hown (host := "") (Or.inl (hw _ (List.mem_of_getElem? (i := 124) rfl))) Via.refl e4 F_present_t E_t (Or.inr ⟨(hw _ (List.mem_of_getElem? (i := 125) rfl)), rfl, hnm⟩) (hw _ (List.mem_of_getElem? (i := 112) rfl)) (ty := .int) (by decide) rfl rfl (g := (mkF m 22 #[.val (.ref t), .val (.ref b), .val (.int p1), .val (.int p2), .val (.int p3), .val (.int p4)] [(.int p3), (.ref t)])) rfl rfl (hb hby dti_22)
  have K := K.wr W5 (Or.inl (List.mem_of_getElem? (i := 0) rfl))
  have E_t := E_t.wr W5
  have F_log_t := F_log_t.other W5 (Or.inr (slot_ne (Or.inr (hw _ (List.mem_of_getElem? (i := 119) rfl))) (Or.inr (hw _ (List.mem_of_getElem? (i := 125) rfl))) (by decide) (t := (.object "com/example/obedient_dog/obedientdog/topologydiscovery/AgeLog")) (t' := .int) (by decide) (by decide)))
  have F_end_t := F_end_t.other W5 (Or.inr (slot_ne (Or.inr (hw _ (List.mem_of_getElem? (i := 121) rfl))) (Or.inr (hw _ (List.mem_of_getElem? (i := 125) rfl))) (by decide) (t := .int) (t' := .int) (by decide) (by decide)))
  have F_size_t := F_size_t.other W5 (Or.inr (slot_ne (Or.inr (hw _ (List.mem_of_getElem? (i := 123) rfl))) (Or.inr (hw _ (List.mem_of_getElem? (i := 125) rfl))) (by decide) (t := .int) (t' := .int) (by decide) (by decide)))
  have F_hash_t := F_hash_t.other W5 (Or.inr (slot_ne (Or.inr (hw _ (List.mem_of_getElem? (i := 127) rfl))) (Or.inr (hw _ (List.mem_of_getElem? (i := 125) rfl))) (by decide) (t := .int) (t' := .int) (by decide) (by decide)))
  have F_present_t := F_present_t.same W5
  have N5 := Fr.snoc X5 N4 g_t
  refine own_go (U' := T5.setTop (mkF m 25 #[.val (.ref t), .val (.ref b), .val (.int p1), .val (.int p2), .val (.int p3), .val (.int p4)] [])) st5 ?_
  refine own_go (U' := T5.setTop (mkF m 26 #[.val (.ref t), .val (.ref b), .val (.int p1), .val (.int p2), .val (.int p3), .val (.int p4)] [(.ref t)])) (fun t k => XS.aloadN X5.here hx rfl (hb hby dti_25) rfl rfl k) ?_
  refine own_go (U' := T5.setTop (mkF m 28 #[.val (.ref t), .val (.ref b), .val (.int p1), .val (.int p2), .val (.int p3), .val (.int p4)] [(.int p4), (.ref t)])) (fun t k => XS.iload X5.here hx rfl (hb hby dti_26) rfl k) ?_
  obtain ⟨T6, h6, X6, e6, W6, st6⟩ := putF X5 hx hZ hown (host := "") (Or.inl (hw _ (List.mem_of_getElem? (i := 126) rfl))) Via.refl e5 F_hash_t E_t (Or.inr ⟨(hw _ (List.mem_of_getElem? (i := 127) rfl)), rfl, hnm⟩) (hw _ (List.mem_of_getElem? (i := 112) rfl)) (ty := .int) (by decide) rfl rfl (g := (mkF m 28 #[.val (.ref t), .val (.ref b), .val (.int p1), .val (.int p2), .val (.int p3), .val (.int p4)] [(.int p4), (.ref t)])) rfl rfl (hb hby dti_28)
  have K := K.wr W6 (Or.inl (List.mem_of_getElem? (i := 0) rfl))
  have E_t := E_t.wr W6
  have F_log_t := F_log_t.other W6 (Or.inr (slot_ne (Or.inr (hw _ (List.mem_of_getElem? (i := 119) rfl))) (Or.inr (hw _ (List.mem_of_getElem? (i := 127) rfl))) (by decide) (t := (.object "com/example/obedient_dog/obedientdog/topologydiscovery/AgeLog")) (t' := .int) (by decide) (by decide)))
  have F_end_t := F_end_t.other W6 (Or.inr (slot_ne (Or.inr (hw _ (List.mem_of_getElem? (i := 121) rfl))) (Or.inr (hw _ (List.mem_of_getElem? (i := 127) rfl))) (by decide) (t := .int) (t' := .int) (by decide) (by decide)))
  have F_size_t := F_size_t.other W6 (Or.inr (slot_ne (Or.inr (hw _ (List.mem_of_getElem? (i := 123) rfl))) (Or.inr (hw _ (List.mem_of_getElem? (i := 127) rfl))) (by decide) (t := .int) (t' := .int) (by decide) (by decide)))
  have F_present_t := F_present_t.other W6 (Or.inr (slot_ne (Or.inr (hw _ (List.mem_of_getElem? (i := 125) rfl))) (Or.inr (hw _ (List.mem_of_getElem? (i := 127) rfl))) (by decide) (t := .int) (t' := .int) (by decide) (by decide)))
  have F_hash_t := F_hash_t.same W6
  have N6 := Fr.snoc X6 N5 g_t
  refine own_go (U' := T6.setTop (mkF m 31 #[.val (.ref t), .val (.ref b), .val (.int p1), .val (.int p2), .val (.int p3), .val (.int p4)] [])) st6 ?_
  refine own_retV X6 hx hret hlk (hb hby dti_31) ?_ (by decide) (by decide)
  rw [e6]
  exact ⟨rfl, N6, K⟩
theorem dtb_0 : decode prog_39_method_7_code 0 = .ok (.aload_n 0, 1) := by decide +kernel
theorem dtb_1 : decode prog_39_method_7_code 1 = .ok (.getfield 70, 3) := by decide +kernel
theorem dtb_4 : decode prog_39_method_7_code 4 = .ok (.ifnonnull 39, 3) := by decide +kernel
theorem dtb_7 : decode prog_39_method_7_code 7 = .ok (.aload_n 0, 1) := by decide +kernel
theorem dtb_8 : decode prog_39_method_7_code 8 = .ok (.aload_n 0, 1) := by decide +kernel
theorem dtb_9 : decode prog_39_method_7_code 9 = .ok (.getfield 84, 3) := by decide +kernel
theorem dtb_12 : decode prog_39_method_7_code 12 = .ok (.putfield 78, 3) := by decide +kernel
theorem dtb_15 : decode prog_39_method_7_code 15 = .ok (.aload_n 0, 1) := by decide +kernel
theorem dtb_16 : decode prog_39_method_7_code 16 = .ok (.new 37, 3) := by decide +kernel
theorem dtb_19 : decode prog_39_method_7_code 19 = .ok (.dup, 1) := by decide +kernel
theorem dtb_20 : decode prog_39_method_7_code 20 = .ok (.aload_n 0, 1) := by decide +kernel
theorem dtb_21 : decode prog_39_method_7_code 21 = .ok (.aload_n 0, 1) := by decide +kernel
theorem dtb_22 : decode prog_39_method_7_code 22 = .ok (.getfield 84, 3) := by decide +kernel
theorem dtb_25 : decode prog_39_method_7_code 25 = .ok (.aload_n 0, 1) := by decide +kernel
theorem dtb_26 : decode prog_39_method_7_code 26 = .ok (.getfield 63, 3) := by decide +kernel
theorem dtb_29 : decode prog_39_method_7_code 29 = .ok (.aload_n 0, 1) := by decide +kernel
theorem dtb_30 : decode prog_39_method_7_code 30 = .ok (.getfield 87, 3) := by decide +kernel
theorem dtb_33 : decode prog_39_method_7_code 33 = .ok (.aload_n 0, 1) := by decide +kernel
theorem dtb_34 : decode prog_39_method_7_code 34 = .ok (.getfield 90, 3) := by decide +kernel
theorem dtb_37 : decode prog_39_method_7_code 37 = .ok (.invokespecial 93, 3) := by decide +kernel
theorem dtb_40 : decode prog_39_method_7_code 40 = .ok (.putfield 70, 3) := by decide +kernel
theorem dtb_43 : decode prog_39_method_7_code 43 = .ok (.aload_n 0, 1) := by decide +kernel
theorem dtb_44 : decode prog_39_method_7_code 44 = .ok (.getfield 70, 3) := by decide +kernel
theorem dtb_47 : decode prog_39_method_7_code 47 = .ok (.areturn, 1) := by decide +kernel
theorem own_eftb (m : MethodId) (a : Addr) : entryFrame m #[(.ref a)] 1 = mkF m 0 #[.val (.ref a)] [] := by first | (simp [entryFrame, mkF, argsToLocals, Value.category]; done) | rfl
set_option maxRecDepth 65536 in
set_option maxHeartbeats 40000000 in
theorem own_rmtb (l : Launch) (Z : State) (a0 : Array Value) (hw : ∀ d ∈ tables_1, d.before a0 Z = true) (a : Addr) (h0 : Heap) (n0 : Nat) (la ra ga nu ha : Addr) (kl kr kg kh : ClassId) (sg : own_S) (se : Nat) (ag : List Int32) (cs : List Addr) (O : Old Z n0 h0) (hSt : own_St Z h0 n0 a la ra ga nu ha kl kr kg kh sg se ag .null cs) :
    own_C l Z (⟨"com/example/obedient_dog/obedientdog/topologydiscovery/AgeLog", "table", "()Lcom/example/obedient_dog/obedientdog/topologydiscovery/AgeTable;"⟩ : MethodName) prog_39_method_7_code 1 (some (.object "com/example/obedient_dog/obedientdog/topologydiscovery/AgeTable")) [] ({ frames := 3, cells := 1, slots := 7, locals := 43 } : Room) #[(.ref a)] h0 (fun v h L => ∃ t, v = some (.ref t) ∧ Fr n0 L ∧ Keep h0 h [a] ∧ own_St Z h n0 a la ra ga nu ha kl kr kg kh sg sg.2.2.1 ag (.ref t) cs) := by
  refine own_body (plainFor_of_name own_pn1) fun p e s m below meth c s₁ hx hby hml hret hlk hown hnm hZ X0 e0 => ?_
  rw [own_eftb m a]
  have N0 := Fr.nil n0
  have K := Keep.refl h0 [a]
  obtain ⟨lt, rs, en, ch⟩ := sg
  obtain ⟨sz, pr, hs, ea, lr, F_a, V_la, V_ra, V_ga, hgl, E_nu, F_hashes_nu, V_ha, hinv, hcf, htb, ⟨ne_la_ra, ne_la_ga, ne_ra_ga, ne_ha_la, ne_ha_ra, ne_ha_ga⟩, ⟨g_a, g_la, g_ra, g_ga⟩, hne⟩ := hSt
  dsimp only at F_a V_la V_ra V_ga hcf hne ⊢
  have hea := hcf.refs.1
  have hlr := hcf.refs.2
  obtain ⟨E_a, F_latest_a, F_raised_a, F_ages_a, F_numbers_a, F_entries_a, F_size_a, F_sealed_a, F_present_a, F_hash_a, F_table_a, F_earlier_a, F_later_a⟩ := F_a
  have ne_a_la : a ≠ la := by
    obtain ⟨cb, Ab, -⟩ := V_la
    exact ne_arr E_a (hw _ (List.mem_of_getElem? (i := 1) rfl)) Ab
  have ne_a_ra : a ≠ ra := by
    obtain ⟨cb, Ab, -⟩ := V_ra
    exact ne_arr E_a (hw _ (List.mem_of_getElem? (i := 1) rfl)) Ab
  have ne_a_ga : a ≠ ga := by
    obtain ⟨cb, Ab, -⟩ := V_ga
    exact ne_arr E_a (hw _ (List.mem_of_getElem? (i := 1) rfl)) Ab
  have ne_a_ha : a ≠ ha := by
    obtain ⟨cb, Ab, -⟩ := V_ha
    exact ne_arr E_a (hw _ (List.mem_of_getElem? (i := 1) rfl)) Ab
  have ne_nu_la : nu ≠ la := by
    obtain ⟨cb, Ab, -⟩ := V_la
    exact ne_arr E_nu (hw _ (List.mem_of_getElem? (i := 4) rfl)) Ab
  have ne_nu_ra : nu ≠ ra := by
    obtain ⟨cb, Ab, -⟩ := V_ra
    exact ne_arr E_nu (hw _ (List.mem_of_getElem? (i := 4) rfl)) Ab
  have ne_nu_ga : nu ≠ ga := by
    obtain ⟨cb, Ab, -⟩ := V_ga
    exact ne_arr E_nu (hw _ (List.mem_of_getElem? (i := 4) rfl)) Ab
  have ne_nu_ha : nu ≠ ha := by
    obtain ⟨cb, Ab, -⟩ := V_ha
    exact ne_arr E_nu (hw _ (List.mem_of_getElem? (i := 4) rfl)) Ab
  have ne_a_nu : a ≠ nu := ne_exa E_a E_nu (by decide)
  have hcsa : ∀ x ∈ cs, x ∉ [a] := by
    intro x hx
    cases ch with
    | none => obtain ⟨-, -, rfl⟩ := hcf; cases hx
    | some q =>
      obtain ⟨xe, xl, ke, kl2, -, -, rfl, ⟨c1, A1, -⟩, ⟨c2, A2, -⟩, -⟩ := hcf
      simp only [List.mem_cons, List.not_mem_nil, or_false] at hx ⊢
      rcases hx with rfl | rfl
      · exact Ne.symm (ne_arr E_a (hw _ (List.mem_of_getElem? (i := 1) rfl)) A1)
      · exact Ne.symm (ne_arr E_a (hw _ (List.mem_of_getElem? (i := 1) rfl)) A2)
  have K0 := K
  refine own_go (U' := s₁.setTop (mkF m 1 #[.val (.ref a)] [(.ref a)])) (fun t k => XS.aloadN X0.here hx rfl (hb hby dtb_0) rfl rfl k) ?_
  obtain ⟨T1, X1, e1, st1⟩ := getF X0 hx hZ hown (host := "") (Or.inl (hw _ (List.mem_of_getElem? (i := 102) rfl))) Via.refl e0 F_table_a (g := (mkF m 1 #[.val (.ref a)] [(.ref a)])) rfl rfl (hb hby dtb_1)
  refine own_go (U' := T1.setTop (mkF m 4 #[.val (.ref a)] [.null])) st1 ?_
  refine own_go (U' := T1.setTop (mkF m 7 #[.val (.ref a)] [])) (fun t k => XS.ifnonnullNo X1.here hx rfl (hb hby dtb_4) rfl k) ?_
  refine own_go (U' := T1.setTop (mkF m 8 #[.val (.ref a)] [(.ref a)])) (fun t k => XS.aloadN X1.here hx rfl (hb hby dtb_7) rfl rfl k) ?_
  refine own_go (U' := T1.setTop (mkF m 9 #[.val (.ref a)] [(.ref a), (.ref a)])) (fun t k => XS.aloadN X1.here hx rfl (hb hby dtb_8) rfl rfl k) ?_
  obtain ⟨T2, X2, e2, st2⟩ := getF X1 hx hZ hown (host := "") (Or.inl (hw _ (List.mem_of_getElem? (i := 85) rfl))) Via.refl e1 F_entries_a (g := (mkF m 9 #[.val (.ref a)] [(.ref a), (.ref a)])) rfl rfl (hb hby dtb_9)
  refine own_go (U' := T2.setTop (mkF m 12 #[.val (.ref a)] [(.int (Int32.ofNat en)), (.ref a)])) st2 ?_
  obtain ⟨T3, h3, X3, e3, W3, st3⟩ := putF X2 hx hZ hown (host := "") (Or.inl (hw _ (List.mem_of_getElem? (i := 109) rfl))) Via.refl e2 F_sealed_a E_a (Or.inl (hw _ (List.mem_of_getElem? (i := 110) rfl))) (hw _ (List.mem_of_getElem? (i := 1) rfl)) (ty := .int) (by decide) rfl rfl (g := (mkF m 12 #[.val (.ref a)] [(.int (Int32.ofNat en)), (.ref a)])) rfl rfl (hb hby dtb_12)
  have K := K.wr W3 (Or.inl (List.mem_of_getElem? (i := 0) rfl))
  have O := O.wr W3 g_a
  have E_a := E_a.wr W3
  have F_latest_a := F_latest_a.other W3 (Or.inr (slot_ne (Or.inl (hw _ (List.mem_of_getElem? (i := 64) rfl))) (Or.inl (hw _ (List.mem_of_getElem? (i := 110) rfl))) (by decide) (t := (.array .int)) (t' := .int) (by decide) (by decide)))
  have F_raised_a := F_raised_a.other W3 (Or.inr (slot_ne (Or.inl (hw _ (List.mem_of_getElem? (i := 66) rfl))) (Or.inl (hw _ (List.mem_of_getElem? (i := 110) rfl))) (by decide) (t := (.array .int)) (t' := .int) (by decide) (by decide)))
  have F_ages_a := F_ages_a.other W3 (Or.inr (slot_ne (Or.inl (hw _ (List.mem_of_getElem? (i := 68) rfl))) (Or.inl (hw _ (List.mem_of_getElem? (i := 110) rfl))) (by decide) (t := (.array .int)) (t' := .int) (by decide) (by decide)))
  have F_numbers_a := F_numbers_a.other W3 (Or.inr (slot_ne (Or.inr (hw _ (List.mem_of_getElem? (i := 70) rfl))) (Or.inl (hw _ (List.mem_of_getElem? (i := 110) rfl))) (by decide) (t := (.object "com/example/obedient_dog/obedientdog/topologydiscovery/LinkNumbers")) (t' := .int) (by decide) (by decide)))
  have F_entries_a := F_entries_a.other W3 (Or.inr (slot_ne (Or.inl (hw _ (List.mem_of_getElem? (i := 86) rfl))) (Or.inl (hw _ (List.mem_of_getElem? (i := 110) rfl))) (by decide) (t := .int) (t' := .int) (by decide) (by decide)))
  have F_size_a := F_size_a.other W3 (Or.inr (slot_ne (Or.inl (hw _ (List.mem_of_getElem? (i := 88) rfl))) (Or.inl (hw _ (List.mem_of_getElem? (i := 110) rfl))) (by decide) (t := .int) (t' := .int) (by decide) (by decide)))
  have F_present_a := F_present_a.other W3 (Or.inr (slot_ne (Or.inl (hw _ (List.mem_of_getElem? (i := 94) rfl))) (Or.inl (hw _ (List.mem_of_getElem? (i := 110) rfl))) (by decide) (t := .int) (t' := .int) (by decide) (by decide)))
  have F_hash_a := F_hash_a.other W3 (Or.inr (slot_ne (Or.inl (hw _ (List.mem_of_getElem? (i := 96) rfl))) (Or.inl (hw _ (List.mem_of_getElem? (i := 110) rfl))) (by decide) (t := .int) (t' := .int) (by decide) (by decide)))
  have F_table_a := F_table_a.other W3 (Or.inr (slot_ne (Or.inl (hw _ (List.mem_of_getElem? (i := 103) rfl))) (Or.inl (hw _ (List.mem_of_getElem? (i := 110) rfl))) (by decide) (t := (.object "com/example/obedient_dog/obedientdog/topologydiscovery/AgeTable")) (t' := .int) (by decide) (by decide)))
  have F_earlier_a := F_earlier_a.other W3 (Or.inr (slot_ne (Or.inl (hw _ (List.mem_of_getElem? (i := 138) rfl))) (Or.inl (hw _ (List.mem_of_getElem? (i := 110) rfl))) (by decide) (t := (.array .int)) (t' := .int) (by decide) (by decide)))
  have F_later_a := F_later_a.other W3 (Or.inr (slot_ne (Or.inl (hw _ (List.mem_of_getElem? (i := 140) rfl))) (Or.inl (hw _ (List.mem_of_getElem? (i := 110) rfl))) (by decide) (t := (.array .int)) (t' := .int) (by decide) (by decide)))
  have E_nu := E_nu.wr W3
  have F_hashes_nu := F_hashes_nu.other W3 (Or.inl (Ne.symm ne_a_nu))
  have V_ha := V_ha.other W3 (Ne.symm ne_a_ha)
  have V_la := V_la.other W3 (Ne.symm ne_a_la)
  have V_ra := V_ra.other W3 (Ne.symm ne_a_ra)
  have V_ga := V_ga.other W3 (Ne.symm ne_a_ga)
  have F_sealed_a := F_sealed_a.same W3
  have N3 := Fr.snoc X3 N0 g_a
  refine own_go (U' := T3.setTop (mkF m 15 #[.val (.ref a)] [])) st3 ?_
  refine own_go (U' := T3.setTop (mkF m 16 #[.val (.ref a)] [(.ref a)])) (fun t k => XS.aloadN X3.here hx rfl (hb hby dtb_15) rfl rfl k) ?_
  obtain ⟨T4, h4, X4, e4, E4, A4, D4, -, st4⟩ := newO X3 hx hZ hown (hw _ (List.mem_of_getElem? (i := 111) rfl)) (hw _ (List.mem_of_getElem? (i := 112) rfl)) (hw _ (List.mem_of_getElem? (i := 113) rfl)) e3 (g := (mkF m 16 #[.val (.ref a)] [(.ref a)])) rfl (hb hby dtb_16) (by decide) (by decide)
  obtain ⟨b4, g4⟩ : ∃ z, z = h3.size := ⟨_, rfl⟩
  rw [← g4] at A4 D4 st4
  have ne_a_b4 : a ≠ b4 := Nat.ne_of_lt (Nat.lt_of_lt_of_eq E_a.lt g4.symm)
  have ne_nu_b4 : nu ≠ b4 := Nat.ne_of_lt (Nat.lt_of_lt_of_eq E_nu.lt g4.symm)
  have ne_ha_b4 : ha ≠ b4 := Nat.ne_of_lt (Nat.lt_of_lt_of_eq V_ha.lt g4.symm)
  have ne_la_b4 : la ≠ b4 := Nat.ne_of_lt (Nat.lt_of_lt_of_eq V_la.lt g4.symm)
  have ne_ra_b4 : ra ≠ b4 := Nat.ne_of_lt (Nat.lt_of_lt_of_eq V_ra.lt g4.symm)
  have ne_ga_b4 : ga ≠ b4 := Nat.ne_of_lt (Nat.lt_of_lt_of_eq V_ga.lt g4.symm)
  have g_b4 : n0 ≤ b4 := Nat.le_trans (Nat.le_trans (Nat.le_of_eq O.1.symm) O.2.1) (Nat.le_of_eq g4.symm)
  have sz_b4 : h0.size ≤ b4 := Nat.le_trans K.1 (Nat.le_of_eq g4.symm)
  have K := K.ext E4
  have O := O.ext E4
  have E_a := E_a.ext E4
  have F_latest_a := F_latest_a.ext E4
  have F_raised_a := F_raised_a.ext E4
  have F_ages_a := F_ages_a.ext E4
  have F_numbers_a := F_numbers_a.ext E4
  have F_entries_a := F_entries_a.ext E4
  have F_size_a := F_size_a.ext E4
  have F_sealed_a := F_sealed_a.ext E4
  have F_present_a := F_present_a.ext E4
  have F_hash_a := F_hash_a.ext E4
  have F_table_a := F_table_a.ext E4
  have F_earlier_a := F_earlier_a.ext E4
  have F_later_a := F_later_a.ext E4
  have E_nu := E_nu.ext E4
  have F_hashes_nu := F_hashes_nu.ext E4
  have V_ha := V_ha.ext E4
  have V_la := V_la.ext E4
  have V_ra := V_ra.ext E4
  have V_ga := V_ga.ext E4
  have E_b4 := A4
  have F_log_b4 : Fld Z h4 b4 "com/example/obedient_dog/obedientdog/topologydiscovery/AgeTable" "log" "Lcom/example/obedient_dog/obedientdog/topologydiscovery/AgeLog;" .null := D4 (Or.inr (hw _ (List.mem_of_getElem? (i := 119) rfl))) (ty := (.object "com/example/obedient_dog/obedientdog/topologydiscovery/AgeLog")) (by decide)
  have F_end_b4 : Fld Z h4 b4 "com/example/obedient_dog/obedientdog/topologydiscovery/AgeTable" "end" "I" (.int (0 : Int32)) := D4 (Or.inr (hw _ (List.mem_of_getElem? (i := 121) rfl))) (ty := .int) (by decide)
  have F_size_b4 : Fld Z h4 b4 "com/example/obedient_dog/obedientdog/topologydiscovery/AgeTable" "size" "I" (.int (0 : Int32)) := D4 (Or.inr (hw _ (List.mem_of_getElem? (i := 123) rfl))) (ty := .int) (by decide)
  have F_present_b4 : Fld Z h4 b4 "com/example/obedient_dog/obedientdog/topologydiscovery/AgeTable" "present" "I" (.int (0 : Int32)) := D4 (Or.inr (hw _ (List.mem_of_getElem? (i := 125) rfl))) (ty := .int) (by decide)
  have F_hash_b4 : Fld Z h4 b4 "com/example/obedient_dog/obedientdog/topologydiscovery/AgeTable" "hash" "I" (.int (0 : Int32)) := D4 (Or.inr (hw _ (List.mem_of_getElem? (i := 127) rfl))) (ty := .int) (by decide)
  refine own_go (U' := T4.setTop (mkF m 19 #[.val (.ref a)] [(.ref b4), (.ref a)])) st4 ?_
  refine own_go (U' := T4.setTop (mkF m 20 #[.val (.ref a)] [(.ref b4), (.ref b4), (.ref a)])) (fun t k => XS.dup X4.here hx rfl (hb hby dtb_19) rfl rfl k) ?_
  refine own_go (U' := T4.setTop (mkF m 21 #[.val (.ref a)] [(.ref a), (.ref b4), (.ref b4), (.ref a)])) (fun t k => XS.aloadN X4.here hx rfl (hb hby dtb_20) rfl rfl k) ?_
  refine own_go (U' := T4.setTop (mkF m 22 #[.val (.ref a)] [(.ref a), (.ref a), (.ref b4), (.ref b4), (.ref a)])) (fun t k => XS.aloadN X4.here hx rfl (hb hby dtb_21) rfl rfl k) ?_
  obtain ⟨T5, X5, e5, st5⟩ := getF X4 hx hZ hown (host := "") (Or.inl (hw _ (List.mem_of_getElem? (i := 85) rfl))) Via.refl e4 F_entries_a (g := (mkF m 22 #[.val (.ref a)] [(.ref a), (.ref a), (.ref b4), (.ref b4), (.ref a)])) rfl rfl (hb hby dtb_22)
  refine own_go (U' := T5.setTop (mkF m 25 #[.val (.ref a)] [(.int (Int32.ofNat en)), (.ref a), (.ref b4), (.ref b4), (.ref a)])) st5 ?_
  refine own_go (U' := T5.setTop (mkF m 26 #[.val (.ref a)] [(.ref a), (.int (Int32.ofNat en)), (.ref a), (.ref b4), (.ref b4), (.ref a)])) (fun t k => XS.aloadN X5.here hx rfl (hb hby dtb_25) rfl rfl k) ?_
  obtain ⟨T6, X6, e6, st6⟩ := getF X5 hx hZ hown (host := "") (Or.inl (hw _ (List.mem_of_getElem? (i := 87) rfl))) Via.refl e5 F_size_a (g := (mkF m 26 #[.val (.ref a)] [(.ref a), (.int (Int32.ofNat en)), (.ref a), (.ref b4), (.ref b4), (.ref a)])) rfl rfl (hb hby dtb_26)
  refine own_go (U' := T6.setTop (mkF m 29 #[.val (.ref a)] [(.int sz), (.int (Int32.ofNat en)), (.ref a), (.ref b4), (.ref b4), (.ref a)])) st6 ?_
  refine own_go (U' := T6.setTop (mkF m 30 #[.val (.ref a)] [(.ref a), (.int sz), (.int (Int32.ofNat en)), (.ref a), (.ref b4), (.ref b4), (.ref a)])) (fun t k => XS.aloadN X6.here hx rfl (hb hby dtb_29) rfl rfl k) ?_
  obtain ⟨T7, X7, e7, st7⟩ := getF X6 hx hZ hown (host := "") (Or.inl (hw _ (List.mem_of_getElem? (i := 93) rfl))) Via.refl e6 F_present_a (g := (mkF m 30 #[.val (.ref a)] [(.ref a), (.int sz), (.int (Int32.ofNat en)), (.ref a), (.ref b4), (.ref b4), (.ref a)])) rfl rfl (hb hby dtb_30)
  refine own_go (U' := T7.setTop (mkF m 33 #[.val (.ref a)] [(.int pr), (.int sz), (.int (Int32.ofNat en)), (.ref a), (.ref b4), (.ref b4), (.ref a)])) st7 ?_
  refine own_go (U' := T7.setTop (mkF m 34 #[.val (.ref a)] [(.ref a), (.int pr), (.int sz), (.int (Int32.ofNat en)), (.ref a), (.ref b4), (.ref b4), (.ref a)])) (fun t k => XS.aloadN X7.here hx rfl (hb hby dtb_33) rfl rfl k) ?_
  obtain ⟨T8, X8, e8, st8⟩ := getF X7 hx hZ hown (host := "") (Or.inl (hw _ (List.mem_of_getElem? (i := 95) rfl))) Via.refl e7 F_hash_a (g := (mkF m 34 #[.val (.ref a)] [(.ref a), (.int pr), (.int sz), (.int (Int32.ofNat en)), (.ref a), (.ref b4), (.ref b4), (.ref a)])) rfl rfl (hb hby dtb_34)
  refine own_go (U' := T8.setTop (mkF m 37 #[.val (.ref a)] [(.int hs), (.int pr), (.int sz), (.int (Int32.ofNat en)), (.ref a), (.ref b4), (.ref b4), (.ref a)])) st8 ?_
  obtain ⟨v9, T9, h9, L9, e9, X9, hQ9, st9⟩ := own_callC X8 hx hZ (y := (⟨"com/example/obedient_dog/obedientdog/topologydiscovery/AgeTable", "<init>", "(Lcom/example/obedient_dog/obedientdog/topologydiscovery/AgeLog;IIII)V"⟩ : MethodName)) rfl hown (hw _ (List.mem_of_getElem? (i := 114) rfl)) (hw _ (List.mem_of_getElem? (i := 115) rfl)) (hw _ (List.mem_of_getElem? (i := 113) rfl)) (hw _ (List.mem_of_getElem? (i := 116) rfl)) (by decide) (a := b4) (own_rmti l Z a0 hw b4 a _ _ _ _ h4 n0 g_b4 _ _ _ _ _ E_b4 F_log_b4 F_end_b4 F_size_b4 F_present_b4 F_hash_b4) (W := 2) (by decide) (by decide) (g := (mkF m 37 #[.val (.ref a)] [(.int hs), (.int pr), (.int sz), (.int (Int32.ofNat en)), (.ref a), (.ref b4), (.ref b4), (.ref a)])) rfl (by rw [hml]; rfl) (argsL := [(.ref a), (.int (Int32.ofNat en)), (.int sz), (.int pr), (.int hs)]) (rest := [(.ref b4), (.ref a)]) (lenOf own_pd6 rfl) rfl rfl (by show 2 * 0 + _ ≤ _; exact Nat.le_of_eq rfl) (hb hby dtb_37) e8 (by decide) (by decide)
  obtain ⟨rfl, Nq, Kq⟩ := hQ9
  have K := K.trans Kq (allS (Or.inr sz_b4) all0)
  have O := O.keep Kq (allS g_b4 all0)
  have E_a := E_a.keep Kq
  have F_latest_a := F_latest_a.keep Kq (ninS ne_a_b4 nin0)
  have F_raised_a := F_raised_a.keep Kq (ninS ne_a_b4 nin0)
  have F_ages_a := F_ages_a.keep Kq (ninS ne_a_b4 nin0)
  have F_numbers_a := F_numbers_a.keep Kq (ninS ne_a_b4 nin0)
  have F_entries_a := F_entries_a.keep Kq (ninS ne_a_b4 nin0)
  have F_size_a := F_size_a.keep Kq (ninS ne_a_b4 nin0)
  have F_sealed_a := F_sealed_a.keep Kq (ninS ne_a_b4 nin0)
  have F_present_a := F_present_a.keep Kq (ninS ne_a_b4 nin0)
  have F_hash_a := F_hash_a.keep Kq (ninS ne_a_b4 nin0)
  have F_table_a := F_table_a.keep Kq (ninS ne_a_b4 nin0)
  have F_earlier_a := F_earlier_a.keep Kq (ninS ne_a_b4 nin0)
  have F_later_a := F_later_a.keep Kq (ninS ne_a_b4 nin0)
  have E_nu := E_nu.keep Kq
  have F_hashes_nu := F_hashes_nu.keep Kq (ninS ne_nu_b4 nin0)
  have V_ha := V_ha.keep Kq (ninS ne_ha_b4 nin0)
  have V_la := V_la.keep Kq (ninS ne_la_b4 nin0)
  have V_ra := V_ra.keep Kq (ninS ne_ra_b4 nin0)
  have V_ga := V_ga.keep Kq (ninS ne_ga_b4 nin0)
  have E_b4 := E_b4.keep Kq
  have N9 := Fr.app N3 Nq
  refine own_go (U' := T9.setTop (mkF m 40 #[.val (.ref a)] [(.ref b4), (.ref a)])) st9 ?_
  obtain ⟨T10, h10, X10, e10, W10, st10⟩ := putF X9 hx hZ hown (host := "") (Or.inl (hw _ (List.mem_of_getElem? (i := 102) rfl))) Via.refl e9 F_table_a E_a (Or.inl (hw _ (List.mem_of_getElem? (i := 103) rfl))) (hw _ (List.mem_of_getElem? (i := 1) rfl)) (ty := (.object "com/example/obedient_dog/obedientdog/topologydiscovery/AgeTable")) (by decide) rfl rfl (g := (mkF m 40 #[.val (.ref a)] [(.ref b4), (.ref a)])) rfl rfl (hb hby dtb_40)
  have K := K.wr W10 (Or.inl (List.mem_of_getElem? (i := 0) rfl))
  have O := O.wr W10 g_a
  have E_a := E_a.wr W10
  have F_latest_a := F_latest_a.other W10 (Or.inr (slot_ne (Or.inl (hw _ (List.mem_of_getElem? (i := 64) rfl))) (Or.inl (hw _ (List.mem_of_getElem? (i := 103) rfl))) (by decide) (t := (.array .int)) (t' := (.object "com/example/obedient_dog/obedientdog/topologydiscovery/AgeTable")) (by decide) (by decide)))
  have F_raised_a := F_raised_a.other W10 (Or.inr (slot_ne (Or.inl (hw _ (List.mem_of_getElem? (i := 66) rfl))) (Or.inl (hw _ (List.mem_of_getElem? (i := 103) rfl))) (by decide) (t := (.array .int)) (t' := (.object "com/example/obedient_dog/obedientdog/topologydiscovery/AgeTable")) (by decide) (by decide)))
  have F_ages_a := F_ages_a.other W10 (Or.inr (slot_ne (Or.inl (hw _ (List.mem_of_getElem? (i := 68) rfl))) (Or.inl (hw _ (List.mem_of_getElem? (i := 103) rfl))) (by decide) (t := (.array .int)) (t' := (.object "com/example/obedient_dog/obedientdog/topologydiscovery/AgeTable")) (by decide) (by decide)))
  have F_numbers_a := F_numbers_a.other W10 (Or.inr (slot_ne (Or.inr (hw _ (List.mem_of_getElem? (i := 70) rfl))) (Or.inl (hw _ (List.mem_of_getElem? (i := 103) rfl))) (by decide) (t := (.object "com/example/obedient_dog/obedientdog/topologydiscovery/LinkNumbers")) (t' := (.object "com/example/obedient_dog/obedientdog/topologydiscovery/AgeTable")) (by decide) (by decide)))
  have F_entries_a := F_entries_a.other W10 (Or.inr (slot_ne (Or.inl (hw _ (List.mem_of_getElem? (i := 86) rfl))) (Or.inl (hw _ (List.mem_of_getElem? (i := 103) rfl))) (by decide) (t := .int) (t' := (.object "com/example/obedient_dog/obedientdog/topologydiscovery/AgeTable")) (by decide) (by decide)))
  have F_size_a := F_size_a.other W10 (Or.inr (slot_ne (Or.inl (hw _ (List.mem_of_getElem? (i := 88) rfl))) (Or.inl (hw _ (List.mem_of_getElem? (i := 103) rfl))) (by decide) (t := .int) (t' := (.object "com/example/obedient_dog/obedientdog/topologydiscovery/AgeTable")) (by decide) (by decide)))
  have F_sealed_a := F_sealed_a.other W10 (Or.inr (slot_ne (Or.inl (hw _ (List.mem_of_getElem? (i := 110) rfl))) (Or.inl (hw _ (List.mem_of_getElem? (i := 103) rfl))) (by decide) (t := .int) (t' := (.object "com/example/obedient_dog/obedientdog/topologydiscovery/AgeTable")) (by decide) (by decide)))
  have F_present_a := F_present_a.other W10 (Or.inr (slot_ne (Or.inl (hw _ (List.mem_of_getElem? (i := 94) rfl))) (Or.inl (hw _ (List.mem_of_getElem? (i := 103) rfl))) (by decide) (t := .int) (t' := (.object "com/example/obedient_dog/obedientdog/topologydiscovery/AgeTable")) (by decide) (by decide)))
  have F_hash_a := F_hash_a.other W10 (Or.inr (slot_ne (Or.inl (hw _ (List.mem_of_getElem? (i := 96) rfl))) (Or.inl (hw _ (List.mem_of_getElem? (i := 103) rfl))) (by decide) (t := .int) (t' := (.object "com/example/obedient_dog/obedientdog/topologydiscovery/AgeTable")) (by decide) (by decide)))
  have F_earlier_a := F_earlier_a.other W10 (Or.inr (slot_ne (Or.inl (hw _ (List.mem_of_getElem? (i := 138) rfl))) (Or.inl (hw _ (List.mem_of_getElem? (i := 103) rfl))) (by decide) (t := (.array .int)) (t' := (.object "com/example/obedient_dog/obedientdog/topologydiscovery/AgeTable")) (by decide) (by decide)))
  have F_later_a := F_later_a.other W10 (Or.inr (slot_ne (Or.inl (hw _ (List.mem_of_getElem? (i := 140) rfl))) (Or.inl (hw _ (List.mem_of_getElem? (i := 103) rfl))) (by decide) (t := (.array .int)) (t' := (.object "com/example/obedient_dog/obedientdog/topologydiscovery/AgeTable")) (by decide) (by decide)))
  have E_nu := E_nu.wr W10
  have F_hashes_nu := F_hashes_nu.other W10 (Or.inl (Ne.symm ne_a_nu))
  have V_ha := V_ha.other W10 (Ne.symm ne_a_ha)
  have V_la := V_la.other W10 (Ne.symm ne_a_la)
  have V_ra := V_ra.other W10 (Ne.symm ne_a_ra)
  have V_ga := V_ga.other W10 (Ne.symm ne_a_ga)
  have E_b4 := E_b4.wr W10
  have F_table_a := F_table_a.same W10
  have N10 := Fr.snoc X10 N9 g_a
  refine own_go (U' := T10.setTop (mkF m 43 #[.val (.ref a)] [])) st10 ?_
  refine own_go (U' := T10.setTop (mkF m 44 #[.val (.ref a)] [(.ref a)])) (fun t k => XS.aloadN X10.here hx rfl (hb hby dtb_43) rfl rfl k) ?_
  obtain ⟨T11, X11, e11, st11⟩ := getF X10 hx hZ hown (host := "") (Or.inl (hw _ (List.mem_of_getElem? (i := 102) rfl))) Via.refl e10 F_table_a (g := (mkF m 44 #[.val (.ref a)] [(.ref a)])) rfl rfl (hb hby dtb_44)
  refine own_go (U' := T11.setTop (mkF m 47 #[.val (.ref a)] [(.ref b4)])) st11 ?_
  refine own_retA X11 hx (t := (.object "com/example/obedient_dog/obedientdog/topologydiscovery/AgeTable")) hret rfl hlk rfl (hb hby dtb_47) ?_ (by decide) (by decide)
  rw [e11]
  have hcf := hcf.keep K hcsa
  obtain ⟨i1, i2, i3, i4, i5⟩ := hinv
  exact ⟨_, rfl, N10, K, ⟨_, _, _, _, _, ⟨E_a, F_latest_a, F_raised_a, F_ages_a, F_numbers_a, F_entries_a, F_size_a, F_sealed_a, F_present_a, F_hash_a, F_table_a, F_earlier_a, F_later_a⟩, V_la, V_ra, V_ga, hgl, E_nu, F_hashes_nu, V_ha, ⟨i1, i2, i3, Nat.le_refl _, i5⟩, hcf, rfl, ⟨ne_la_ra, ne_la_ga, ne_ra_ga, ne_ha_la, ne_ha_ra, ne_ha_ga⟩, ⟨g_a, g_la, g_ra, g_ga⟩, hne⟩⟩
theorem dac_0 : decode jdk_22_method_1_code 0 = .ok (.aload_n 0, 1) := by decide +kernel
theorem dac_1 : decode jdk_22_method_1_code 1 = .ok (.invokespecial 1, 3) := by decide +kernel
theorem dac_4 : decode jdk_22_method_1_code 4 = .ok (.return_, 1) := by decide +kernel
theorem own_pn4 : plainName "java/util/AbstractCollection" = true := by first | (simp [plainName, overriddenIn]; done) | decide +kernel
theorem own_efac (m : MethodId) (a : Addr) : entryFrame m #[(.ref a)] 1 = mkF m 0 #[.val (.ref a)] [] := by first | (simp [entryFrame, mkF, argsToLocals, Value.category]; done) | rfl
set_option maxRecDepth 65536 in
set_option maxHeartbeats 40000000 in
theorem own_rmac (l : Launch) (Z : State) (a0 : Array Value) (hw : ∀ d ∈ tables_1, d.before a0 Z = true) (a : Addr) (h0 : Heap)  :
    own_C l Z (⟨"java/util/AbstractCollection", "<init>", "()V"⟩ : MethodName) jdk_22_method_1_code 1 none [] ({ frames := 1, cells := 0, slots := 0, locals := 12 } : Room) #[(.ref a)] h0 (fun v h L => v = none ∧ L = [] ∧ h = h0) := by
  refine own_body (plainFor_of_name own_pn4) fun p e s m below meth c s₁ hx hby hml hret hlk hown hnm hZ X0 e0 => ?_
  rw [own_efac m a]
  refine own_go (U' := s₁.setTop (mkF m 1 #[.val (.ref a)] [(.ref a)])) (fun t k => XS.aloadN X0.here hx rfl (hb hby dac_0) rfl rfl k) ?_
  obtain ⟨T1, X1, e1, st1⟩ := initO X0 hx hZ hown (hw _ (List.mem_of_getElem? (i := 48) rfl)) (hw _ (List.mem_of_getElem? (i := 10) rfl)) (hw _ (List.mem_of_getElem? (i := 11) rfl)) e0 (g := (mkF m 1 #[.val (.ref a)] [(.ref a)])) rfl (by rw [hml]; rfl) rfl (hb hby dac_1) (by decide) (W := 0) (by show 2 * 0 + _ ≤ _; exact Nat.le_of_eq rfl) (by decide)
  refine own_go (U' := T1.setTop (mkF m 4 #[.val (.ref a)] [])) st1 ?_
  refine own_retV X1 hx hret hlk (hb hby dac_4) ?_ (by decide) (by decide)
  exact ⟨rfl, rfl, e1⟩
theorem dab_0 : decode jdk_39_method_1_code 0 = .ok (.aload_n 0, 1) := by decide +kernel
theorem dab_1 : decode jdk_39_method_1_code 1 = .ok (.invokespecial 1, 3) := by decide +kernel
theorem dab_4 : decode jdk_39_method_1_code 4 = .ok (.aload_n 0, 1) := by decide +kernel
theorem dab_5 : decode jdk_39_method_1_code 5 = .ok (.iconst 0, 1) := by decide +kernel
theorem dab_6 : decode jdk_39_method_1_code 6 = .ok (.putfield 7, 3) := by decide +kernel
theorem dab_9 : decode jdk_39_method_1_code 9 = .ok (.return_, 1) := by decide +kernel
theorem own_pn5 : plainName "java/util/AbstractList" = true := by first | (simp [plainName, overriddenIn]; done) | decide +kernel
theorem own_efab (m : MethodId) (a : Addr) : entryFrame m #[(.ref a)] 1 = mkF m 0 #[.val (.ref a)] [] := by first | (simp [entryFrame, mkF, argsToLocals, Value.category]; done) | rfl
set_option maxRecDepth 65536 in
set_option maxHeartbeats 40000000 in
theorem own_rmab (l : Launch) (Z : State) (a0 : Array Value) (hw : ∀ d ∈ tables_1, d.before a0 Z = true) (a : Addr) (h0 : Heap) (n0 : Nat) (g_a : n0 ≤ a) (u0 u1 : Value) (E_a : Exa Z h0 a "java/util/ArrayList") (F_modCount_a : Fld Z h0 a "java/util/AbstractList" "modCount" "I" u0) (F_elementData_a : Fld Z h0 a "java/util/ArrayList" "elementData" "[Ljava/lang/Object;" u1) :
    own_C l Z (⟨"java/util/AbstractList", "<init>", "()V"⟩ : MethodName) jdk_39_method_1_code 1 none [] ({ frames := 2, cells := 0, slots := 0, locals := 24 } : Room) #[(.ref a)] h0 (fun v h L => v = none ∧ Fr n0 L ∧ Keep h0 h [a] ∧ Fld Z h a "java/util/AbstractList" "modCount" "I" (.int 0) ∧ Fld Z h a "java/util/ArrayList" "elementData" "[Ljava/lang/Object;" u1) := by
  refine own_body (plainFor_of_name own_pn5) fun p e s m below meth c s₁ hx hby hml hret hlk hown hnm hZ X0 e0 => ?_
  rw [own_efab m a]
  have N0 := Fr.nil n0
  have K := Keep.refl h0 [a]
  refine own_go (U' := s₁.setTop (mkF m 1 #[.val (.ref a)] [(.ref a)])) (fun t k => XS.aloadN X0.here hx rfl (hb hby dab_0) rfl rfl k) ?_
  obtain ⟨v1, T1, h1, L1, e1, X1, hQ1, st1⟩ := own_callC X0 hx hZ (y := (⟨"java/util/AbstractCollection", "<init>", "()V"⟩ : MethodName)) rfl hown (hw _ (List.mem_of_getElem? (i := 42) rfl)) (hw _ (List.mem_of_getElem? (i := 43) rfl)) (hw _ (List.mem_of_getElem? (i := 46) rfl)) (hw _ (List.mem_of_getElem? (i := 47) rfl)) (by decide) (a := a) (own_rmac l Z a0 hw a h0) (W := 0) (by decide) (by decide) (g := (mkF m 1 #[.val (.ref a)] [(.ref a)])) rfl (by rw [hml]; rfl) (argsL := []) (rest := []) (lenOf own_pd4 rfl) rfl rfl (by show 2 * 0 + _ ≤ _; exact Nat.le_of_eq rfl) (hb hby dab_1) e0 (by decide) (by decide)
  obtain ⟨rfl, rfl, eh1⟩ := hQ1
  have e1 := e1.trans eh1
  rw [List.append_nil] at X1
  refine own_go (U' := T1.setTop (mkF m 4 #[.val (.ref a)] [])) st1 ?_
  refine own_go (U' := T1.setTop (mkF m 5 #[.val (.ref a)] [(.ref a)])) (fun t k => XS.aloadN X1.here hx rfl (hb hby dab_4) rfl rfl k) ?_
  refine own_go (U' := T1.setTop (mkF m 6 #[.val (.ref a)] [(.int (0 : Int32)), (.ref a)])) (fun t k => XS.iconst X1.here hx rfl (hb hby dab_5) k) ?_
  obtain ⟨T2, h2, X2, e2, W2, st2⟩ := putF X1 hx hZ hown (host := "") (Or.inl (hw _ (List.mem_of_getElem? (i := 49) rfl))) Via.refl e1 F_modCount_a E_a (Or.inl (hw _ (List.mem_of_getElem? (i := 50) rfl))) (hw _ (List.mem_of_getElem? (i := 31) rfl)) (ty := .int) (by decide) rfl rfl (g := (mkF m 6 #[.val (.ref a)] [(.int (0 : Int32)), (.ref a)])) rfl rfl (hb hby dab_6)
  have K := K.wr W2 (Or.inl (List.mem_of_getElem? (i := 0) rfl))
  have E_a := E_a.wr W2
  have F_elementData_a := F_elementData_a.other W2 (Or.inr (slot_ne (Or.inl (hw _ (List.mem_of_getElem? (i := 53) rfl))) (Or.inl (hw _ (List.mem_of_getElem? (i := 50) rfl))) (by decide) (t := (.array (.object "java/lang/Object"))) (t' := .int) (by decide) (by decide)))
  have F_modCount_a := F_modCount_a.same W2
  have N2 := Fr.snoc X2 N0 g_a
  refine own_go (U' := T2.setTop (mkF m 9 #[.val (.ref a)] [])) st2 ?_
  refine own_retV X2 hx hret hlk (hb hby dab_9) ?_ (by decide) (by decide)
  rw [e2]
  exact ⟨rfl, N2, K, F_modCount_a, F_elementData_a⟩
theorem dal_0 : decode jdk_38_method_2_code 0 = .ok (.aload_n 0, 1) := by decide +kernel
theorem dal_1 : decode jdk_38_method_2_code 1 = .ok (.invokespecial 1, 3) := by decide +kernel
theorem dal_4 : decode jdk_38_method_2_code 4 = .ok (.aload_n 0, 1) := by decide +kernel
theorem dal_5 : decode jdk_38_method_2_code 5 = .ok (.getstatic 39, 3) := by decide +kernel
theorem dal_8 : decode jdk_38_method_2_code 8 = .ok (.putfield 9, 3) := by decide +kernel
theorem dal_11 : decode jdk_38_method_2_code 11 = .ok (.return_, 1) := by decide +kernel
theorem own_pn6 : plainName "java/util/ArrayList" = true := by first | (simp [plainName, overriddenIn]; done) | decide +kernel
theorem own_efal (m : MethodId) (a : Addr) : entryFrame m #[(.ref a)] 1 = mkF m 0 #[.val (.ref a)] [] := by first | (simp [entryFrame, mkF, argsToLocals, Value.category]; done) | rfl
set_option maxRecDepth 65536 in
set_option maxHeartbeats 40000000 in
theorem own_rmal (l : Launch) (Z : State) (a0 : Array Value) (hw : ∀ d ∈ tables_1, d.before a0 Z = true) (a : Addr) (h0 : Heap) (n0 : Nat) (g_a : n0 ≤ a) (u0 u1 : Value) (dd : Addr) (O : Old Z n0 h0) (S_dd : Sta Z Z.heap "java/util/ArrayList" "DEFAULTCAPACITY_EMPTY_ELEMENTDATA" "[Ljava/lang/Object;" (.ref dd)) (E_a : Exa Z h0 a "java/util/ArrayList") (F_modCount_a : Fld Z h0 a "java/util/AbstractList" "modCount" "I" u0) (F_elementData_a : Fld Z h0 a "java/util/ArrayList" "elementData" "[Ljava/lang/Object;" u1) :
    own_C l Z (⟨"java/util/ArrayList", "<init>", "()V"⟩ : MethodName) jdk_38_method_2_code 1 none [] ({ frames := 3, cells := 0, slots := 0, locals := 36 } : Room) #[(.ref a)] h0 (fun v h L => v = none ∧ Fr n0 L ∧ Keep h0 h [a] ∧ Fld Z h a "java/util/AbstractList" "modCount" "I" (.int 0) ∧ Fld Z h a "java/util/ArrayList" "elementData" "[Ljava/lang/Object;" (.ref dd)) := by
  refine own_body (plainFor_of_name own_pn6) fun p e s m below meth c s₁ hx hby hml hret hlk hown hnm hZ X0 e0 => ?_
  rw [own_efal m a]
  have N0 := Fr.nil n0
  have K := Keep.refl h0 [a]
  refine own_go (U' := s₁.setTop (mkF m 1 #[.val (.ref a)] [(.ref a)])) (fun t k => XS.aloadN X0.here hx rfl (hb hby dal_0) rfl rfl k) ?_
  obtain ⟨v1, T1, h1, L1, e1, X1, hQ1, st1⟩ := own_callC X0 hx hZ (y := (⟨"java/util/AbstractList", "<init>", "()V"⟩ : MethodName)) rfl hown (hw _ (List.mem_of_getElem? (i := 36) rfl)) (hw _ (List.mem_of_getElem? (i := 37) rfl)) (hw _ (List.mem_of_getElem? (i := 40) rfl)) (hw _ (List.mem_of_getElem? (i := 41) rfl)) (by decide) (a := a) (own_rmab l Z a0 hw a h0 n0 g_a u0 u1 E_a F_modCount_a F_elementData_a) (W := 0) (by decide) (by decide) (g := (mkF m 1 #[.val (.ref a)] [(.ref a)])) rfl (by rw [hml]; rfl) (argsL := []) (rest := []) (lenOf own_pd4 rfl) rfl rfl (by show 2 * 0 + _ ≤ _; exact Nat.le_of_eq rfl) (hb hby dal_1) e0 (by decide) (by decide)
  obtain ⟨rfl, Nq, Kq, F_modCount_a, F_elementData_a⟩ := hQ1
  have K := K.trans Kq (allS (Or.inl (List.mem_of_getElem? (i := 0) rfl)) all0)
  have O := O.keep Kq (allS g_a all0)
  have E_a := E_a.keep Kq
  have N1 := Fr.app N0 Nq
  refine own_go (U' := T1.setTop (mkF m 4 #[.val (.ref a)] [])) st1 ?_
  refine own_go (U' := T1.setTop (mkF m 5 #[.val (.ref a)] [(.ref a)])) (fun t k => XS.aloadN X1.here hx rfl (hb hby dal_4) rfl rfl k) ?_
  obtain ⟨T2, X2, e2, st2⟩ := getS2 X1 hx hZ hown (host := "") (Or.inl (hw _ (List.mem_of_getElem? (i := 51) rfl))) Via.refl e1 (S_dd.ext O.2) (g := (mkF m 5 #[.val (.ref a)] [(.ref a)])) rfl (hb hby dal_5)
  refine own_go (U' := T2.setTop (mkF m 8 #[.val (.ref a)] [(.ref dd), (.ref a)])) st2 ?_
  obtain ⟨T3, h3, X3, e3, W3, st3⟩ := putF X2 hx hZ hown (host := "") (Or.inl (hw _ (List.mem_of_getElem? (i := 52) rfl))) Via.refl e2 F_elementData_a E_a (Or.inl (hw _ (List.mem_of_getElem? (i := 53) rfl))) (hw _ (List.mem_of_getElem? (i := 31) rfl)) (ty := (.array (.object "java/lang/Object"))) (by decide) rfl rfl (g := (mkF m 8 #[.val (.ref a)] [(.ref dd), (.ref a)])) rfl rfl (hb hby dal_8)
  have K := K.wr W3 (Or.inl (List.mem_of_getElem? (i := 0) rfl))
  have O := O.wr W3 g_a
  have E_a := E_a.wr W3
  have F_modCount_a := F_modCount_a.other W3 (Or.inr (slot_ne (Or.inl (hw _ (List.mem_of_getElem? (i := 50) rfl))) (Or.inl (hw _ (List.mem_of_getElem? (i := 53) rfl))) (by decide) (t := .int) (t' := (.array (.object "java/lang/Object"))) (by decide) (by decide)))
  have F_elementData_a := F_elementData_a.same W3
  have N3 := Fr.snoc X3 N1 g_a
  refine own_go (U' := T3.setTop (mkF m 11 #[.val (.ref a)] [])) st3 ?_
  refine own_retV X3 hx hret hlk (hb hby dal_11) ?_ (by decide) (by decide)
  rw [e3]
  exact ⟨rfl, N3, K, F_modCount_a, F_elementData_a⟩
theorem dhm_0 : decode jdk_69_method_7_code 0 = .ok (.aload_n 0, 1) := by decide +kernel
theorem dhm_1 : decode jdk_69_method_7_code 1 = .ok (.invokespecial 43, 3) := by decide +kernel
theorem dhm_4 : decode jdk_69_method_7_code 4 = .ok (.aload_n 0, 1) := by decide +kernel
theorem dhm_5 : decode jdk_69_method_7_code 5 = .ok (.ldc 92, 2) := by decide +kernel
theorem dhm_7 : decode jdk_69_method_7_code 7 = .ok (.putfield 81, 3) := by decide +kernel
theorem dhm_10 : decode jdk_69_method_7_code 10 = .ok (.return_, 1) := by decide +kernel
theorem own_pn7 : plainName "java/util/HashMap" = true := by first | (simp [plainName, overriddenIn]; done) | decide +kernel
theorem own_efhm (m : MethodId) (a : Addr) : entryFrame m #[(.ref a)] 1 = mkF m 0 #[.val (.ref a)] [] := by first | (simp [entryFrame, mkF, argsToLocals, Value.category]; done) | rfl
set_option maxRecDepth 65536 in
set_option maxHeartbeats 40000000 in
theorem own_rmhm (l : Launch) (Z : State) (a0 : Array Value) (hw : ∀ d ∈ tables_1, d.before a0 Z = true) (a : Addr) (h0 : Heap) (n0 : Nat) (g_a : n0 ≤ a) (u0 : Value) (E_a : Exa Z h0 a "java/util/HashMap") (F_loadFactor_a : Fld Z h0 a "java/util/HashMap" "loadFactor" "F" u0) :
    own_C l Z (⟨"java/util/HashMap", "<init>", "()V"⟩ : MethodName) jdk_69_method_7_code 1 none [] ({ frames := 2, cells := 0, slots := 0, locals := 24 } : Room) #[(.ref a)] h0 (fun v h L => v = none ∧ Fr n0 L ∧ Keep h0 h [a]) := by
  refine own_body (plainFor_of_name own_pn7) fun p e s m below meth c s₁ hx hby hml hret hlk hown hnm hZ X0 e0 => ?_
  rw [own_efhm m a]
  have N0 := Fr.nil n0
  have K := Keep.refl h0 [a]
  refine own_go (U' := s₁.setTop (mkF m 1 #[.val (.ref a)] [(.ref a)])) (fun t k => XS.aloadN X0.here hx rfl (hb hby dhm_0) rfl rfl k) ?_
  obtain ⟨v1, T1, h1, L1, e1, X1, hQ1, st1⟩ := own_callC X0 hx hZ (y := (⟨"java/util/AbstractMap", "<init>", "()V"⟩ : MethodName)) rfl hown (hw _ (List.mem_of_getElem? (i := 18) rfl)) (hw _ (List.mem_of_getElem? (i := 19) rfl)) (hw _ (List.mem_of_getElem? (i := 22) rfl)) (hw _ (List.mem_of_getElem? (i := 23) rfl)) (by decide) (a := a) (own_rmam l Z a0 hw a h0) (W := 0) (by decide) (by decide) (g := (mkF m 1 #[.val (.ref a)] [(.ref a)])) rfl (by rw [hml]; rfl) (argsL := []) (rest := []) (lenOf own_pd4 rfl) rfl rfl (by show 2 * 0 + _ ≤ _; exact Nat.le_of_eq rfl) (hb hby dhm_1) e0 (by decide) (by decide)
  obtain ⟨rfl, rfl, eh1⟩ := hQ1
  have e1 := e1.trans eh1
  rw [List.append_nil] at X1
  refine own_go (U' := T1.setTop (mkF m 4 #[.val (.ref a)] [])) st1 ?_
  refine own_go (U' := T1.setTop (mkF m 5 #[.val (.ref a)] [(.ref a)])) (fun t k => XS.aloadN X1.here hx rfl (hb hby dhm_4) rfl rfl k) ?_
  refine own_go (U' := T1.setTop (mkF m 7 #[.val (.ref a)] [(.float (1061158912 : UInt32)), (.ref a)])) (fun t k => own_ldcF X1 hx hZ hown (hw _ (List.mem_of_getElem? (i := 25) rfl)) (g := (mkF m 5 #[.val (.ref a)] [(.ref a)])) rfl (hb hby dhm_5) _ k) ?_
  obtain ⟨T2, h2, X2, e2, W2, st2⟩ := putF X1 hx hZ hown (host := "") (Or.inl (hw _ (List.mem_of_getElem? (i := 26) rfl))) Via.refl e1 F_loadFactor_a E_a (Or.inr ⟨(hw _ (List.mem_of_getElem? (i := 27) rfl)), rfl, hnm⟩) (hw _ (List.mem_of_getElem? (i := 13) rfl)) (ty := .float) (by decide) rfl rfl (g := (mkF m 7 #[.val (.ref a)] [(.float (1061158912 : UInt32)), (.ref a)])) rfl rfl (hb hby dhm_7)
  have K := K.wr W2 (Or.inl (List.mem_of_getElem? (i := 0) rfl))
  have E_a := E_a.wr W2
  have F_loadFactor_a := F_loadFactor_a.same W2
  have N2 := Fr.snoc X2 N0 g_a
  refine own_go (U' := T2.setTop (mkF m 10 #[.val (.ref a)] [])) st2 ?_
  refine own_retV X2 hx hret hlk (hb hby dhm_10) ?_ (by decide) (by decide)
  rw [e2]
  exact ⟨rfl, N2, K⟩
theorem dli_0 : decode prog_46_method_1_code 0 = .ok (.aload_n 0, 1) := by decide +kernel
theorem dli_1 : decode prog_46_method_1_code 1 = .ok (.invokespecial 1, 3) := by decide +kernel
theorem dli_4 : decode prog_46_method_1_code 4 = .ok (.aload_n 0, 1) := by decide +kernel
theorem dli_5 : decode prog_46_method_1_code 5 = .ok (.new 7, 3) := by decide +kernel
theorem dli_8 : decode prog_46_method_1_code 8 = .ok (.dup, 1) := by decide +kernel
theorem dli_9 : decode prog_46_method_1_code 9 = .ok (.invokespecial 9, 3) := by decide +kernel
theorem dli_12 : decode prog_46_method_1_code 12 = .ok (.putfield 10, 3) := by decide +kernel
theorem dli_15 : decode prog_46_method_1_code 15 = .ok (.aload_n 0, 1) := by decide +kernel
theorem dli_16 : decode prog_46_method_1_code 16 = .ok (.new 16, 3) := by decide +kernel
theorem dli_19 : decode prog_46_method_1_code 19 = .ok (.dup, 1) := by decide +kernel
theorem dli_20 : decode prog_46_method_1_code 20 = .ok (.invokespecial 18, 3) := by decide +kernel
theorem dli_23 : decode prog_46_method_1_code 23 = .ok (.putfield 19, 3) := by decide +kernel
theorem dli_26 : decode prog_46_method_1_code 26 = .ok (.aload_n 0, 1) := by decide +kernel
theorem dli_27 : decode prog_46_method_1_code 27 = .ok (.bipush 16, 2) := by decide +kernel
theorem dli_29 : decode prog_46_method_1_code 29 = .ok (.newarray .int, 2) := by decide +kernel
theorem dli_31 : decode prog_46_method_1_code 31 = .ok (.putfield 23, 3) := by decide +kernel
theorem dli_34 : decode prog_46_method_1_code 34 = .ok (.return_, 1) := by decide +kernel
theorem own_efli (m : MethodId) (a : Addr) : entryFrame m #[(.ref a)] 1 = mkF m 0 #[.val (.ref a)] [] := by first | (simp [entryFrame, mkF, argsToLocals, Value.category]; done) | rfl
set_option maxRecDepth 65536 in
set_option maxHeartbeats 40000000 in
theorem own_rmli (l : Launch) (Z : State) (a0 : Array Value) (hw : ∀ d ∈ tables_1, d.before a0 Z = true) (a : Addr) (h0 : Heap) (n0 : Nat) (g_a : n0 ≤ a) (u0 u1 u2 : Value) (dd : Addr) (O : Old Z n0 h0) (S_dd : Sta Z Z.heap "java/util/ArrayList" "DEFAULTCAPACITY_EMPTY_ELEMENTDATA" "[Ljava/lang/Object;" (.ref dd)) (E_a : Exa Z h0 a "com/example/obedient_dog/obedientdog/topologydiscovery/LinkNumbers") (F_numbers_a : Fld Z h0 a "com/example/obedient_dog/obedientdog/topologydiscovery/LinkNumbers" "numbers" "Ljava/util/Map;" u0) (F_links_a : Fld Z h0 a "com/example/obedient_dog/obedientdog/topologydiscovery/LinkNumbers" "links" "Ljava/util/List;" u1) (F_hashes_a : Fld Z h0 a "com/example/obedient_dog/obedientdog/topologydiscovery/LinkNumbers" "hashes" "[I" u2) :
    own_C l Z (⟨"com/example/obedient_dog/obedientdog/topologydiscovery/LinkNumbers", "<init>", "()V"⟩ : MethodName) prog_46_method_1_code 1 none [] ({ frames := 4, cells := 3, slots := 27, locals := 51 } : Room) #[(.ref a)] h0 (fun v h L => v = none ∧ Fr n0 L ∧ Keep h0 h [a] ∧ ∃ ha kh, Fld Z h a "com/example/obedient_dog/obedientdog/topologydiscovery/LinkNumbers" "hashes" "[I" (.ref ha) ∧ own_Ar Z h ha kh .int own_zs ∧ h0.size ≤ ha) := by
  refine own_body (plainFor_of_name own_pn0) fun p e s m below meth c s₁ hx hby hml hret hlk hown hnm hZ X0 e0 => ?_
  rw [own_efli m a]
  have N0 := Fr.nil n0
  have K := Keep.refl h0 [a]
  refine own_go (U' := s₁.setTop (mkF m 1 #[.val (.ref a)] [(.ref a)])) (fun t k => XS.aloadN X0.here hx rfl (hb hby dli_0) rfl rfl k) ?_
  obtain ⟨T1, X1, e1, st1⟩ := initO X0 hx hZ hown (hw _ (List.mem_of_getElem? (i := 9) rfl)) (hw _ (List.mem_of_getElem? (i := 10) rfl)) (hw _ (List.mem_of_getElem? (i := 11) rfl)) e0 (g := (mkF m 1 #[.val (.ref a)] [(.ref a)])) rfl (by rw [hml]; rfl) rfl (hb hby dli_1) (by decide) (W := 0) (by show 2 * 0 + _ ≤ _; exact Nat.le_of_eq rfl) (by decide)
  refine own_go (U' := T1.setTop (mkF m 4 #[.val (.ref a)] [])) st1 ?_
  refine own_go (U' := T1.setTop (mkF m 5 #[.val (.ref a)] [(.ref a)])) (fun t k => XS.aloadN X1.here hx rfl (hb hby dli_4) rfl rfl k) ?_
  obtain ⟨T2, h2, X2, e2, E2, A2, D2, -, st2⟩ := newO X1 hx hZ hown (hw _ (List.mem_of_getElem? (i := 12) rfl)) (hw _ (List.mem_of_getElem? (i := 13) rfl)) (hw _ (List.mem_of_getElem? (i := 14) rfl)) e1 (g := (mkF m 5 #[.val (.ref a)] [(.ref a)])) rfl (hb hby dli_5) (by decide) (by decide)
  obtain ⟨b2, g2⟩ : ∃ z, z = h0.size := ⟨_, rfl⟩
  rw [← g2] at A2 D2 st2
  have ne_a_b2 : a ≠ b2 := Nat.ne_of_lt (Nat.lt_of_lt_of_eq E_a.lt g2.symm)
  have g_b2 : n0 ≤ b2 := Nat.le_trans (Nat.le_trans (Nat.le_of_eq O.1.symm) O.2.1) (Nat.le_of_eq g2.symm)
  have sz_b2 : h0.size ≤ b2 := Nat.le_trans K.1 (Nat.le_of_eq g2.symm)
  have K := K.ext E2
  have O := O.ext E2
  have E_a := E_a.ext E2
  have F_numbers_a := F_numbers_a.ext E2
  have F_links_a := F_links_a.ext E2
  have F_hashes_a := F_hashes_a.ext E2
  have E_b2 := A2
  have F_loadFactor_b2 : Fld Z h2 b2 "java/util/HashMap" "loadFactor" "F" (defaultValue .float) := D2 (Or.inr (hw _ (List.mem_of_getElem? (i := 27) rfl))) (ty := .float) (by decide)
  refine own_go (U' := T2.setTop (mkF m 8 #[.val (.ref a)] [(.ref b2), (.ref a)])) st2 ?_
  refine own_go (U' := T2.setTop (mkF m 9 #[.val (.ref a)] [(.ref b2), (.ref b2), (.ref a)])) (fun t k => XS.dup X2.here hx rfl (hb hby dli_8) rfl rfl k) ?_
  obtain ⟨v3, T3, h3, L3, e3, X3, hQ3, st3⟩ := own_callC X2 hx hZ (y := (⟨"java/util/HashMap", "<init>", "()V"⟩ : MethodName)) rfl hown (hw _ (List.mem_of_getElem? (i := 15) rfl)) (hw _ (List.mem_of_getElem? (i := 16) rfl)) (hw _ (List.mem_of_getElem? (i := 14) rfl)) (hw _ (List.mem_of_getElem? (i := 17) rfl)) (by decide) (a := b2) (own_rmhm l Z a0 hw b2 h2 n0 g_b2 _ E_b2 F_loadFactor_b2) (W := 2) (by decide) (by decide) (g := (mkF m 9 #[.val (.ref a)] [(.ref b2), (.ref b2), (.ref a)])) rfl (by rw [hml]; rfl) (argsL := []) (rest := [(.ref b2), (.ref a)]) (lenOf own_pd4 rfl) rfl rfl (by show 2 * 0 + _ ≤ _; exact Nat.le_of_eq rfl) (hb hby dli_9) e2 (by decide) (by decide)
  obtain ⟨rfl, Nq, Kq⟩ := hQ3
  have K := K.trans Kq (allS (Or.inr sz_b2) all0)
  have O := O.keep Kq (allS g_b2 all0)
  have E_a := E_a.keep Kq
  have F_numbers_a := F_numbers_a.keep Kq (ninS ne_a_b2 nin0)
  have F_links_a := F_links_a.keep Kq (ninS ne_a_b2 nin0)
  have F_hashes_a := F_hashes_a.keep Kq (ninS ne_a_b2 nin0)
  have E_b2 := E_b2.keep Kq
  have N3 := Fr.app N0 Nq
  refine own_go (U' := T3.setTop (mkF m 12 #[.val (.ref a)] [(.ref b2), (.ref a)])) st3 ?_
  obtain ⟨T4, h4, X4, e4, W4, st4⟩ := putF X3 hx hZ hown (host := "") (Or.inl (hw _ (List.mem_of_getElem? (i := 28) rfl))) Via.refl e3 F_numbers_a E_a (Or.inr ⟨(hw _ (List.mem_of_getElem? (i := 29) rfl)), rfl, hnm⟩) (hw _ (List.mem_of_getElem? (i := 4) rfl)) (ty := (.object "java/util/Map")) (by decide) rfl rfl (g := (mkF m 12 #[.val (.ref a)] [(.ref b2), (.ref a)])) rfl rfl (hb hby dli_12)
  have K := K.wr W4 (Or.inl (List.mem_of_getElem? (i := 0) rfl))
  have O := O.wr W4 g_a
  have E_a := E_a.wr W4
  have F_links_a := F_links_a.other W4 (Or.inr (slot_ne (Or.inr (hw _ (List.mem_of_getElem? (i := 55) rfl))) (Or.inr (hw _ (List.mem_of_getElem? (i := 29) rfl))) (by decide) (t := (.object "java/util/List")) (t' := (.object "java/util/Map")) (by decide) (by decide)))
  have F_hashes_a := F_hashes_a.other W4 (Or.inr (slot_ne (Or.inl (hw _ (List.mem_of_getElem? (i := 58) rfl))) (Or.inr (hw _ (List.mem_of_getElem? (i := 29) rfl))) (by decide) (t := (.array .int)) (t' := (.object "java/util/Map")) (by decide) (by decide)))
  have E_b2 := E_b2.wr W4
  have F_numbers_a := F_numbers_a.same W4
  have N4 := Fr.snoc X4 N3 g_a
  refine own_go (U' := T4.setTop (mkF m 15 #[.val (.ref a)] [])) st4 ?_
  refine own_go (U' := T4.setTop (mkF m 16 #[.val (.ref a)] [(.ref a)])) (fun t k => XS.aloadN X4.here hx rfl (hb hby dli_15) rfl rfl k) ?_
  obtain ⟨T5, h5, X5, e5, E5, A5, D5, -, st5⟩ := newO X4 hx hZ hown (hw _ (List.mem_of_getElem? (i := 30) rfl)) (hw _ (List.mem_of_getElem? (i := 31) rfl)) (hw _ (List.mem_of_getElem? (i := 32) rfl)) e4 (g := (mkF m 16 #[.val (.ref a)] [(.ref a)])) rfl (hb hby dli_16) (by decide) (by decide)
  obtain ⟨b5, g5⟩ : ∃ z, z = h4.size := ⟨_, rfl⟩
  rw [← g5] at A5 D5 st5
  have ne_a_b5 : a ≠ b5 := Nat.ne_of_lt (Nat.lt_of_lt_of_eq E_a.lt g5.symm)
  have g_b5 : n0 ≤ b5 := Nat.le_trans (Nat.le_trans (Nat.le_of_eq O.1.symm) O.2.1) (Nat.le_of_eq g5.symm)
  have sz_b5 : h0.size ≤ b5 := Nat.le_trans K.1 (Nat.le_of_eq g5.symm)
  have K := K.ext E5
  have O := O.ext E5
  have E_a := E_a.ext E5
  have F_numbers_a := F_numbers_a.ext E5
  have F_links_a := F_links_a.ext E5
  have F_hashes_a := F_hashes_a.ext E5
  have E_b5 := A5
  have F_modCount_b5 : Fld Z h5 b5 "java/util/AbstractList" "modCount" "I" (.int (0 : Int32)) := D5 (Or.inl (hw _ (List.mem_of_getElem? (i := 50) rfl))) (ty := .int) (by decide)
  have F_elementData_b5 : Fld Z h5 b5 "java/util/ArrayList" "elementData" "[Ljava/lang/Object;" .null := D5 (Or.inl (hw _ (List.mem_of_getElem? (i := 53) rfl))) (ty := (.array (.object "java/lang/Object"))) (by decide)
  refine own_go (U' := T5.setTop (mkF m 19 #[.val (.ref a)] [(.ref b5), (.ref a)])) st5 ?_
  refine own_go (U' := T5.setTop (mkF m 20 #[.val (.ref a)] [(.ref b5), (.ref b5), (.ref a)])) (fun t k => XS.dup X5.here hx rfl (hb hby dli_19) rfl rfl k) ?_
  obtain ⟨v6, T6, h6, L6, e6, X6, hQ6, st6⟩ := own_callC X5 hx hZ (y := (⟨"java/util/ArrayList", "<init>", "()V"⟩ : MethodName)) rfl hown (hw _ (List.mem_of_getElem? (i := 33) rfl)) (hw _ (List.mem_of_getElem? (i := 34) rfl)) (hw _ (List.mem_of_getElem? (i := 32) rfl)) (hw _ (List.mem_of_getElem? (i := 35) rfl)) (by decide) (a := b5) (own_rmal l Z a0 hw b5 h5 n0 g_b5 _ _ dd O S_dd E_b5 F_modCount_b5 F_elementData_b5) (W := 2) (by decide) (by decide) (g := (mkF m 20 #[.val (.ref a)] [(.ref b5), (.ref b5), (.ref a)])) rfl (by rw [hml]; rfl) (argsL := []) (rest := [(.ref b5), (.ref a)]) (lenOf own_pd4 rfl) rfl rfl (by show 2 * 0 + _ ≤ _; exact Nat.le_of_eq rfl) (hb hby dli_20) e5 (by decide) (by decide)
  obtain ⟨rfl, Nq, Kq, Fm, Fe⟩ := hQ6
  have K := K.trans Kq (allS (Or.inr sz_b5) all0)
  have O := O.keep Kq (allS g_b5 all0)
  have E_a := E_a.keep Kq
  have F_numbers_a := F_numbers_a.keep Kq (ninS ne_a_b5 nin0)
  have F_links_a := F_links_a.keep Kq (ninS ne_a_b5 nin0)
  have F_hashes_a := F_hashes_a.keep Kq (ninS ne_a_b5 nin0)
  have E_b5 := E_b5.keep Kq
  have F_modCount_b5 := Fm
  have F_elementData_b5 := Fe
  have N6 := Fr.app N4 Nq
  refine own_go (U' := T6.setTop (mkF m 23 #[.val (.ref a)] [(.ref b5), (.ref a)])) st6 ?_
  obtain ⟨T7, h7, X7, e7, W7, st7⟩ := putF X6 hx hZ hown (host := "") (Or.inl (hw _ (List.mem_of_getElem? (i := 54) rfl))) Via.refl e6 F_links_a E_a (Or.inr ⟨(hw _ (List.mem_of_getElem? (i := 55) rfl)), rfl, hnm⟩) (hw _ (List.mem_of_getElem? (i := 4) rfl)) (ty := (.object "java/util/List")) (by decide) rfl rfl (g := (mkF m 23 #[.val (.ref a)] [(.ref b5), (.ref a)])) rfl rfl (hb hby dli_23)
  have K := K.wr W7 (Or.inl (List.mem_of_getElem? (i := 0) rfl))
  have O := O.wr W7 g_a
  have E_a := E_a.wr W7
  have F_numbers_a := F_numbers_a.other W7 (Or.inr (slot_ne (Or.inr (hw _ (List.mem_of_getElem? (i := 29) rfl))) (Or.inr (hw _ (List.mem_of_getElem? (i := 55) rfl))) (by decide) (t := (.object "java/util/Map")) (t' := (.object "java/util/List")) (by decide) (by decide)))
  have F_hashes_a := F_hashes_a.other W7 (Or.inr (slot_ne (Or.inl (hw _ (List.mem_of_getElem? (i := 58) rfl))) (Or.inr (hw _ (List.mem_of_getElem? (i := 55) rfl))) (by decide) (t := (.array .int)) (t' := (.object "java/util/List")) (by decide) (by decide)))
  have E_b5 := E_b5.wr W7
  have F_modCount_b5 := F_modCount_b5.other W7 (Or.inl (Ne.symm ne_a_b5))
  have F_elementData_b5 := F_elementData_b5.other W7 (Or.inl (Ne.symm ne_a_b5))
  have F_links_a := F_links_a.same W7
  have N7 := Fr.snoc X7 N6 g_a
  refine own_go (U' := T7.setTop (mkF m 26 #[.val (.ref a)] [])) st7 ?_
  refine own_go (U' := T7.setTop (mkF m 27 #[.val (.ref a)] [(.ref a)])) (fun t k => XS.aloadN X7.here hx rfl (hb hby dli_26) rfl rfl k) ?_
  refine own_go (U' := T7.setTop (mkF m 29 #[.val (.ref a)] [(.int (16 : Int32)), (.ref a)])) (fun t k => XS.bipush X7.here hx rfl (hb hby dli_27) k) ?_
  obtain ⟨T8, h8, k8, X8, e8, E8, A8, Y8, st8⟩ := own_newarr X7 hx hZ (hw _ (List.mem_of_getElem? (i := 56) rfl)) e7 (g := (mkF m 29 #[.val (.ref a)] [(.int (16 : Int32)), (.ref a)])) rfl (hb hby dli_29) rfl (by decide) (cap := 16) (by decide) (by decide) (by decide) (by decide) (ad := "[I") (by decide) rfl (vs := own_zs) rfl
  obtain ⟨b8, g8⟩ : ∃ z, z = h7.size := ⟨_, rfl⟩
  rw [← g8] at A8 Y8 st8
  have ne_a_b8 : a ≠ b8 := Nat.ne_of_lt (Nat.lt_of_lt_of_eq E_a.lt g8.symm)
  have g_b8 : n0 ≤ b8 := Nat.le_trans (Nat.le_trans (Nat.le_of_eq O.1.symm) O.2.1) (Nat.le_of_eq g8.symm)
  have sz_b8 : h0.size ≤ b8 := Nat.le_trans K.1 (Nat.le_of_eq g8.symm)
  have K := K.ext E8
  have O := O.ext E8
  have E_a := E_a.ext E8
  have F_numbers_a := F_numbers_a.ext E8
  have F_links_a := F_links_a.ext E8
  have F_hashes_a := F_hashes_a.ext E8
  have V_b8 : own_Ar Z h8 b8 k8 .int own_zs := A8
  have E_b8 := Y8
  refine own_go (U' := T8.setTop (mkF m 31 #[.val (.ref a)] [(.ref b8), (.ref a)])) st8 ?_
  obtain ⟨T9, h9, X9, e9, W9, st9⟩ := putF X8 hx hZ hown (host := "") (Or.inl (hw _ (List.mem_of_getElem? (i := 57) rfl))) Via.refl e8 F_hashes_a E_a (Or.inl (hw _ (List.mem_of_getElem? (i := 58) rfl))) (hw _ (List.mem_of_getElem? (i := 4) rfl)) (ty := (.array .int)) (by decide) rfl rfl (g := (mkF m 31 #[.val (.ref a)] [(.ref b8), (.ref a)])) rfl rfl (hb hby dli_31)
  have K := K.wr W9 (Or.inl (List.mem_of_getElem? (i := 0) rfl))
  have O := O.wr W9 g_a
  have E_a := E_a.wr W9
  have F_numbers_a := F_numbers_a.other W9 (Or.inr (slot_ne (Or.inr (hw _ (List.mem_of_getElem? (i := 29) rfl))) (Or.inl (hw _ (List.mem_of_getElem? (i := 58) rfl))) (by decide) (t := (.object "java/util/Map")) (t' := (.array .int)) (by decide) (by decide)))
  have F_links_a := F_links_a.other W9 (Or.inr (slot_ne (Or.inr (hw _ (List.mem_of_getElem? (i := 55) rfl))) (Or.inl (hw _ (List.mem_of_getElem? (i := 58) rfl))) (by decide) (t := (.object "java/util/List")) (t' := (.array .int)) (by decide) (by decide)))
  have V_b8 := V_b8.other W9 (Ne.symm ne_a_b8)
  have E_b8 := E_b8.wr W9
  have F_hashes_a := F_hashes_a.same W9
  have N9 := Fr.snoc X9 N7 g_a
  refine own_go (U' := T9.setTop (mkF m 34 #[.val (.ref a)] [])) st9 ?_
  refine own_retV X9 hx hret hlk (hb hby dli_34) ?_ (by decide) (by decide)
  rw [e9]
  exact ⟨rfl, N9, K, _, _, F_hashes_a, V_b8, sz_b8⟩
theorem dai_0 : decode prog_39_method_1_code 0 = .ok (.aload_n 0, 1) := by decide +kernel
theorem dai_1 : decode prog_39_method_1_code 1 = .ok (.invokespecial 1, 3) := by decide +kernel
theorem dai_4 : decode prog_39_method_1_code 4 = .ok (.aload_n 0, 1) := by decide +kernel
theorem dai_5 : decode prog_39_method_1_code 5 = .ok (.bipush 8, 2) := by decide +kernel
theorem dai_7 : decode prog_39_method_1_code 7 = .ok (.newarray .int, 2) := by decide +kernel
theorem dai_9 : decode prog_39_method_1_code 9 = .ok (.putfield 9, 3) := by decide +kernel
theorem dai_12 : decode prog_39_method_1_code 12 = .ok (.aload_n 0, 1) := by decide +kernel
theorem dai_13 : decode prog_39_method_1_code 13 = .ok (.bipush 8, 2) := by decide +kernel
theorem dai_15 : decode prog_39_method_1_code 15 = .ok (.newarray .int, 2) := by decide +kernel
theorem dai_17 : decode prog_39_method_1_code 17 = .ok (.putfield 13, 3) := by decide +kernel
theorem dai_20 : decode prog_39_method_1_code 20 = .ok (.aload_n 0, 1) := by decide +kernel
theorem dai_21 : decode prog_39_method_1_code 21 = .ok (.bipush 8, 2) := by decide +kernel
theorem dai_23 : decode prog_39_method_1_code 23 = .ok (.newarray .int, 2) := by decide +kernel
theorem dai_25 : decode prog_39_method_1_code 25 = .ok (.putfield 16, 3) := by decide +kernel
theorem dai_28 : decode prog_39_method_1_code 28 = .ok (.aload_n 0, 1) := by decide +kernel
theorem dai_29 : decode prog_39_method_1_code 29 = .ok (.aload_n 1, 1) := by decide +kernel
theorem dai_30 : decode prog_39_method_1_code 30 = .ok (.putfield 19, 3) := by decide +kernel
theorem dai_33 : decode prog_39_method_1_code 33 = .ok (.return_, 1) := by decide +kernel
theorem own_efai (m : MethodId) (a nu : Addr) : entryFrame m #[(.ref a), (.ref nu)] 2 = mkF m 0 #[.val (.ref a), .val (.ref nu)] [] := by first | (simp [entryFrame, mkF, argsToLocals, Value.category]; done) | rfl
set_option maxRecDepth 65536 in
set_option maxHeartbeats 40000000 in
theorem own_rmai (l : Launch) (Z : State) (a0 : Array Value) (hw : ∀ d ∈ tables_1, d.before a0 Z = true) (a nu : Addr) (h0 : Heap) (n0 : Nat) (g_a : n0 ≤ a) (O : Old Z n0 h0) (F_a : own_F0 Z h0 a) :
    own_C l Z (⟨"com/example/obedient_dog/obedientdog/topologydiscovery/AgeLog", "<init>", "(Lcom/example/obedient_dog/obedientdog/topologydiscovery/LinkNumbers;)V"⟩ : MethodName) prog_39_method_1_code 2 none [] ({ frames := 1, cells := 3, slots := 24, locals := 12 } : Room) #[(.ref a), (.ref nu)] h0 (fun v h L => v = none ∧ Fr n0 L ∧ Keep h0 h [a] ∧ ∃ la ra ga kl kr kg, own_F Z h a la ra ga nu 0 0 0 0 0 .null .null .null ∧ own_Ar Z h la kl .int (own_is (List.replicate 8 0)) ∧ own_Ar Z h ra kr .int (own_is (List.replicate 8 0)) ∧ own_Ar Z h ga kg .int ((List.replicate 8 (0 : Int32)).map Value.int) ∧ (la ≠ ra ∧ la ≠ ga ∧ ra ≠ ga) ∧ (h0.size ≤ la ∧ h0.size ≤ ra ∧ h0.size ≤ ga) ∧ (n0 ≤ la ∧ n0 ≤ ra ∧ n0 ≤ ga)) := by
  refine own_body (plainFor_of_name own_pn1) fun p e s m below meth c s₁ hx hby hml hret hlk hown hnm hZ X0 e0 => ?_
  rw [own_efai m a nu]
  have N0 := Fr.nil n0
  have K := Keep.refl h0 [a]
  obtain ⟨E_a, F_latest_a, F_raised_a, F_ages_a, F_numbers_a, F_entries_a, F_size_a, F_sealed_a, F_present_a, F_hash_a, F_table_a, F_earlier_a, F_later_a⟩ := F_a
  refine own_go (U' := s₁.setTop (mkF m 1 #[.val (.ref a), .val (.ref nu)] [(.ref a)])) (fun t k => XS.aloadN X0.here hx rfl (hb hby dai_0) rfl rfl k) ?_
  obtain ⟨T1, X1, e1, st1⟩ := initO X0 hx hZ hown (hw _ (List.mem_of_getElem? (i := 62) rfl)) (hw _ (List.mem_of_getElem? (i := 10) rfl)) (hw _ (List.mem_of_getElem? (i := 11) rfl)) e0 (g := (mkF m 1 #[.val (.ref a), .val (.ref nu)] [(.ref a)])) rfl (by rw [hml]; rfl) rfl (hb hby dai_1) (by decide) (W := 0) (by show 2 * 0 + _ ≤ _; exact Nat.le_of_eq rfl) (by decide)
  refine own_go (U' := T1.setTop (mkF m 4 #[.val (.ref a), .val (.ref nu)] [])) st1 ?_
  refine own_go (U' := T1.setTop (mkF m 5 #[.val (.ref a), .val (.ref nu)] [(.ref a)])) (fun t k => XS.aloadN X1.here hx rfl (hb hby dai_4) rfl rfl k) ?_
  refine own_go (U' := T1.setTop (mkF m 7 #[.val (.ref a), .val (.ref nu)] [(.int (8 : Int32)), (.ref a)])) (fun t k => XS.bipush X1.here hx rfl (hb hby dai_5) k) ?_
  obtain ⟨T2, h2, k2, X2, e2, E2, A2, Y2, st2⟩ := own_newarr X1 hx hZ (hw _ (List.mem_of_getElem? (i := 56) rfl)) e1 (g := (mkF m 7 #[.val (.ref a), .val (.ref nu)] [(.int (8 : Int32)), (.ref a)])) rfl (hb hby dai_7) rfl (by decide) (cap := 8) (by decide) (by decide) (by decide) (by decide) (ad := "[I") (by decide) rfl (vs := (own_is (List.replicate 8 0))) rfl
  obtain ⟨b2, g2⟩ : ∃ z, z = h0.size := ⟨_, rfl⟩
  rw [← g2] at A2 Y2 st2
  have ne_a_b2 : a ≠ b2 := Nat.ne_of_lt (Nat.lt_of_lt_of_eq E_a.lt g2.symm)
  have g_b2 : n0 ≤ b2 := Nat.le_trans (Nat.le_trans (Nat.le_of_eq O.1.symm) O.2.1) (Nat.le_of_eq g2.symm)
  have sz_b2 : h0.size ≤ b2 := Nat.le_trans K.1 (Nat.le_of_eq g2.symm)
  have K := K.ext E2
  have O := O.ext E2
  have E_a := E_a.ext E2
  have F_latest_a := F_latest_a.ext E2
  have F_raised_a := F_raised_a.ext E2
  have F_ages_a := F_ages_a.ext E2
  have F_numbers_a := F_numbers_a.ext E2
  have F_entries_a := F_entries_a.ext E2
  have F_size_a := F_size_a.ext E2
  have F_sealed_a := F_sealed_a.ext E2
  have F_present_a := F_present_a.ext E2
  have F_hash_a := F_hash_a.ext E2
  have F_table_a := F_table_a.ext E2
  have F_earlier_a := F_earlier_a.ext E2
  have F_later_a := F_later_a.ext E2
  have V_b2 : own_Ar Z h2 b2 k2 .int (own_is (List.replicate 8 0)) := A2
  have E_b2 := Y2
  refine own_go (U' := T2.setTop (mkF m 9 #[.val (.ref a), .val (.ref nu)] [(.ref b2), (.ref a)])) st2 ?_
  obtain ⟨T3, h3, X3, e3, W3, st3⟩ := putF X2 hx hZ hown (host := "") (Or.inl (hw _ (List.mem_of_getElem? (i := 63) rfl))) Via.refl e2 F_latest_a E_a (Or.inl (hw _ (List.mem_of_getElem? (i := 64) rfl))) (hw _ (List.mem_of_getElem? (i := 1) rfl)) (ty := (.array .int)) (by decide) rfl rfl (g := (mkF m 9 #[.val (.ref a), .val (.ref nu)] [(.ref b2), (.ref a)])) rfl rfl (hb hby dai_9)
  have K := K.wr W3 (Or.inl (List.mem_of_getElem? (i := 0) rfl))
  have O := O.wr W3 g_a
  have E_a := E_a.wr W3
  have F_raised_a := F_raised_a.other W3 (Or.inr (slot_ne (Or.inl (hw _ (List.mem_of_getElem? (i := 66) rfl))) (Or.inl (hw _ (List.mem_of_getElem? (i := 64) rfl))) (by decide) (t := (.array .int)) (t' := (.array .int)) (by decide) (by decide)))
  have F_ages_a := F_ages_a.other W3 (Or.inr (slot_ne (Or.inl (hw _ (List.mem_of_getElem? (i := 68) rfl))) (Or.inl (hw _ (List.mem_of_getElem? (i := 64) rfl))) (by decide) (t := (.array .int)) (t' := (.array .int)) (by decide) (by decide)))
  have F_numbers_a := F_numbers_a.other W3 (Or.inr (slot_ne (Or.inr (hw _ (List.mem_of_getElem? (i := 70) rfl))) (Or.inl (hw _ (List.mem_of_getElem? (i := 64) rfl))) (by decide) (t := (.object "com/example/obedient_dog/obedientdog/topologydiscovery/LinkNumbers")) (t' := (.array .int)) (by decide) (by decide)))
  have F_entries_a := F_entries_a.other W3 (Or.inr (slot_ne (Or.inl (hw _ (List.mem_of_getElem? (i := 86) rfl))) (Or.inl (hw _ (List.mem_of_getElem? (i := 64) rfl))) (by decide) (t := .int) (t' := (.array .int)) (by decide) (by decide)))
  have F_size_a := F_size_a.other W3 (Or.inr (slot_ne (Or.inl (hw _ (List.mem_of_getElem? (i := 88) rfl))) (Or.inl (hw _ (List.mem_of_getElem? (i := 64) rfl))) (by decide) (t := .int) (t' := (.array .int)) (by decide) (by decide)))
  have F_sealed_a := F_sealed_a.other W3 (Or.inr (slot_ne (Or.inl (hw _ (List.mem_of_getElem? (i := 110) rfl))) (Or.inl (hw _ (List.mem_of_getElem? (i := 64) rfl))) (by decide) (t := .int) (t' := (.array .int)) (by decide) (by decide)))
  have F_present_a := F_present_a.other W3 (Or.inr (slot_ne (Or.inl (hw _ (List.mem_of_getElem? (i := 94) rfl))) (Or.inl (hw _ (List.mem_of_getElem? (i := 64) rfl))) (by decide) (t := .int) (t' := (.array .int)) (by decide) (by decide)))
  have F_hash_a := F_hash_a.other W3 (Or.inr (slot_ne (Or.inl (hw _ (List.mem_of_getElem? (i := 96) rfl))) (Or.inl (hw _ (List.mem_of_getElem? (i := 64) rfl))) (by decide) (t := .int) (t' := (.array .int)) (by decide) (by decide)))
  have F_table_a := F_table_a.other W3 (Or.inr (slot_ne (Or.inl (hw _ (List.mem_of_getElem? (i := 103) rfl))) (Or.inl (hw _ (List.mem_of_getElem? (i := 64) rfl))) (by decide) (t := (.object "com/example/obedient_dog/obedientdog/topologydiscovery/AgeTable")) (t' := (.array .int)) (by decide) (by decide)))
  have F_earlier_a := F_earlier_a.other W3 (Or.inr (slot_ne (Or.inl (hw _ (List.mem_of_getElem? (i := 138) rfl))) (Or.inl (hw _ (List.mem_of_getElem? (i := 64) rfl))) (by decide) (t := (.array .int)) (t' := (.array .int)) (by decide) (by decide)))
  have F_later_a := F_later_a.other W3 (Or.inr (slot_ne (Or.inl (hw _ (List.mem_of_getElem? (i := 140) rfl))) (Or.inl (hw _ (List.mem_of_getElem? (i := 64) rfl))) (by decide) (t := (.array .int)) (t' := (.array .int)) (by decide) (by decide)))
  have V_b2 := V_b2.other W3 (Ne.symm ne_a_b2)
  have E_b2 := E_b2.wr W3
  have F_latest_a := F_latest_a.same W3
  have N3 := Fr.snoc X3 N0 g_a
  refine own_go (U' := T3.setTop (mkF m 12 #[.val (.ref a), .val (.ref nu)] [])) st3 ?_
  refine own_go (U' := T3.setTop (mkF m 13 #[.val (.ref a), .val (.ref nu)] [(.ref a)])) (fun t k => XS.aloadN X3.here hx rfl (hb hby dai_12) rfl rfl k) ?_
  refine own_go (U' := T3.setTop (mkF m 15 #[.val (.ref a), .val (.ref nu)] [(.int (8 : Int32)), (.ref a)])) (fun t k => XS.bipush X3.here hx rfl (hb hby dai_13) k) ?_
  obtain ⟨T4, h4, k4, X4, e4, E4, A4, Y4, st4⟩ := own_newarr X3 hx hZ (hw _ (List.mem_of_getElem? (i := 56) rfl)) e3 (g := (mkF m 15 #[.val (.ref a), .val (.ref nu)] [(.int (8 : Int32)), (.ref a)])) rfl (hb hby dai_15) rfl (by decide) (cap := 8) (by decide) (by decide) (by decide) (by decide) (ad := "[I") (by decide) rfl (vs := (own_is (List.replicate 8 0))) rfl
  obtain ⟨b4, g4⟩ : ∃ z, z = h3.size := ⟨_, rfl⟩
  rw [← g4] at A4 Y4 st4
  have ne_a_b4 : a ≠ b4 := Nat.ne_of_lt (Nat.lt_of_lt_of_eq E_a.lt g4.symm)
  have ne_b2_b4 : b2 ≠ b4 := Nat.ne_of_lt (Nat.lt_of_lt_of_eq V_b2.lt g4.symm)
  have g_b4 : n0 ≤ b4 := Nat.le_trans (Nat.le_trans (Nat.le_of_eq O.1.symm) O.2.1) (Nat.le_of_eq g4.symm)
  have sz_b4 : h0.size ≤ b4 := Nat.le_trans K.1 (Nat.le_of_eq g4.symm)
  have K := K.ext E4
  have O := O.ext E4
  have E_a := E_a.ext E4
  have F_latest_a := F_latest_a.ext E4
  have F_raised_a := F_raised_a.ext E4
  have F_ages_a := F_ages_a.ext E4
  have F_numbers_a := F_numbers_a.ext E4
  have F_entries_a := F_entries_a.ext E4
  have F_size_a := F_size_a.ext E4
  have F_sealed_a := F_sealed_a.ext E4
  have F_present_a := F_present_a.ext E4
  have F_hash_a := F_hash_a.ext E4
  have F_table_a := F_table_a.ext E4
  have F_earlier_a := F_earlier_a.ext E4
  have F_later_a := F_later_a.ext E4
  have V_b2 := V_b2.ext E4
  have E_b2 := E_b2.ext E4
  have V_b4 : own_Ar Z h4 b4 k4 .int (own_is (List.replicate 8 0)) := A4
  have E_b4 := Y4
  refine own_go (U' := T4.setTop (mkF m 17 #[.val (.ref a), .val (.ref nu)] [(.ref b4), (.ref a)])) st4 ?_
  obtain ⟨T5, h5, X5, e5, W5, st5⟩ := putF X4 hx hZ hown (host := "") (Or.inl (hw _ (List.mem_of_getElem? (i := 65) rfl))) Via.refl e4 F_raised_a E_a (Or.inl (hw _ (List.mem_of_getElem? (i := 66) rfl))) (hw _ (List.mem_of_getElem? (i := 1) rfl)) (ty := (.array .int)) (by decide) rfl rfl (g := (mkF m 17 #[.val (.ref a), .val (.ref nu)] [(.ref b4), (.ref a)])) rfl rfl (hb hby dai_17)
  have K := K.wr W5 (Or.inl (List.mem_of_getElem? (i := 0) rfl))
  have O := O.wr W5 g_a
  have E_a := E_a.wr W5
  have F_latest_a := F_latest_a.other W5 (Or.inr (slot_ne (Or.inl (hw _ (List.mem_of_getElem? (i := 64) rfl))) (Or.inl (hw _ (List.mem_of_getElem? (i := 66) rfl))) (by decide) (t := (.array .int)) (t' := (.array .int)) (by decide) (by decide)))
  have F_ages_a := F_ages_a.other W5 (Or.inr (slot_ne (Or.inl (hw _ (List.mem_of_getElem? (i := 68) rfl))) (Or.inl (hw _ (List.mem_of_getElem? (i := 66) rfl))) (by decide) (t := (.array .int)) (t' := (.array .int)) (by decide) (by decide)))
  have F_numbers_a := F_numbers_a.other W5 (Or.inr (slot_ne (Or.inr (hw _ (List.mem_of_getElem? (i := 70) rfl))) (Or.inl (hw _ (List.mem_of_getElem? (i := 66) rfl))) (by decide) (t := (.object "com/example/obedient_dog/obedientdog/topologydiscovery/LinkNumbers")) (t' := (.array .int)) (by decide) (by decide)))
  have F_entries_a := F_entries_a.other W5 (Or.inr (slot_ne (Or.inl (hw _ (List.mem_of_getElem? (i := 86) rfl))) (Or.inl (hw _ (List.mem_of_getElem? (i := 66) rfl))) (by decide) (t := .int) (t' := (.array .int)) (by decide) (by decide)))
  have F_size_a := F_size_a.other W5 (Or.inr (slot_ne (Or.inl (hw _ (List.mem_of_getElem? (i := 88) rfl))) (Or.inl (hw _ (List.mem_of_getElem? (i := 66) rfl))) (by decide) (t := .int) (t' := (.array .int)) (by decide) (by decide)))
  have F_sealed_a := F_sealed_a.other W5 (Or.inr (slot_ne (Or.inl (hw _ (List.mem_of_getElem? (i := 110) rfl))) (Or.inl (hw _ (List.mem_of_getElem? (i := 66) rfl))) (by decide) (t := .int) (t' := (.array .int)) (by decide) (by decide)))
  have F_present_a := F_present_a.other W5 (Or.inr (slot_ne (Or.inl (hw _ (List.mem_of_getElem? (i := 94) rfl))) (Or.inl (hw _ (List.mem_of_getElem? (i := 66) rfl))) (by decide) (t := .int) (t' := (.array .int)) (by decide) (by decide)))
  have F_hash_a := F_hash_a.other W5 (Or.inr (slot_ne (Or.inl (hw _ (List.mem_of_getElem? (i := 96) rfl))) (Or.inl (hw _ (List.mem_of_getElem? (i := 66) rfl))) (by decide) (t := .int) (t' := (.array .int)) (by decide) (by decide)))
  have F_table_a := F_table_a.other W5 (Or.inr (slot_ne (Or.inl (hw _ (List.mem_of_getElem? (i := 103) rfl))) (Or.inl (hw _ (List.mem_of_getElem? (i := 66) rfl))) (by decide) (t := (.object "com/example/obedient_dog/obedientdog/topologydiscovery/AgeTable")) (t' := (.array .int)) (by decide) (by decide)))
  have F_earlier_a := F_earlier_a.other W5 (Or.inr (slot_ne (Or.inl (hw _ (List.mem_of_getElem? (i := 138) rfl))) (Or.inl (hw _ (List.mem_of_getElem? (i := 66) rfl))) (by decide) (t := (.array .int)) (t' := (.array .int)) (by decide) (by decide)))
  have F_later_a := F_later_a.other W5 (Or.inr (slot_ne (Or.inl (hw _ (List.mem_of_getElem? (i := 140) rfl))) (Or.inl (hw _ (List.mem_of_getElem? (i := 66) rfl))) (by decide) (t := (.array .int)) (t' := (.array .int)) (by decide) (by decide)))
  have V_b2 := V_b2.other W5 (Ne.symm ne_a_b2)
  have E_b2 := E_b2.wr W5
  have V_b4 := V_b4.other W5 (Ne.symm ne_a_b4)
  have E_b4 := E_b4.wr W5
  have F_raised_a := F_raised_a.same W5
  have N5 := Fr.snoc X5 N3 g_a
  refine own_go (U' := T5.setTop (mkF m 20 #[.val (.ref a), .val (.ref nu)] [])) st5 ?_
  refine own_go (U' := T5.setTop (mkF m 21 #[.val (.ref a), .val (.ref nu)] [(.ref a)])) (fun t k => XS.aloadN X5.here hx rfl (hb hby dai_20) rfl rfl k) ?_
  refine own_go (U' := T5.setTop (mkF m 23 #[.val (.ref a), .val (.ref nu)] [(.int (8 : Int32)), (.ref a)])) (fun t k => XS.bipush X5.here hx rfl (hb hby dai_21) k) ?_
  obtain ⟨T6, h6, k6, X6, e6, E6, A6, Y6, st6⟩ := own_newarr X5 hx hZ (hw _ (List.mem_of_getElem? (i := 56) rfl)) e5 (g := (mkF m 23 #[.val (.ref a), .val (.ref nu)] [(.int (8 : Int32)), (.ref a)])) rfl (hb hby dai_23) rfl (by decide) (cap := 8) (by decide) (by decide) (by decide) (by decide) (ad := "[I") (by decide) rfl (vs := ((List.replicate 8 (0 : Int32)).map Value.int)) rfl
  obtain ⟨b6, g6⟩ : ∃ z, z = h5.size := ⟨_, rfl⟩
  rw [← g6] at A6 Y6 st6
  have ne_a_b6 : a ≠ b6 := Nat.ne_of_lt (Nat.lt_of_lt_of_eq E_a.lt g6.symm)
  have ne_b2_b6 : b2 ≠ b6 := Nat.ne_of_lt (Nat.lt_of_lt_of_eq V_b2.lt g6.symm)
  have ne_b4_b6 : b4 ≠ b6 := Nat.ne_of_lt (Nat.lt_of_lt_of_eq V_b4.lt g6.symm)
  have g_b6 : n0 ≤ b6 := Nat.le_trans (Nat.le_trans (Nat.le_of_eq O.1.symm) O.2.1) (Nat.le_of_eq g6.symm)
  have sz_b6 : h0.size ≤ b6 := Nat.le_trans K.1 (Nat.le_of_eq g6.symm)
  have K := K.ext E6
  have O := O.ext E6
  have E_a := E_a.ext E6
  have F_latest_a := F_latest_a.ext E6
  have F_raised_a := F_raised_a.ext E6
  have F_ages_a := F_ages_a.ext E6
  have F_numbers_a := F_numbers_a.ext E6
  have F_entries_a := F_entries_a.ext E6
  have F_size_a := F_size_a.ext E6
  have F_sealed_a := F_sealed_a.ext E6
  have F_present_a := F_present_a.ext E6
  have F_hash_a := F_hash_a.ext E6
  have F_table_a := F_table_a.ext E6
  have F_earlier_a := F_earlier_a.ext E6
  have F_later_a := F_later_a.ext E6
  have V_b2 := V_b2.ext E6
  have E_b2 := E_b2.ext E6
  have V_b4 := V_b4.ext E6
  have E_b4 := E_b4.ext E6
  have V_b6 : own_Ar Z h6 b6 k6 .int ((List.replicate 8 (0 : Int32)).map Value.int) := A6
  have E_b6 := Y6
  refine own_go (U' := T6.setTop (mkF m 25 #[.val (.ref a), .val (.ref nu)] [(.ref b6), (.ref a)])) st6 ?_
  obtain ⟨T7, h7, X7, e7, W7, st7⟩ := putF X6 hx hZ hown (host := "") (Or.inl (hw _ (List.mem_of_getElem? (i := 67) rfl))) Via.refl e6 F_ages_a E_a (Or.inl (hw _ (List.mem_of_getElem? (i := 68) rfl))) (hw _ (List.mem_of_getElem? (i := 1) rfl)) (ty := (.array .int)) (by decide) rfl rfl (g := (mkF m 25 #[.val (.ref a), .val (.ref nu)] [(.ref b6), (.ref a)])) rfl rfl (hb hby dai_25)
  have K := K.wr W7 (Or.inl (List.mem_of_getElem? (i := 0) rfl))
  have O := O.wr W7 g_a
  have E_a := E_a.wr W7
  have F_latest_a := F_latest_a.other W7 (Or.inr (slot_ne (Or.inl (hw _ (List.mem_of_getElem? (i := 64) rfl))) (Or.inl (hw _ (List.mem_of_getElem? (i := 68) rfl))) (by decide) (t := (.array .int)) (t' := (.array .int)) (by decide) (by decide)))
  have F_raised_a := F_raised_a.other W7 (Or.inr (slot_ne (Or.inl (hw _ (List.mem_of_getElem? (i := 66) rfl))) (Or.inl (hw _ (List.mem_of_getElem? (i := 68) rfl))) (by decide) (t := (.array .int)) (t' := (.array .int)) (by decide) (by decide)))
  have F_numbers_a := F_numbers_a.other W7 (Or.inr (slot_ne (Or.inr (hw _ (List.mem_of_getElem? (i := 70) rfl))) (Or.inl (hw _ (List.mem_of_getElem? (i := 68) rfl))) (by decide) (t := (.object "com/example/obedient_dog/obedientdog/topologydiscovery/LinkNumbers")) (t' := (.array .int)) (by decide) (by decide)))
  have F_entries_a := F_entries_a.other W7 (Or.inr (slot_ne (Or.inl (hw _ (List.mem_of_getElem? (i := 86) rfl))) (Or.inl (hw _ (List.mem_of_getElem? (i := 68) rfl))) (by decide) (t := .int) (t' := (.array .int)) (by decide) (by decide)))
  have F_size_a := F_size_a.other W7 (Or.inr (slot_ne (Or.inl (hw _ (List.mem_of_getElem? (i := 88) rfl))) (Or.inl (hw _ (List.mem_of_getElem? (i := 68) rfl))) (by decide) (t := .int) (t' := (.array .int)) (by decide) (by decide)))
  have F_sealed_a := F_sealed_a.other W7 (Or.inr (slot_ne (Or.inl (hw _ (List.mem_of_getElem? (i := 110) rfl))) (Or.inl (hw _ (List.mem_of_getElem? (i := 68) rfl))) (by decide) (t := .int) (t' := (.array .int)) (by decide) (by decide)))
  have F_present_a := F_present_a.other W7 (Or.inr (slot_ne (Or.inl (hw _ (List.mem_of_getElem? (i := 94) rfl))) (Or.inl (hw _ (List.mem_of_getElem? (i := 68) rfl))) (by decide) (t := .int) (t' := (.array .int)) (by decide) (by decide)))
  have F_hash_a := F_hash_a.other W7 (Or.inr (slot_ne (Or.inl (hw _ (List.mem_of_getElem? (i := 96) rfl))) (Or.inl (hw _ (List.mem_of_getElem? (i := 68) rfl))) (by decide) (t := .int) (t' := (.array .int)) (by decide) (by decide)))
  have F_table_a := F_table_a.other W7 (Or.inr (slot_ne (Or.inl (hw _ (List.mem_of_getElem? (i := 103) rfl))) (Or.inl (hw _ (List.mem_of_getElem? (i := 68) rfl))) (by decide) (t := (.object "com/example/obedient_dog/obedientdog/topologydiscovery/AgeTable")) (t' := (.array .int)) (by decide) (by decide)))
  have F_earlier_a := F_earlier_a.other W7 (Or.inr (slot_ne (Or.inl (hw _ (List.mem_of_getElem? (i := 138) rfl))) (Or.inl (hw _ (List.mem_of_getElem? (i := 68) rfl))) (by decide) (t := (.array .int)) (t' := (.array .int)) (by decide) (by decide)))
  have F_later_a := F_later_a.other W7 (Or.inr (slot_ne (Or.inl (hw _ (List.mem_of_getElem? (i := 140) rfl))) (Or.inl (hw _ (List.mem_of_getElem? (i := 68) rfl))) (by decide) (t := (.array .int)) (t' := (.array .int)) (by decide) (by decide)))
  have V_b2 := V_b2.other W7 (Ne.symm ne_a_b2)
  have E_b2 := E_b2.wr W7
  have V_b4 := V_b4.other W7 (Ne.symm ne_a_b4)
  have E_b4 := E_b4.wr W7
  have V_b6 := V_b6.other W7 (Ne.symm ne_a_b6)
  have E_b6 := E_b6.wr W7
  have F_ages_a := F_ages_a.same W7
  have N7 := Fr.snoc X7 N5 g_a
  refine own_go (U' := T7.setTop (mkF m 28 #[.val (.ref a), .val (.ref nu)] [])) st7 ?_
  refine own_go (U' := T7.setTop (mkF m 29 #[.val (.ref a), .val (.ref nu)] [(.ref a)])) (fun t k => XS.aloadN X7.here hx rfl (hb hby dai_28) rfl rfl k) ?_
  refine own_go (U' := T7.setTop (mkF m 30 #[.val (.ref a), .val (.ref nu)] [(.ref nu), (.ref a)])) (fun t k => XS.aloadN X7.here hx rfl (hb hby dai_29) rfl rfl k) ?_
  obtain ⟨T8, h8, X8, e8, W8, st8⟩ := putF X7 hx hZ hown (host := "") (Or.inl (hw _ (List.mem_of_getElem? (i := 69) rfl))) Via.refl e7 F_numbers_a E_a (Or.inr ⟨(hw _ (List.mem_of_getElem? (i := 70) rfl)), rfl, hnm⟩) (hw _ (List.mem_of_getElem? (i := 1) rfl)) (ty := (.object "com/example/obedient_dog/obedientdog/topologydiscovery/LinkNumbers")) (by decide) rfl rfl (g := (mkF m 30 #[.val (.ref a), .val (.ref nu)] [(.ref nu), (.ref a)])) rfl rfl (hb hby dai_30)
  have K := K.wr W8 (Or.inl (List.mem_of_getElem? (i := 0) rfl))
  have O := O.wr W8 g_a
  have E_a := E_a.wr W8
  have F_latest_a := F_latest_a.other W8 (Or.inr (slot_ne (Or.inl (hw _ (List.mem_of_getElem? (i := 64) rfl))) (Or.inr (hw _ (List.mem_of_getElem? (i := 70) rfl))) (by decide) (t := (.array .int)) (t' := (.object "com/example/obedient_dog/obedientdog/topologydiscovery/LinkNumbers")) (by decide) (by decide)))
  have F_raised_a := F_raised_a.other W8 (Or.inr (slot_ne (Or.inl (hw _ (List.mem_of_getElem? (i := 66) rfl))) (Or.inr (hw _ (List.mem_of_getElem? (i := 70) rfl))) (by decide) (t := (.array .int)) (t' := (.object "com/example/obedient_dog/obedientdog/topologydiscovery/LinkNumbers")) (by decide) (by decide)))
  have F_ages_a := F_ages_a.other W8 (Or.inr (slot_ne (Or.inl (hw _ (List.mem_of_getElem? (i := 68) rfl))) (Or.inr (hw _ (List.mem_of_getElem? (i := 70) rfl))) (by decide) (t := (.array .int)) (t' := (.object "com/example/obedient_dog/obedientdog/topologydiscovery/LinkNumbers")) (by decide) (by decide)))
  have F_entries_a := F_entries_a.other W8 (Or.inr (slot_ne (Or.inl (hw _ (List.mem_of_getElem? (i := 86) rfl))) (Or.inr (hw _ (List.mem_of_getElem? (i := 70) rfl))) (by decide) (t := .int) (t' := (.object "com/example/obedient_dog/obedientdog/topologydiscovery/LinkNumbers")) (by decide) (by decide)))
  have F_size_a := F_size_a.other W8 (Or.inr (slot_ne (Or.inl (hw _ (List.mem_of_getElem? (i := 88) rfl))) (Or.inr (hw _ (List.mem_of_getElem? (i := 70) rfl))) (by decide) (t := .int) (t' := (.object "com/example/obedient_dog/obedientdog/topologydiscovery/LinkNumbers")) (by decide) (by decide)))
  have F_sealed_a := F_sealed_a.other W8 (Or.inr (slot_ne (Or.inl (hw _ (List.mem_of_getElem? (i := 110) rfl))) (Or.inr (hw _ (List.mem_of_getElem? (i := 70) rfl))) (by decide) (t := .int) (t' := (.object "com/example/obedient_dog/obedientdog/topologydiscovery/LinkNumbers")) (by decide) (by decide)))
  have F_present_a := F_present_a.other W8 (Or.inr (slot_ne (Or.inl (hw _ (List.mem_of_getElem? (i := 94) rfl))) (Or.inr (hw _ (List.mem_of_getElem? (i := 70) rfl))) (by decide) (t := .int) (t' := (.object "com/example/obedient_dog/obedientdog/topologydiscovery/LinkNumbers")) (by decide) (by decide)))
  have F_hash_a := F_hash_a.other W8 (Or.inr (slot_ne (Or.inl (hw _ (List.mem_of_getElem? (i := 96) rfl))) (Or.inr (hw _ (List.mem_of_getElem? (i := 70) rfl))) (by decide) (t := .int) (t' := (.object "com/example/obedient_dog/obedientdog/topologydiscovery/LinkNumbers")) (by decide) (by decide)))
  have F_table_a := F_table_a.other W8 (Or.inr (slot_ne (Or.inl (hw _ (List.mem_of_getElem? (i := 103) rfl))) (Or.inr (hw _ (List.mem_of_getElem? (i := 70) rfl))) (by decide) (t := (.object "com/example/obedient_dog/obedientdog/topologydiscovery/AgeTable")) (t' := (.object "com/example/obedient_dog/obedientdog/topologydiscovery/LinkNumbers")) (by decide) (by decide)))
  have F_earlier_a := F_earlier_a.other W8 (Or.inr (slot_ne (Or.inl (hw _ (List.mem_of_getElem? (i := 138) rfl))) (Or.inr (hw _ (List.mem_of_getElem? (i := 70) rfl))) (by decide) (t := (.array .int)) (t' := (.object "com/example/obedient_dog/obedientdog/topologydiscovery/LinkNumbers")) (by decide) (by decide)))
  have F_later_a := F_later_a.other W8 (Or.inr (slot_ne (Or.inl (hw _ (List.mem_of_getElem? (i := 140) rfl))) (Or.inr (hw _ (List.mem_of_getElem? (i := 70) rfl))) (by decide) (t := (.array .int)) (t' := (.object "com/example/obedient_dog/obedientdog/topologydiscovery/LinkNumbers")) (by decide) (by decide)))
  have V_b2 := V_b2.other W8 (Ne.symm ne_a_b2)
  have E_b2 := E_b2.wr W8
  have V_b4 := V_b4.other W8 (Ne.symm ne_a_b4)
  have E_b4 := E_b4.wr W8
  have V_b6 := V_b6.other W8 (Ne.symm ne_a_b6)
  have E_b6 := E_b6.wr W8
  have F_numbers_a := F_numbers_a.same W8
  have N8 := Fr.snoc X8 N7 g_a
  refine own_go (U' := T8.setTop (mkF m 33 #[.val (.ref a), .val (.ref nu)] [])) st8 ?_
  refine own_retV X8 hx hret hlk (hb hby dai_33) ?_ (by decide) (by decide)
  rw [e8]
  exact ⟨rfl, N8, K, _, _, _, _, _, _, ⟨E_a, F_latest_a, F_raised_a, F_ages_a, F_numbers_a, F_entries_a, F_size_a, F_sealed_a, F_present_a, F_hash_a, F_table_a, F_earlier_a, F_later_a⟩, V_b2, V_b4, V_b6, ⟨ne_b2_b4, ne_b2_b6, ne_b4_b6⟩, ⟨sz_b2, sz_b4, sz_b6⟩, ⟨g_b2, g_b4, g_b6⟩⟩
def own_s0 : own_S := (List.replicate 8 0, List.replicate 8 0, 0, none)
def own_se (s : own_S) (se : Nat) (b : Int32) : Nat := if b = 0 then se else s.2.2.1
def own_fin3 (n1 n2 n3 : Nat) (b1 b2 : Int32) : own_S :=
  let s1 := own_raise own_s0 0 n1
  let e1 := own_se s1 0 b1
  let s2 := own_raise s1 e1 n2
  own_raise s2 (own_se s2 e1 b2) n3
def own_lw (ch : Option (List Nat × List Nat)) (d : Int32) : Nat → Nat → Int32
  | 0, _ => -1
  | _ + 1, 0 => -1
  | f + 1, j + 1 => if Int32.ofNat j < d then Int32.ofNat j else match ch with | none => -1 | some p => own_lw ch d f (p.1.getD j 0)
theorem own_lw_s (ch : Option (List Nat × List Nat)) (d : Int32) (f j : Nat) (h : Int32.ofNat j < d) : own_lw ch d (f + 1) (j + 1) = Int32.ofNat j := by
  show (if Int32.ofNat j < d then Int32.ofNat j else _) = _
  rw [if_pos h]
theorem own_lw_some (q : List Nat × List Nat) (d : Int32) (f j : Nat) (h : ¬ Int32.ofNat j < d) : own_lw (some q) d (f + 1) (j + 1) = own_lw (some q) d f (q.1.getD j 0) := by
  show (if Int32.ofNat j < d then _ else own_lw (some q) d f (q.1.getD j 0)) = _
  rw [if_neg h]
theorem own_lw_none (d : Int32) (f j : Nat) (h : ¬ Int32.ofNat j < d) : own_lw none d (f + 1) (j + 1) = -1 := by
  show (if Int32.ofNat j < d then _ else (-1 : Int32)) = _
  rw [if_neg h]
def own_le (s : own_S) (q d : Int32) : Int32 := if q < 8 then own_lw s.2.2.2 d 8 (s.1.getD q.toNatClampNeg 0) else -1
def own_ex3 (n x l1 l2 q d : Int32) : Int32 :=
  let a := if (0 : Int32) < d then (if x = q then (0 : Int32) else (-1 : Int32)) else (-1 : Int32)
  let b := if (1 : Int32) < n then (if (1 : Int32) < d then (if l1 = q then (1 : Int32) else a) else a) else a
  if (2 : Int32) < n then (if (2 : Int32) < d then (if l2 = q then (2 : Int32) else b) else b) else b
def own_ea (x q d : Int32) : Int32 := if (0 : Int32) < d then (if x = q then (0 : Int32) else (-1 : Int32)) else (-1 : Int32)
def own_eb (n l q d a : Int32) : Int32 := if (1 : Int32) < n then (if (1 : Int32) < d then (if l = q then (1 : Int32) else a) else a) else a
def own_ec (n l q d b : Int32) : Int32 := if (2 : Int32) < n then (if (2 : Int32) < d then (if l = q then (2 : Int32) else b) else b) else b
def own_n1 (x y b1 : Int32) : Int32 := if y = x then (if b1 = (0 : Int32) then (1 : Int32) else (2 : Int32)) else (2 : Int32)
def own_l1 (x y b1 : Int32) : Int32 := if y = x then (if b1 = (0 : Int32) then (-1 : Int32) else y) else y
def own_sl (n b1 b2 : Int32) : Int32 := if b2 = (0 : Int32) then (if b1 = (0 : Int32) then (0 : Int32) else (1 : Int32)) else n
def own_lz (n l x z : Int32) : Int32 := if n = (2 : Int32) then (if l = z then (1 : Int32) else (if x = z then (0 : Int32) else (-1 : Int32))) else (if x = z then (0 : Int32) else (-1 : Int32))
def own_n2 (n lz sl : Int32) : Int32 := if lz < sl then n + (1 : Int32) else n
def own_l2 (n l z lz sl : Int32) : Int32 := if lz < sl then (if n = (1 : Int32) then z else l) else l
def own_m2 (n z lz sl : Int32) : Int32 := if lz < sl then (if n = (1 : Int32) then (-1 : Int32) else z) else (-1 : Int32)
def own_exp (x y z b1 b2 q d : Int32) : Int32 :=
  let n := own_n1 x y b1
  let l := own_l1 x y b1
  let sl := own_sl n b1 b2
  let lz := own_lz n l x z
  own_ex3 (own_n2 n lz sl) x (own_l2 n l z lz sl) (own_m2 n z lz sl) q d
def own_good1 (s : own_S) : Bool := decide (s.2.2.1 ≤ 3) && ((List.range 8).all fun i => decide (i < 4) || s.1.getD i 0 == 0) && (match s.2.2.2 with | none => true | some p => (List.range 8).all fun i => decide (p.1.getD i 0 ≤ i))
def own_good2 (n1 n2 n3 : Nat) (b1 b2 : Int32) : Bool := (List.range 4).all fun q => (List.range 4).all fun d => own_le (own_fin3 n1 n2 n3 b1 b2) (Int32.ofNat q) (Int32.ofNat d) == own_exp (Int32.ofNat n1) (Int32.ofNat n2) (Int32.ofNat n3) b1 b2 (Int32.ofNat q) (Int32.ofNat d)
def own_all : Bool := (List.range 4).all fun n1 => (List.range 4).all fun n2 => (List.range 4).all fun n3 => [(0 : Int32), 1].all fun b1 => [(0 : Int32), 1].all fun b2 => own_good1 (own_fin3 n1 n2 n3 b1 b2) && own_good2 n1 n2 n3 b1 b2
set_option maxRecDepth 65536 in
theorem own_all_ok : own_all = true := by decide +kernel
theorem own_check {n1 n2 n3 : Nat} {b1 b2 : Int32} (h1 : n1 < 4) (h2 : n2 < 4) (h3 : n3 < 4) (c1 : b1 = 0 ∨ b1 = 1) (c2 : b2 = 0 ∨ b2 = 1) : own_good1 (own_fin3 n1 n2 n3 b1 b2) = true ∧ own_good2 n1 n2 n3 b1 b2 = true := by
  have h := own_all_ok
  have m : ∀ {b : Int32}, (b = 0 ∨ b = 1) → b ∈ [(0 : Int32), 1] := fun {b} q => by rcases q with rfl | rfl <;> simp
  have := List.all_eq_true.mp (List.all_eq_true.mp (List.all_eq_true.mp (List.all_eq_true.mp (List.all_eq_true.mp h n1 (List.mem_range.mpr h1)) n2 (List.mem_range.mpr h2)) n3 (List.mem_range.mpr h3)) b1 (m c1)) b2 (m c2)
  rwa [Bool.and_eq_true] at this
theorem own_good1_en {s : own_S} (h : own_good1 s = true) : s.2.2.1 ≤ 3 := by
  unfold own_good1 at h
  rw [Bool.and_eq_true, Bool.and_eq_true] at h
  exact of_decide_eq_true h.1.1
theorem own_good1_lt {s : own_S} (h : own_good1 s = true) {i : Nat} (hi : i < 8) (h4 : 4 ≤ i) : s.1.getD i 0 = 0 := by
  unfold own_good1 at h
  rw [Bool.and_eq_true, Bool.and_eq_true] at h
  have := List.all_eq_true.mp h.1.2 i (List.mem_range.mpr hi)
  simpa [Nat.not_lt.mpr h4] using this
theorem own_good1_dec {s : own_S} (h : own_good1 s = true) {p : List Nat × List Nat} (hp : s.2.2.2 = some p) (hl : p.1.length = 8) (i : Nat) : p.1.getD i 0 ≤ i := by
  unfold own_good1 at h
  rw [Bool.and_eq_true, Bool.and_eq_true, hp] at h
  by_cases hi : i < 8
  · exact of_decide_eq_true (List.all_eq_true.mp h.2 i (List.mem_range.mpr hi))
  · rw [List.getD, List.getElem?_eq_none (by omega)]; exact Nat.zero_le _
theorem own_good2_at {n1 n2 n3 : Nat} {b1 b2 : Int32} (h : own_good2 n1 n2 n3 b1 b2 = true) {q d : Nat} (hq : q < 4) (hd : d < 4) : own_le (own_fin3 n1 n2 n3 b1 b2) (Int32.ofNat q) (Int32.ofNat d) = own_exp (Int32.ofNat n1) (Int32.ofNat n2) (Int32.ofNat n3) b1 b2 (Int32.ofNat q) (Int32.ofNat d) := by
  unfold own_good2 at h
  exact eq_of_beq (List.all_eq_true.mp (List.all_eq_true.mp h q (List.mem_range.mpr hq)) d (List.mem_range.mpr hd))
theorem own_nat {x : Int32} (h : ¬ x < 0) {k : Nat} (hk : k < 100) (hx : x < Int32.ofNat k) : ∃ i, i < k ∧ x = Int32.ofNat i := by
  have e0 : (0 : Int32).toInt = 0 := rfl
  rw [Int32.lt_iff_toInt_lt, e0] at h
  rw [Int32.lt_iff_toInt_lt, (own_ofn hk).2.2] at hx
  refine ⟨x.toInt.toNat, by omega, Int32.toInt_inj.mp ?_⟩
  rw [(own_ofn (i := x.toInt.toNat) (by omega)).2.2]; omega
theorem own_lw_d (ch : Option (List Nat × List Nat)) {d : Int32} (hd : ¬ d < 3) : ∀ (f : Nat) {v : Nat}, v ≤ 3 → own_lw ch d f v = own_lw ch 3 f v
  | 0, v, _ => rfl
  | f + 1, 0, _ => rfl
  | f + 1, j + 1, h => by
    have h3 : Int32.ofNat j < 3 := (own_lt (j := 3) (by omega) (by omega)).mpr (by omega)
    have hd' : Int32.ofNat j < d := by
      have e3 : (3 : Int32).toInt = 3 := rfl
      rw [Int32.lt_iff_toInt_lt, e3] at h3 hd
      rw [Int32.lt_iff_toInt_lt]; omega
    rw [own_lw_s _ _ _ _ hd', own_lw_s _ _ _ _ h3]
theorem own_ex3_d (n x l1 l2 q : Int32) {d : Int32} (hd : ¬ d < 3) : own_ex3 n x l1 l2 q d = own_ex3 n x l1 l2 q 3 := by
  have e3 : (3 : Int32).toInt = 3 := rfl
  have e2 : (2 : Int32).toInt = 2 := rfl
  have e1 : (1 : Int32).toInt = 1 := rfl
  have e0 : (0 : Int32).toInt = 0 := rfl
  rw [Int32.lt_iff_toInt_lt, e3] at hd
  have a0 : (0 : Int32) < d := by rw [Int32.lt_iff_toInt_lt]; omega
  have a1 : (1 : Int32) < d := by rw [Int32.lt_iff_toInt_lt]; omega
  have a2 : (2 : Int32) < d := by rw [Int32.lt_iff_toInt_lt]; omega
  unfold own_ex3
  simp only [if_pos a0, if_pos a1, if_pos a2, if_pos (by decide : (0 : Int32) < 3), if_pos (by decide : (1 : Int32) < 3), if_pos (by decide : (2 : Int32) < 3)]
theorem own_ex3_q (n x l1 l2 q d : Int32) (h0 : x ≠ q) (h1 : l1 ≠ q) (h2 : l2 ≠ q) : own_ex3 n x l1 l2 q d = -1 := by
  unfold own_ex3
  simp only [if_neg h0, if_neg h1, if_neg h2, ite_self]
theorem own_eq {n1 n2 n3 : Nat} {b1 b2 q d : Int32} (h1 : n1 < 4) (h2 : n2 < 4) (h3 : n3 < 4) (c1 : b1 = 0 ∨ b1 = 1) (c2 : b2 = 0 ∨ b2 = 1) (hi : ∀ x ∈ (own_fin3 n1 n2 n3 b1 b2).1, x ≤ (own_fin3 n1 n2 n3 b1 b2).2.2.1) (hq : ¬ q < 0) (hd : ¬ d < 0) :
    own_le (own_fin3 n1 n2 n3 b1 b2) q d = own_exp (Int32.ofNat n1) (Int32.ofNat n2) (Int32.ofNat n3) b1 b2 q d := by
  obtain ⟨g1, g2⟩ := own_check h1 h2 h3 c1 c2
  by_cases hq4 : q < 4
  · obtain ⟨i, hi4, rfl⟩ := own_nat hq (k := 4) (by omega) hq4
    by_cases hd3 : d < 3
    · obtain ⟨j, hj, rfl⟩ := own_nat hd (k := 3) (by omega) hd3
      exact own_good2_at g2 hi4 (by omega)
    · have e := own_good2_at g2 hi4 (d := 3) (by omega)
      have hv : (own_fin3 n1 n2 n3 b1 b2).1.getD (Int32.ofNat i).toNatClampNeg 0 ≤ 3 := Nat.le_trans (own_gd hi) (own_good1_en g1)
      have l : own_le (own_fin3 n1 n2 n3 b1 b2) (Int32.ofNat i) d = own_le (own_fin3 n1 n2 n3 b1 b2) (Int32.ofNat i) (Int32.ofNat 3) := by
        unfold own_le
        rw [own_lw_d _ hd3 8 hv]; rfl
      rw [l, e]
      unfold own_exp
      dsimp only
      rw [own_ex3_d _ _ _ _ _ hd3]; rfl
  · have e4 : (4 : Int32).toInt = 4 := rfl
    have em : (-1 : Int32).toInt = -1 := rfl
    have e0 : (0 : Int32).toInt = 0 := rfl
    have hq4' := hq4
    have hq' := hq
    rw [Int32.lt_iff_toInt_lt, e4] at hq4'
    rw [Int32.lt_iff_toInt_lt, e0] at hq'
    have hn : ∀ {k : Nat}, k < 4 → Int32.ofNat k ≠ q := fun {k} hk z => by rw [← z, (own_ofn (i := k) (by omega)).2.2] at hq4'; omega
    have hm : (-1 : Int32) ≠ q := fun z => by rw [← z, em] at hq4'; omega
    have hl : own_le (own_fin3 n1 n2 n3 b1 b2) q d = -1 := by
      unfold own_le
      by_cases h8 : q < 8
      · have e8 : (8 : Int32).toInt = 8 := rfl
        have h8' := h8
        rw [Int32.lt_iff_toInt_lt, e8] at h8'
        have hc : q.toNatClampNeg = q.toInt.toNat := rfl
        rw [if_pos h8, own_good1_lt g1 (by omega) (by omega)]; rfl
      · rw [if_neg h8]
    rw [hl]
    unfold own_exp
    dsimp only
    refine (own_ex3_q _ _ _ _ _ _ (hn h1) ?_ ?_).symm
    · unfold own_l2 own_l1
      repeat' split
      all_goals first | exact hm | exact hn h1 | exact hn h2 | exact hn h3
    · unfold own_m2
      repeat' split
      all_goals first | exact hm | exact hn h3
theorem own_raise_en (s : own_S) (se n : Nat) : s.2.2.1 ≤ (own_raise s se n).2.2.1 ∧ (own_raise s se n).2.2.1 ≤ s.2.2.1 + 1 := by
  unfold own_raise
  split
  · exact ⟨Nat.le_succ _, Nat.le_refl _⟩
  · split
    · exact ⟨Nat.le_succ _, Nat.le_refl _⟩
    · exact ⟨Nat.le_refl _, Nat.le_succ _⟩
theorem own_bit (c : Prop) [Decidable c] {x : Int32} (h : (if c then (0 : Int32) else (1 : Int32)) = x) : x = 0 ∨ x = 1 := by
  by_cases hc : c
  · rw [if_pos hc] at h; exact Or.inl h.symm
  · rw [if_neg hc] at h; exact Or.inr h.symm
theorem own_three (x : Int32) : ∃ k : Nat, k < 4 ∧ x &&& (3 : Int32) = Int32.ofNat k := by
  have h := c_mask x 3 2 (by decide) (by decide)
  refine ⟨((x &&& (3 : Int32)).toInt).toNat, by omega, Int32.toInt_inj.mp ?_⟩
  rw [(own_ofn (i := ((x &&& (3 : Int32)).toInt).toNat) (by omega)).2.2]; omega
theorem own_nn (x : Int32) : ¬ ((x.toUInt32 >>> ((1 : Int32) &&& 31).toUInt32).toInt32) < 0 := by
  have h := c_iushr x 1 1 (by decide) (by decide)
  have e0 : (0 : Int32).toInt = 0 := rfl
  rw [Int32.lt_iff_toInt_lt, e0, h]; omega
theorem own_nn7 (x : Int32) : ¬ (x &&& (7 : Int32)) < 0 := by
  have h := c_mask x 7 3 (by decide) (by decide)
  have e0 : (0 : Int32).toInt = 0 := rfl
  rw [Int32.lt_iff_toInt_lt, e0]; omega
theorem own_nn3 (x : Int32) : ¬ (x &&& (3 : Int32)) < 0 := by
  have h := c_mask x 3 2 (by decide) (by decide)
  have e0 : (0 : Int32).toInt = 0 := rfl
  rw [Int32.lt_iff_toInt_lt, e0]; omega
theorem own_m1 {d : Int32} (h : ¬ d < 0) : (-1 : Int32) < d := by
  have e0 : (0 : Int32).toInt = 0 := rfl
  have em : (-1 : Int32).toInt = -1 := rfl
  rw [Int32.lt_iff_toInt_lt, e0] at h
  rw [Int32.lt_iff_toInt_lt, em]; omega
theorem dle_0 : decode prog_39_method_9_code 0 = .ok (.iload_n 1, 1) := by decide +kernel
theorem dle_1 : decode prog_39_method_9_code 1 = .ok (.aload_n 0, 1) := by decide +kernel
theorem dle_2 : decode prog_39_method_9_code 2 = .ok (.getfield 9, 3) := by decide +kernel
theorem dle_5 : decode prog_39_method_9_code 5 = .ok (.arraylength, 1) := by decide +kernel
theorem dle_6 : decode prog_39_method_9_code 6 = .ok (.if_icmp .ge 14, 3) := by decide +kernel
theorem dle_9 : decode prog_39_method_9_code 9 = .ok (.aload_n 0, 1) := by decide +kernel
theorem dle_10 : decode prog_39_method_9_code 10 = .ok (.getfield 9, 3) := by decide +kernel
theorem dle_13 : decode prog_39_method_9_code 13 = .ok (.iload_n 1, 1) := by decide +kernel
theorem dle_14 : decode prog_39_method_9_code 14 = .ok (.iaload, 1) := by decide +kernel
theorem dle_15 : decode prog_39_method_9_code 15 = .ok (.iconst 1, 1) := by decide +kernel
theorem dle_16 : decode prog_39_method_9_code 16 = .ok (.isub, 1) := by decide +kernel
theorem dle_17 : decode prog_39_method_9_code 17 = .ok (.goto 4, 3) := by decide +kernel
theorem dle_20 : decode prog_39_method_9_code 20 = .ok (.iconst (-1), 1) := by decide +kernel
theorem dle_21 : decode prog_39_method_9_code 21 = .ok (.istore_n 3, 1) := by decide +kernel
theorem dle_22 : decode prog_39_method_9_code 22 = .ok (.iload_n 3, 1) := by decide +kernel
theorem dle_23 : decode prog_39_method_9_code 23 = .ok (.iload_n 2, 1) := by decide +kernel
theorem dle_24 : decode prog_39_method_9_code 24 = .ok (.if_icmp .lt 26, 3) := by decide +kernel
theorem dle_27 : decode prog_39_method_9_code 27 = .ok (.aload_n 0, 1) := by decide +kernel
theorem dle_28 : decode prog_39_method_9_code 28 = .ok (.getfield 96, 3) := by decide +kernel
theorem dle_31 : decode prog_39_method_9_code 31 = .ok (.ifnonnull 7, 3) := by decide +kernel
theorem dle_34 : decode prog_39_method_9_code 34 = .ok (.iconst (-1), 1) := by decide +kernel
theorem dle_35 : decode prog_39_method_9_code 35 = .ok (.goto 11, 3) := by decide +kernel
theorem dle_38 : decode prog_39_method_9_code 38 = .ok (.aload_n 0, 1) := by decide +kernel
theorem dle_39 : decode prog_39_method_9_code 39 = .ok (.getfield 96, 3) := by decide +kernel
theorem dle_42 : decode prog_39_method_9_code 42 = .ok (.iload_n 3, 1) := by decide +kernel
theorem dle_43 : decode prog_39_method_9_code 43 = .ok (.iaload, 1) := by decide +kernel
theorem dle_44 : decode prog_39_method_9_code 44 = .ok (.iconst 1, 1) := by decide +kernel
theorem dle_45 : decode prog_39_method_9_code 45 = .ok (.isub, 1) := by decide +kernel
theorem dle_46 : decode prog_39_method_9_code 46 = .ok (.istore_n 3, 1) := by decide +kernel
theorem dle_47 : decode prog_39_method_9_code 47 = .ok (.goto (-25), 3) := by decide +kernel
theorem dle_50 : decode prog_39_method_9_code 50 = .ok (.iload_n 3, 1) := by decide +kernel
theorem dle_51 : decode prog_39_method_9_code 51 = .ok (.ireturn, 1) := by decide +kernel
set_option maxRecDepth 65536 in
set_option maxHeartbeats 40000000 in
theorem own_ll {p : Program} {l : Launch} {e : Env} {s : State} {m : MethodId} {args : Array Value} {below : List Frame} {meth : Method} {c : Code} {Z : State} {a0 : Array Value} (hx : p.tables.exec = Jvm.exec) (hZ : Z.Warmed39 s.vm) (hw : ∀ d ∈ tables_1, d.before a0 Z = true) (hby : c.code = prog_39_method_9_code) (hml : c.maxLocals = 4) (hown : s.vm.findClass "com/example/obedient_dog/obedientdog/topologydiscovery/AgeLog" = some m.cls) {Q : Option Value → Heap → List Loc → Prop} {k n : Nat} {h0 : Heap} {locs : List Loc} (a xe : Addr) (p1 p2 : Int32) (q : List Nat × List Nat) (ke : ClassId) (hql : q.1.length = 8) (hdec : ∀ i, q.1.getD i 0 ≤ i) (hm : (-1 : Int32) < p2) (F_earlier_a : Fld Z h0 a "com/example/obedient_dog/obedientdog/topologydiscovery/AgeLog" "earlier" "[I" (.ref xe)) (V_xe : own_Ar Z h0 xe ke .int (own_is q.1)) : ∀ (f v : Nat) (T0 : State), v ≤ f → f ≤ 8 → Stand p l e ({ frames := 0, cells := 0, slots := 0, locals := 0 } : Room) s m args below meth c T0 locs 0 0 → T0.heap = h0 →
    (∀ (T' : State), Stand p l e ({ frames := 0, cells := 0, slots := 0, locals := 0 } : Room) s m args below meth c T' locs 0 0 → T'.heap = h0 → own_Fin p e below s Q k n (T'.setTop (mkF m 50 #[.val (.ref a), .val (.int p1), .val (.int p2), .val (.int (own_lw (some q) p2 f v))] []))) → own_Fin p e below s Q k n (T0.setTop (mkF m 22 #[.val (.ref a), .val (.int p1), .val (.int p2), .val (.int (Int32.ofNat v - (1 : Int32)))] [])) := by
  intro f
  induction f with
  | zero =>
    intro v T0 hv hf X0 e0 K
    obtain rfl : v = 0 := by omega
    rw [show Int32.ofNat 0 - (1 : Int32) = (-1 : Int32) from by decide]
    refine own_go (U' := T0.setTop (mkF m 23 #[.val (.ref a), .val (.int p1), .val (.int p2), .val (.int (-1 : Int32))] [(.int (-1 : Int32))])) (fun t k => XS.iloadN X0.here hx rfl (hb hby dle_22) rfl k) ?_
    refine own_go (U' := T0.setTop (mkF m 24 #[.val (.ref a), .val (.int p1), .val (.int p2), .val (.int (-1 : Int32))] [(.int p2), (.int (-1 : Int32))])) (fun t k => XS.iloadN X0.here hx rfl (hb hby dle_23) rfl k) ?_
    refine own_go (U' := T0.setTop (mkF m 50 #[.val (.ref a), .val (.int p1), .val (.int p2), .val (.int (-1 : Int32))] [])) (fun t k => XS.icmpYes X0.here hx rfl (pc0 := 24) (pc' := 50) rfl (hb hby dle_24) rfl (tlt hm).1 (by decide) (by decide) k) ?_
    exact K T0 X0 e0
  | succ f ih =>
    intro v T0 hv hf X0 e0 K
    cases v with
    | zero =>
      rw [show Int32.ofNat 0 - (1 : Int32) = (-1 : Int32) from by decide]
      refine own_go (U' := T0.setTop (mkF m 23 #[.val (.ref a), .val (.int p1), .val (.int p2), .val (.int (-1 : Int32))] [(.int (-1 : Int32))])) (fun t k => XS.iloadN X0.here hx rfl (hb hby dle_22) rfl k) ?_
      refine own_go (U' := T0.setTop (mkF m 24 #[.val (.ref a), .val (.int p1), .val (.int p2), .val (.int (-1 : Int32))] [(.int p2), (.int (-1 : Int32))])) (fun t k => XS.iloadN X0.here hx rfl (hb hby dle_23) rfl k) ?_
      refine own_go (U' := T0.setTop (mkF m 50 #[.val (.ref a), .val (.int p1), .val (.int p2), .val (.int (-1 : Int32))] [])) (fun t k => XS.icmpYes X0.here hx rfl (pc0 := 24) (pc' := 50) rfl (hb hby dle_24) rfl (tlt hm).1 (by decide) (by decide) k) ?_
      exact K T0 X0 e0
    | succ j =>
      rw [own_up1]
      have oj := own_ofn (i := j) (by omega)
      refine own_go (U' := T0.setTop (mkF m 23 #[.val (.ref a), .val (.int p1), .val (.int p2), .val (.int (Int32.ofNat j))] [(.int (Int32.ofNat j))])) (fun t k => XS.iloadN X0.here hx rfl (hb hby dle_22) rfl k) ?_
      refine own_go (U' := T0.setTop (mkF m 24 #[.val (.ref a), .val (.int p1), .val (.int p2), .val (.int (Int32.ofNat j))] [(.int p2), (.int (Int32.ofNat j))])) (fun t k => XS.iloadN X0.here hx rfl (hb hby dle_23) rfl k) ?_
      by_cases hjd : (Int32.ofNat j) < p2
      · refine own_go (U' := T0.setTop (mkF m 50 #[.val (.ref a), .val (.int p1), .val (.int p2), .val (.int (Int32.ofNat j))] [])) (fun t k => XS.icmpYes X0.here hx rfl (pc0 := 24) (pc' := 50) rfl (hb hby dle_24) rfl (tlt hjd).1 (by decide) (by decide) k) ?_
        rw [own_lw_s _ _ _ _ hjd] at K
        exact K T0 X0 e0
      · refine own_go (U' := T0.setTop (mkF m 27 #[.val (.ref a), .val (.int p1), .val (.int p2), .val (.int (Int32.ofNat j))] [])) (fun t k => XS.icmpNo X0.here hx rfl (hb hby dle_24) rfl (flt hjd).1 k) ?_
        rw [own_lw_some _ _ _ _ hjd] at K
        refine own_go (U' := T0.setTop (mkF m 28 #[.val (.ref a), .val (.int p1), .val (.int p2), .val (.int (Int32.ofNat j))] [(.ref a)])) (fun t k => XS.aloadN X0.here hx rfl (hb hby dle_27) rfl rfl k) ?_
        obtain ⟨T1, X1, e1, st1⟩ := getF X0 hx hZ hown (host := "") (Or.inl (hw _ (List.mem_of_getElem? (i := 137) rfl))) Via.refl e0 F_earlier_a (g := (mkF m 28 #[.val (.ref a), .val (.int p1), .val (.int p2), .val (.int (Int32.ofNat j))] [(.ref a)])) rfl rfl (hb hby dle_28)
        refine own_go (U' := T1.setTop (mkF m 31 #[.val (.ref a), .val (.int p1), .val (.int p2), .val (.int (Int32.ofNat j))] [(.ref xe)])) st1 ?_
        refine own_go (U' := T1.setTop (mkF m 38 #[.val (.ref a), .val (.int p1), .val (.int p2), .val (.int (Int32.ofNat j))] [])) (fun t k => XS.ifnonnullYes X1.here hx rfl (pc0 := 31) (pc' := 38) rfl (hb hby dle_31) rfl (by decide) (by decide) k) ?_
        refine own_go (U' := T1.setTop (mkF m 39 #[.val (.ref a), .val (.int p1), .val (.int p2), .val (.int (Int32.ofNat j))] [(.ref a)])) (fun t k => XS.aloadN X1.here hx rfl (hb hby dle_38) rfl rfl k) ?_
        obtain ⟨T2, X2, e2, st2⟩ := getF X1 hx hZ hown (host := "") (Or.inl (hw _ (List.mem_of_getElem? (i := 137) rfl))) Via.refl e1 F_earlier_a (g := (mkF m 39 #[.val (.ref a), .val (.int p1), .val (.int p2), .val (.int (Int32.ofNat j))] [(.ref a)])) rfl rfl (hb hby dle_39)
        refine own_go (U' := T2.setTop (mkF m 42 #[.val (.ref a), .val (.int p1), .val (.int p2), .val (.int (Int32.ofNat j))] [(.ref xe)])) st2 ?_
        refine own_go (U' := T2.setTop (mkF m 43 #[.val (.ref a), .val (.int p1), .val (.int p2), .val (.int (Int32.ofNat j))] [(.int (Int32.ofNat j)), (.ref xe)])) (fun t k => XS.iloadN X2.here hx rfl (hb hby dle_42) rfl k) ?_
        refine own_go (U' := T2.setTop (mkF m 44 #[.val (.ref a), .val (.int p1), .val (.int p2), .val (.int (Int32.ofNat j))] [(.int (Int32.ofNat (q.1.getD j 0)))])) (own_iaload X2 hx hZ e2 V_xe (j := (Int32.ofNat j)) oj.1 (i := j) oj.2.1 (v := (.int (Int32.ofNat (q.1.getD j 0)))) (own_is_at (by omega)) (g := (mkF m 43 #[.val (.ref a), .val (.int p1), .val (.int p2), .val (.int (Int32.ofNat j))] [(.int (Int32.ofNat j)), (.ref xe)])) rfl rfl (hb hby dle_43)) ?_
        refine own_go (U' := T2.setTop (mkF m 45 #[.val (.ref a), .val (.int p1), .val (.int p2), .val (.int (Int32.ofNat j))] [(.int (1 : Int32)), (.int (Int32.ofNat (q.1.getD j 0)))])) (fun t k => XS.iconst X2.here hx rfl (hb hby dle_44) k) ?_
        refine own_go (U' := T2.setTop (mkF m 46 #[.val (.ref a), .val (.int p1), .val (.int p2), .val (.int (Int32.ofNat j))] [(.int ((Int32.ofNat (q.1.getD j 0)) - (1 : Int32)))])) (fun t k => XS.isub X2.here hx rfl (hb hby dle_45) rfl k) ?_
        refine own_go (U' := T2.setTop (mkF m 47 #[.val (.ref a), .val (.int p1), .val (.int p2), .val (.int ((Int32.ofNat (q.1.getD j 0)) - (1 : Int32)))] [])) (fun t k => XS.istoreN X2.here hx rfl (hb hby dle_46) rfl (l' := #[.val (.ref a), .val (.int p1), .val (.int p2), .val (.int ((Int32.ofNat (q.1.getD j 0)) - (1 : Int32)))]) rfl k) ?_
        refine own_go (U' := T2.setTop (mkF m 22 #[.val (.ref a), .val (.int p1), .val (.int p2), .val (.int ((Int32.ofNat (q.1.getD j 0)) - (1 : Int32)))] [])) (fun t k => XS.goto X2.here hx rfl (pc0 := 47) (pc' := 22) rfl (hb hby dle_47) (by decide) (by decide) k) ?_
        have hj2 := hdec j
        exact ih (q.1.getD j 0) T2 (by omega) (by omega) X2 e2 K
theorem own_efle (m : MethodId) (a : Addr) (p1 p2 : Int32) : entryFrame m #[(.ref a), (.int p1), (.int p2)] 4 = mkF m 0 #[.val (.ref a), .val (.int p1), .val (.int p2), .unset] [] := by first | (simp [entryFrame, mkF, argsToLocals, Value.category]; done) | rfl
set_option maxRecDepth 65536 in
set_option maxHeartbeats 40000000 in
theorem own_rmle (l : Launch) (Z : State) (a0 : Array Value) (hw : ∀ d ∈ tables_1, d.before a0 Z = true) (a : Addr) (p1 p2 : Int32) (h0 : Heap) (n0 : Nat) (la ra ga nu ha : Addr) (kl kr kg kh : ClassId) (sg : own_S) (se : Nat) (ag : List Int32) (cs : List Addr) (tb : Value) (hdec : ∀ q, sg.2.2.2 = some q → ∀ i, q.1.getD i 0 ≤ i) (hen : sg.2.2.1 ≤ 8) (hp1 : ¬ p1 < 0) (hp2 : ¬ p2 < 0) (hSt : own_St Z h0 n0 a la ra ga nu ha kl kr kg kh sg se ag tb cs) :
    own_C l Z (⟨"com/example/obedient_dog/obedientdog/topologydiscovery/AgeLog", "lastEntry", "(II)I"⟩ : MethodName) prog_39_method_9_code 4 (some .int) [] ({ frames := 0, cells := 0, slots := 0, locals := 0 } : Room) #[(.ref a), (.int p1), (.int p2)] h0 (fun v h L => v = some (.int (own_le sg p1 p2)) ∧ L = [] ∧ h = h0) := by
  refine own_body (plainFor_of_name own_pn1) fun p e s m below meth c s₁ hx hby hml hret hlk hown hnm hZ X0 e0 => ?_
  rw [own_efle m a p1 p2]
  have hm := own_m1 hp2
  obtain ⟨lt, rs, en, ch⟩ := sg
  obtain ⟨sz, pr, hs, ea, lr, F_a, V_la, V_ra, V_ga, hgl, E_nu, F_hashes_nu, V_ha, hinv, hcf, htb, ⟨ne_la_ra, ne_la_ga, ne_ra_ga, ne_ha_la, ne_ha_ra, ne_ha_ga⟩, ⟨g_a, g_la, g_ra, g_ga⟩, hne⟩ := hSt
  dsimp only at F_a V_la V_ra V_ga hcf hdec hen ⊢
  obtain ⟨hll, hrl, hle, hse, hcl, hr8⟩ := hinv
  dsimp only at hll hle hcl
  have hea := hcf.refs.1
  have hlr := hcf.refs.2
  obtain ⟨E_a, F_latest_a, F_raised_a, F_ages_a, F_numbers_a, F_entries_a, F_size_a, F_sealed_a, F_present_a, F_hash_a, F_table_a, F_earlier_a, F_later_a⟩ := F_a
  refine own_go (U' := s₁.setTop (mkF m 1 #[.val (.ref a), .val (.int p1), .val (.int p2), .unset] [(.int p1)])) (fun t k => XS.iloadN X0.here hx rfl (hb hby dle_0) rfl k) ?_
  refine own_go (U' := s₁.setTop (mkF m 2 #[.val (.ref a), .val (.int p1), .val (.int p2), .unset] [(.ref a), (.int p1)])) (fun t k => XS.aloadN X0.here hx rfl (hb hby dle_1) rfl rfl k) ?_
  obtain ⟨T1, X1, e1, st1⟩ := getF X0 hx hZ hown (host := "") (Or.inl (hw _ (List.mem_of_getElem? (i := 63) rfl))) Via.refl e0 F_latest_a (g := (mkF m 2 #[.val (.ref a), .val (.int p1), .val (.int p2), .unset] [(.ref a), (.int p1)])) rfl rfl (hb hby dle_2)
  refine own_go (U' := T1.setTop (mkF m 5 #[.val (.ref a), .val (.int p1), .val (.int p2), .unset] [(.ref la), (.int p1)])) st1 ?_
  refine own_go (U' := T1.setTop (mkF m 6 #[.val (.ref a), .val (.int p1), .val (.int p2), .unset] [(.int (8 : Int32)), (.int p1)])) (own_arrlen X1 hx hZ e1 V_la (n := (8 : Int32)) (by simp [own_is, hll]) (g := (mkF m 5 #[.val (.ref a), .val (.int p1), .val (.int p2), .unset] [(.ref la), (.int p1)])) rfl rfl (hb hby dle_5)) ?_
  by_cases hq8 : p1 < (8 : Int32)
  · refine own_go (U' := T1.setTop (mkF m 9 #[.val (.ref a), .val (.int p1), .val (.int p2), .unset] [])) (fun t k => XS.icmpNo X1.here hx rfl (hb hby dle_6) rfl (tlt hq8).2.1 k) ?_
    have hci : p1.toNatClampNeg < 8 := by
      have e8 : (8 : Int32).toInt = 8 := rfl
      have e0 : (0 : Int32).toInt = 0 := rfl
      have h8 := hq8
      have h9 := hp1
      rw [Int32.lt_iff_toInt_lt, e8] at h8
      rw [Int32.lt_iff_toInt_lt, e0] at h9
      show p1.toInt.toNat < 8
      omega
    refine own_go (U' := T1.setTop (mkF m 10 #[.val (.ref a), .val (.int p1), .val (.int p2), .unset] [(.ref a)])) (fun t k => XS.aloadN X1.here hx rfl (hb hby dle_9) rfl rfl k) ?_
    obtain ⟨T2, X2, e2, st2⟩ := getF X1 hx hZ hown (host := "") (Or.inl (hw _ (List.mem_of_getElem? (i := 63) rfl))) Via.refl e1 F_latest_a (g := (mkF m 10 #[.val (.ref a), .val (.int p1), .val (.int p2), .unset] [(.ref a)])) rfl rfl (hb hby dle_10)
    refine own_go (U' := T2.setTop (mkF m 13 #[.val (.ref a), .val (.int p1), .val (.int p2), .unset] [(.ref la)])) st2 ?_
    refine own_go (U' := T2.setTop (mkF m 14 #[.val (.ref a), .val (.int p1), .val (.int p2), .unset] [(.int p1), (.ref la)])) (fun t k => XS.iloadN X2.here hx rfl (hb hby dle_13) rfl k) ?_
    refine own_go (U' := T2.setTop (mkF m 15 #[.val (.ref a), .val (.int p1), .val (.int p2), .unset] [(.int (Int32.ofNat (lt.getD p1.toNatClampNeg 0)))])) (own_iaload X2 hx hZ e2 V_la (j := p1) hp1 (i := p1.toNatClampNeg) rfl (v := (.int (Int32.ofNat (lt.getD p1.toNatClampNeg 0)))) (own_is_at (by omega)) (g := (mkF m 14 #[.val (.ref a), .val (.int p1), .val (.int p2), .unset] [(.int p1), (.ref la)])) rfl rfl (hb hby dle_14)) ?_
    have hgd : lt.getD p1.toNatClampNeg 0 ≤ en := own_gd hle
    refine own_go (U' := T2.setTop (mkF m 16 #[.val (.ref a), .val (.int p1), .val (.int p2), .unset] [(.int (1 : Int32)), (.int (Int32.ofNat (lt.getD p1.toNatClampNeg 0)))])) (fun t k => XS.iconst X2.here hx rfl (hb hby dle_15) k) ?_
    refine own_go (U' := T2.setTop (mkF m 17 #[.val (.ref a), .val (.int p1), .val (.int p2), .unset] [(.int ((Int32.ofNat (lt.getD p1.toNatClampNeg 0)) - (1 : Int32)))])) (fun t k => XS.isub X2.here hx rfl (hb hby dle_16) rfl k) ?_
    refine own_go (U' := T2.setTop (mkF m 21 #[.val (.ref a), .val (.int p1), .val (.int p2), .unset] [(.int ((Int32.ofNat (lt.getD p1.toNatClampNeg 0)) - (1 : Int32)))])) (fun t k => XS.goto X2.here hx rfl (pc0 := 17) (pc' := 21) rfl (hb hby dle_17) (by decide) (by decide) k) ?_
    refine own_go (U' := T2.setTop (mkF m 22 #[.val (.ref a), .val (.int p1), .val (.int p2), .val (.int ((Int32.ofNat (lt.getD p1.toNatClampNeg 0)) - (1 : Int32)))] [])) (fun t k => XS.istoreN X2.here hx rfl (hb hby dle_21) rfl (l' := #[.val (.ref a), .val (.int p1), .val (.int p2), .val (.int ((Int32.ofNat (lt.getD p1.toNatClampNeg 0)) - (1 : Int32)))]) rfl k) ?_
    obtain ⟨v', hv'⟩ : ∃ z, z = lt.getD p1.toNatClampNeg 0 := ⟨_, rfl⟩
    rw [← hv'] at hgd ⊢
    cases ch with
    | none =>
      obtain ⟨rfl, rfl, rfl⟩ := hcf
      cases v' with
      | zero =>
        rw [show Int32.ofNat 0 - (1 : Int32) = (-1 : Int32) from by decide]
        refine own_go (U' := T2.setTop (mkF m 23 #[.val (.ref a), .val (.int p1), .val (.int p2), .val (.int (-1 : Int32))] [(.int (-1 : Int32))])) (fun t k => XS.iloadN X2.here hx rfl (hb hby dle_22) rfl k) ?_
        refine own_go (U' := T2.setTop (mkF m 24 #[.val (.ref a), .val (.int p1), .val (.int p2), .val (.int (-1 : Int32))] [(.int p2), (.int (-1 : Int32))])) (fun t k => XS.iloadN X2.here hx rfl (hb hby dle_23) rfl k) ?_
        refine own_go (U' := T2.setTop (mkF m 50 #[.val (.ref a), .val (.int p1), .val (.int p2), .val (.int (-1 : Int32))] [])) (fun t k => XS.icmpYes X2.here hx rfl (pc0 := 24) (pc' := 50) rfl (hb hby dle_24) rfl (tlt hm).1 (by decide) (by decide) k) ?_
        refine own_go (U' := T2.setTop (mkF m 51 #[.val (.ref a), .val (.int p1), .val (.int p2), .val (.int (-1 : Int32))] [(.int (-1 : Int32))])) (fun t k => XS.iloadN X2.here hx rfl (hb hby dle_50) rfl k) ?_
        refine own_retI X2 hx hret hlk (hb hby dle_51) ?_ (by decide) (by decide)
        refine ⟨?_, rfl, e2⟩
        rw [own_le, if_pos hq8]
        dsimp only
        rw [← hv']
        rfl
      | succ j =>
        rw [own_up1]
        refine own_go (U' := T2.setTop (mkF m 23 #[.val (.ref a), .val (.int p1), .val (.int p2), .val (.int (Int32.ofNat j))] [(.int (Int32.ofNat j))])) (fun t k => XS.iloadN X2.here hx rfl (hb hby dle_22) rfl k) ?_
        refine own_go (U' := T2.setTop (mkF m 24 #[.val (.ref a), .val (.int p1), .val (.int p2), .val (.int (Int32.ofNat j))] [(.int p2), (.int (Int32.ofNat j))])) (fun t k => XS.iloadN X2.here hx rfl (hb hby dle_23) rfl k) ?_
        by_cases hjd : (Int32.ofNat j) < p2
        · refine own_go (U' := T2.setTop (mkF m 50 #[.val (.ref a), .val (.int p1), .val (.int p2), .val (.int (Int32.ofNat j))] [])) (fun t k => XS.icmpYes X2.here hx rfl (pc0 := 24) (pc' := 50) rfl (hb hby dle_24) rfl (tlt hjd).1 (by decide) (by decide) k) ?_
          refine own_go (U' := T2.setTop (mkF m 51 #[.val (.ref a), .val (.int p1), .val (.int p2), .val (.int (Int32.ofNat j))] [(.int (Int32.ofNat j))])) (fun t k => XS.iloadN X2.here hx rfl (hb hby dle_50) rfl k) ?_
          refine own_retI X2 hx hret hlk (hb hby dle_51) ?_ (by decide) (by decide)
          refine ⟨?_, rfl, e2⟩
          rw [own_le, if_pos hq8]
          dsimp only
          rw [← hv', own_lw_s _ _ _ _ hjd]
        · refine own_go (U' := T2.setTop (mkF m 27 #[.val (.ref a), .val (.int p1), .val (.int p2), .val (.int (Int32.ofNat j))] [])) (fun t k => XS.icmpNo X2.here hx rfl (hb hby dle_24) rfl (flt hjd).1 k) ?_
          refine own_go (U' := T2.setTop (mkF m 28 #[.val (.ref a), .val (.int p1), .val (.int p2), .val (.int (Int32.ofNat j))] [(.ref a)])) (fun t k => XS.aloadN X2.here hx rfl (hb hby dle_27) rfl rfl k) ?_
          obtain ⟨T3, X3, e3, st3⟩ := getF X2 hx hZ hown (host := "") (Or.inl (hw _ (List.mem_of_getElem? (i := 137) rfl))) Via.refl e2 F_earlier_a (g := (mkF m 28 #[.val (.ref a), .val (.int p1), .val (.int p2), .val (.int (Int32.ofNat j))] [(.ref a)])) rfl rfl (hb hby dle_28)
          refine own_go (U' := T3.setTop (mkF m 31 #[.val (.ref a), .val (.int p1), .val (.int p2), .val (.int (Int32.ofNat j))] [.null])) st3 ?_
          refine own_go (U' := T3.setTop (mkF m 34 #[.val (.ref a), .val (.int p1), .val (.int p2), .val (.int (Int32.ofNat j))] [])) (fun t k => XS.ifnonnullNo X3.here hx rfl (hb hby dle_31) rfl k) ?_
          refine own_go (U' := T3.setTop (mkF m 35 #[.val (.ref a), .val (.int p1), .val (.int p2), .val (.int (Int32.ofNat j))] [(.int (-1 : Int32))])) (fun t k => XS.iconst X3.here hx rfl (hb hby dle_34) k) ?_
          refine own_go (U' := T3.setTop (mkF m 46 #[.val (.ref a), .val (.int p1), .val (.int p2), .val (.int (Int32.ofNat j))] [(.int (-1 : Int32))])) (fun t k => XS.goto X3.here hx rfl (pc0 := 35) (pc' := 46) rfl (hb hby dle_35) (by decide) (by decide) k) ?_
          refine own_go (U' := T3.setTop (mkF m 47 #[.val (.ref a), .val (.int p1), .val (.int p2), .val (.int (-1 : Int32))] [])) (fun t k => XS.istoreN X3.here hx rfl (hb hby dle_46) rfl (l' := #[.val (.ref a), .val (.int p1), .val (.int p2), .val (.int (-1 : Int32))]) rfl k) ?_
          refine own_go (U' := T3.setTop (mkF m 22 #[.val (.ref a), .val (.int p1), .val (.int p2), .val (.int (-1 : Int32))] [])) (fun t k => XS.goto X3.here hx rfl (pc0 := 47) (pc' := 22) rfl (hb hby dle_47) (by decide) (by decide) k) ?_
          refine own_go (U' := T3.setTop (mkF m 23 #[.val (.ref a), .val (.int p1), .val (.int p2), .val (.int (-1 : Int32))] [(.int (-1 : Int32))])) (fun t k => XS.iloadN X3.here hx rfl (hb hby dle_22) rfl k) ?_
          refine own_go (U' := T3.setTop (mkF m 24 #[.val (.ref a), .val (.int p1), .val (.int p2), .val (.int (-1 : Int32))] [(.int p2), (.int (-1 : Int32))])) (fun t k => XS.iloadN X3.here hx rfl (hb hby dle_23) rfl k) ?_
          refine own_go (U' := T3.setTop (mkF m 50 #[.val (.ref a), .val (.int p1), .val (.int p2), .val (.int (-1 : Int32))] [])) (fun t k => XS.icmpYes X3.here hx rfl (pc0 := 24) (pc' := 50) rfl (hb hby dle_24) rfl (tlt hm).1 (by decide) (by decide) k) ?_
          refine own_go (U' := T3.setTop (mkF m 51 #[.val (.ref a), .val (.int p1), .val (.int p2), .val (.int (-1 : Int32))] [(.int (-1 : Int32))])) (fun t k => XS.iloadN X3.here hx rfl (hb hby dle_50) rfl k) ?_
          refine own_retI X3 hx hret hlk (hb hby dle_51) ?_ (by decide) (by decide)
          refine ⟨?_, rfl, e3⟩
          rw [own_le, if_pos hq8]
          dsimp only
          rw [← hv', own_lw_none _ _ _ hjd]
    | some q =>
      obtain ⟨xe, xl, ke, kl2, rfl, rfl, rfl, V_xe, V_xl, g_xe, g_xl, ne_xe_xl⟩ := hcf
      obtain ⟨hq1, hq2, hq3, hq4⟩ := hcl q rfl
      refine own_ll hx hZ hw hby hml hown a xe p1 p2 q ke hq1 (hdec q rfl) hm F_earlier_a V_xe 8 v' _ (by omega) (Nat.le_refl _) X2 e2 fun T' X' e' => ?_
      refine own_go (U' := T'.setTop (mkF m 51 #[.val (.ref a), .val (.int p1), .val (.int p2), .val (.int (own_lw (some q) p2 8 v'))] [(.int (own_lw (some q) p2 8 v'))])) (fun t k => XS.iloadN X'.here hx rfl (hb hby dle_50) rfl k) ?_
      refine own_retI X' hx hret hlk (hb hby dle_51) ?_ (by decide) (by decide)
      refine ⟨?_, rfl, e'⟩
      rw [own_le, if_pos hq8]
      dsimp only
      rw [← hv']
  · refine own_go (U' := T1.setTop (mkF m 20 #[.val (.ref a), .val (.int p1), .val (.int p2), .unset] [])) (fun t k => XS.icmpYes X1.here hx rfl (pc0 := 6) (pc' := 20) rfl (hb hby dle_6) rfl (flt hq8).2.1 (by decide) (by decide) k) ?_
    refine own_go (U' := T1.setTop (mkF m 21 #[.val (.ref a), .val (.int p1), .val (.int p2), .unset] [(.int (-1 : Int32))])) (fun t k => XS.iconst X1.here hx rfl (hb hby dle_20) k) ?_
    refine own_go (U' := T1.setTop (mkF m 22 #[.val (.ref a), .val (.int p1), .val (.int p2), .val (.int (-1 : Int32))] [])) (fun t k => XS.istoreN X1.here hx rfl (hb hby dle_21) rfl (l' := #[.val (.ref a), .val (.int p1), .val (.int p2), .val (.int (-1 : Int32))]) rfl k) ?_
    refine own_go (U' := T1.setTop (mkF m 23 #[.val (.ref a), .val (.int p1), .val (.int p2), .val (.int (-1 : Int32))] [(.int (-1 : Int32))])) (fun t k => XS.iloadN X1.here hx rfl (hb hby dle_22) rfl k) ?_
    refine own_go (U' := T1.setTop (mkF m 24 #[.val (.ref a), .val (.int p1), .val (.int p2), .val (.int (-1 : Int32))] [(.int p2), (.int (-1 : Int32))])) (fun t k => XS.iloadN X1.here hx rfl (hb hby dle_23) rfl k) ?_
    refine own_go (U' := T1.setTop (mkF m 50 #[.val (.ref a), .val (.int p1), .val (.int p2), .val (.int (-1 : Int32))] [])) (fun t k => XS.icmpYes X1.here hx rfl (pc0 := 24) (pc' := 50) rfl (hb hby dle_24) rfl (tlt hm).1 (by decide) (by decide) k) ?_
    refine own_go (U' := T1.setTop (mkF m 51 #[.val (.ref a), .val (.int p1), .val (.int p2), .val (.int (-1 : Int32))] [(.int (-1 : Int32))])) (fun t k => XS.iloadN X1.here hx rfl (hb hby dle_50) rfl k) ?_
    refine own_retI X1 hx hret hlk (hb hby dle_51) ?_ (by decide) (by decide)
    refine ⟨?_, rfl, e1⟩
    rw [own_le, if_neg hq8]
theorem own_pn8 : plainName "com/example/obedient_dog/obedientdog/topologydiscovery/AgeLogLastEntryPinLaw" = true := by first | (simp [plainName, overriddenIn]; done) | decide +kernel
theorem own_ef0 (m : MethodId) (p1 p2 p3 p4 p5 p6 : Int32) : entryFrame m #[(.int p1), (.int p2), (.int p3), (.int p4), (.int p5), (.int p6)] maxLocals = mkF m 0 #[.val (.int p1), .val (.int p2), .val (.int p3), .val (.int p4), .val (.int p5), .val (.int p6), .unset, .unset, .unset, .unset, .unset, .unset, .unset, .unset, .unset, .unset, .unset, .unset, .unset, .unset, .unset, .unset, .unset, .unset] [] := by first | (simp [entryFrame, mkF, argsToLocals, Value.category, maxLocals]; done) | rfl
set_option maxRecDepth 65536 in
set_option maxHeartbeats 40000000 in
theorem own_rm0 (l : Launch) (Z : State) (a0 : Array Value) (hw : ∀ d ∈ tables_1, d.before a0 Z = true) (ws : List Jvm.Cond) (p1 p2 p3 p4 p5 p6 : Int32) (h0 : Heap) (n0 : Nat) (dd : Addr) (O : Old Z n0 h0) (S_dd : Sta Z Z.heap "java/util/ArrayList" "DEFAULTCAPACITY_EMPTY_ELEMENTDATA" "[Ljava/lang/Object;" (.ref dd)) :
    own_C l Z x code maxLocals ret ws room_1 #[(.int p1), (.int p2), (.int p3), (.int p4), (.int p5), (.int p6)] h0 (fun v h L => v = some (.int 1) ∧ Fr n0 L) := by
  refine own_body (plainFor_of_name own_pn8) fun p e s m below meth c s₁ hx hby hml hret hlk hown hnm hZ X0 e0 => ?_
  rw [own_ef0 m p1 p2 p3 p4 p5 p6]
  have hml : c.maxLocals = 24 := hml
  have hret : meth.sig.returnType = some .boolean := hret
  have N0 := Fr.nil n0
  refine own_go (U' := s₁.setTop (mkF m 1 #[.val (.int p1), .val (.int p2), .val (.int p3), .val (.int p4), .val (.int p5), .val (.int p6), .unset, .unset, .unset, .unset, .unset, .unset, .unset, .unset, .unset, .unset, .unset, .unset, .unset, .unset, .unset, .unset, .unset, .unset] [(.int p1)])) (fun t k => XS.iloadN X0.here hx rfl (hb hby at_0) rfl k) ?_
  refine own_go (U' := s₁.setTop (mkF m 2 #[.val (.int p1), .val (.int p2), .val (.int p3), .val (.int p4), .val (.int p5), .val (.int p6), .unset, .unset, .unset, .unset, .unset, .unset, .unset, .unset, .unset, .unset, .unset, .unset, .unset, .unset, .unset, .unset, .unset, .unset] [(.int (3 : Int32)), (.int p1)])) (fun t k => XS.iconst X0.here hx rfl (hb hby at_1) k) ?_
  refine own_go (U' := s₁.setTop (mkF m 3 #[.val (.int p1), .val (.int p2), .val (.int p3), .val (.int p4), .val (.int p5), .val (.int p6), .unset, .unset, .unset, .unset, .unset, .unset, .unset, .unset, .unset, .unset, .unset, .unset, .unset, .unset, .unset, .unset, .unset, .unset] [(.int (p1 &&& (3 : Int32)))])) (fun t k => XS.iand X0.here hx rfl (hb hby at_2) rfl k) ?_
  obtain ⟨m1, hm1, em1⟩ := own_three p1
  generalize hv_x1 : (p1 &&& (3 : Int32)) = x1
  have ex1 : x1 = Int32.ofNat m1 := hv_x1.symm.trans em1
  refine own_go (U' := s₁.setTop (mkF m 5 #[.val (.int p1), .val (.int p2), .val (.int p3), .val (.int p4), .val (.int p5), .val (.int p6), .val (.int x1), .unset, .unset, .unset, .unset, .unset, .unset, .unset, .unset, .unset, .unset, .unset, .unset, .unset, .unset, .unset, .unset, .unset] [])) (fun t k => XS.istore X0.here hx rfl (hb hby at_3) rfl (l' := #[.val (.int p1), .val (.int p2), .val (.int p3), .val (.int p4), .val (.int p5), .val (.int p6), .val (.int x1), .unset, .unset, .unset, .unset, .unset, .unset, .unset, .unset, .unset, .unset, .unset, .unset, .unset, .unset, .unset, .unset, .unset]) rfl k) ?_
  refine own_go (U' := s₁.setTop (mkF m 6 #[.val (.int p1), .val (.int p2), .val (.int p3), .val (.int p4), .val (.int p5), .val (.int p6), .val (.int x1), .unset, .unset, .unset, .unset, .unset, .unset, .unset, .unset, .unset, .unset, .unset, .unset, .unset, .unset, .unset, .unset, .unset] [(.int p2)])) (fun t k => XS.iloadN X0.here hx rfl (hb hby at_5) rfl k) ?_
  refine own_go (U' := s₁.setTop (mkF m 7 #[.val (.int p1), .val (.int p2), .val (.int p3), .val (.int p4), .val (.int p5), .val (.int p6), .val (.int x1), .unset, .unset, .unset, .unset, .unset, .unset, .unset, .unset, .unset, .unset, .unset, .unset, .unset, .unset, .unset, .unset, .unset] [(.int (3 : Int32)), (.int p2)])) (fun t k => XS.iconst X0.here hx rfl (hb hby at_6) k) ?_
  refine own_go (U' := s₁.setTop (mkF m 8 #[.val (.int p1), .val (.int p2), .val (.int p3), .val (.int p4), .val (.int p5), .val (.int p6), .val (.int x1), .unset, .unset, .unset, .unset, .unset, .unset, .unset, .unset, .unset, .unset, .unset, .unset, .unset, .unset, .unset, .unset, .unset] [(.int (p2 &&& (3 : Int32)))])) (fun t k => XS.iand X0.here hx rfl (hb hby at_7) rfl k) ?_
  obtain ⟨m2, hm2, em2⟩ := own_three p2
  generalize hv_x2 : (p2 &&& (3 : Int32)) = x2
  have ex2 : x2 = Int32.ofNat m2 := hv_x2.symm.trans em2
  refine own_go (U' := s₁.setTop (mkF m 10 #[.val (.int p1), .val (.int p2), .val (.int p3), .val (.int p4), .val (.int p5), .val (.int p6), .val (.int x1), .val (.int x2), .unset, .unset, .unset, .unset, .unset, .unset, .unset, .unset, .unset, .unset, .unset, .unset, .unset, .unset, .unset, .unset] [])) (fun t k => XS.istore X0.here hx rfl (hb hby at_8) rfl (l' := #[.val (.int p1), .val (.int p2), .val (.int p3), .val (.int p4), .val (.int p5), .val (.int p6), .val (.int x1), .val (.int x2), .unset, .unset, .unset, .unset, .unset, .unset, .unset, .unset, .unset, .unset, .unset, .unset, .unset, .unset, .unset, .unset]) rfl k) ?_
  refine own_go (U' := s₁.setTop (mkF m 11 #[.val (.int p1), .val (.int p2), .val (.int p3), .val (.int p4), .val (.int p5), .val (.int p6), .val (.int x1), .val (.int x2), .unset, .unset, .unset, .unset, .unset, .unset, .unset, .unset, .unset, .unset, .unset, .unset, .unset, .unset, .unset, .unset] [(.int p3)])) (fun t k => XS.iloadN X0.here hx rfl (hb hby at_10) rfl k) ?_
  refine own_go (U' := s₁.setTop (mkF m 12 #[.val (.int p1), .val (.int p2), .val (.int p3), .val (.int p4), .val (.int p5), .val (.int p6), .val (.int x1), .val (.int x2), .unset, .unset, .unset, .unset, .unset, .unset, .unset, .unset, .unset, .unset, .unset, .unset, .unset, .unset, .unset, .unset] [(.int (3 : Int32)), (.int p3)])) (fun t k => XS.iconst X0.here hx rfl (hb hby at_11) k) ?_
  refine own_go (U' := s₁.setTop (mkF m 13 #[.val (.int p1), .val (.int p2), .val (.int p3), .val (.int p4), .val (.int p5), .val (.int p6), .val (.int x1), .val (.int x2), .unset, .unset, .unset, .unset, .unset, .unset, .unset, .unset, .unset, .unset, .unset, .unset, .unset, .unset, .unset, .unset] [(.int (p3 &&& (3 : Int32)))])) (fun t k => XS.iand X0.here hx rfl (hb hby at_12) rfl k) ?_
  obtain ⟨m3, hm3, em3⟩ := own_three p3
  generalize hv_x3 : (p3 &&& (3 : Int32)) = x3
  have ex3 : x3 = Int32.ofNat m3 := hv_x3.symm.trans em3
  refine own_go (U' := s₁.setTop (mkF m 15 #[.val (.int p1), .val (.int p2), .val (.int p3), .val (.int p4), .val (.int p5), .val (.int p6), .val (.int x1), .val (.int x2), .val (.int x3), .unset, .unset, .unset, .unset, .unset, .unset, .unset, .unset, .unset, .unset, .unset, .unset, .unset, .unset, .unset] [])) (fun t k => XS.istore X0.here hx rfl (hb hby at_13) rfl (l' := #[.val (.int p1), .val (.int p2), .val (.int p3), .val (.int p4), .val (.int p5), .val (.int p6), .val (.int x1), .val (.int x2), .val (.int x3), .unset, .unset, .unset, .unset, .unset, .unset, .unset, .unset, .unset, .unset, .unset, .unset, .unset, .unset, .unset]) rfl k) ?_
  refine own_go (U' := s₁.setTop (mkF m 16 #[.val (.int p1), .val (.int p2), .val (.int p3), .val (.int p4), .val (.int p5), .val (.int p6), .val (.int x1), .val (.int x2), .val (.int x3), .unset, .unset, .unset, .unset, .unset, .unset, .unset, .unset, .unset, .unset, .unset, .unset, .unset, .unset, .unset] [(.int p4)])) (fun t k => XS.iloadN X0.here hx rfl (hb hby at_15) rfl k) ?_
  refine own_go (U' := s₁.setTop (mkF m 17 #[.val (.int p1), .val (.int p2), .val (.int p3), .val (.int p4), .val (.int p5), .val (.int p6), .val (.int x1), .val (.int x2), .val (.int x3), .unset, .unset, .unset, .unset, .unset, .unset, .unset, .unset, .unset, .unset, .unset, .unset, .unset, .unset, .unset] [(.int (1 : Int32)), (.int p4)])) (fun t k => XS.iconst X0.here hx rfl (hb hby at_16) k) ?_
  refine own_go (U' := s₁.setTop (mkF m 18 #[.val (.int p1), .val (.int p2), .val (.int p3), .val (.int p4), .val (.int p5), .val (.int p6), .val (.int x1), .val (.int x2), .val (.int x3), .unset, .unset, .unset, .unset, .unset, .unset, .unset, .unset, .unset, .unset, .unset, .unset, .unset, .unset, .unset] [(.int (p4 &&& (1 : Int32)))])) (fun t k => XS.iand X0.here hx rfl (hb hby at_17) rfl k) ?_
  refine own_go (U' := s₁.setTop (mkF m 26 #[.val (.int p1), .val (.int p2), .val (.int p3), .val (.int p4), .val (.int p5), .val (.int p6), .val (.int x1), .val (.int x2), .val (.int x3), .unset, .unset, .unset, .unset, .unset, .unset, .unset, .unset, .unset, .unset, .unset, .unset, .unset, .unset, .unset] [(.int (if (p4 &&& (1 : Int32)) = (0 : Int32) then (0 : Int32) else (1 : Int32)))])) (fun t k => ?_) ?_
  · show Steps p.tables e below (s₁.setTop (mkF m 18 #[.val (.int p1), .val (.int p2), .val (.int p3), .val (.int p4), .val (.int p5), .val (.int p6), .val (.int x1), .val (.int x2), .val (.int x3), .unset, .unset, .unset, .unset, .unset, .unset, .unset, .unset, .unset, .unset, .unset, .unset, .unset, .unset, .unset] [(.int (p4 &&& (1 : Int32)))])) _
    by_cases hd18 : (p4 &&& (1 : Int32)) = (0 : Int32)
    · simp only [if_pos hd18] at k
      refine XS.ifYes X0.here hx rfl (pc0 := 18) (pc' := 25) rfl (hb hby at_18) rfl ((if0 _ _).trans (teq hd18).1) (by decide) (by decide) ?_
      show Steps p.tables e below (s₁.setTop (mkF m 25 #[.val (.int p1), .val (.int p2), .val (.int p3), .val (.int p4), .val (.int p5), .val (.int p6), .val (.int x1), .val (.int x2), .val (.int x3), .unset, .unset, .unset, .unset, .unset, .unset, .unset, .unset, .unset, .unset, .unset, .unset, .unset, .unset, .unset] [])) _
      refine XS.iconst X0.here hx rfl (hb hby at_25) ?_
      show Steps p.tables e below (s₁.setTop (mkF m 26 #[.val (.int p1), .val (.int p2), .val (.int p3), .val (.int p4), .val (.int p5), .val (.int p6), .val (.int x1), .val (.int x2), .val (.int x3), .unset, .unset, .unset, .unset, .unset, .unset, .unset, .unset, .unset, .unset, .unset, .unset, .unset, .unset, .unset] [(.int (0 : Int32))])) _
      exact k
    · simp only [if_neg hd18] at k
      refine XS.ifNo X0.here hx rfl (hb hby at_18) rfl ((if0 _ _).trans (feq hd18).1) ?_
      show Steps p.tables e below (s₁.setTop (mkF m 21 #[.val (.int p1), .val (.int p2), .val (.int p3), .val (.int p4), .val (.int p5), .val (.int p6), .val (.int x1), .val (.int x2), .val (.int x3), .unset, .unset, .unset, .unset, .unset, .unset, .unset, .unset, .unset, .unset, .unset, .unset, .unset, .unset, .unset] [])) _
      refine XS.iconst X0.here hx rfl (hb hby at_21) ?_
      show Steps p.tables e below (s₁.setTop (mkF m 22 #[.val (.int p1), .val (.int p2), .val (.int p3), .val (.int p4), .val (.int p5), .val (.int p6), .val (.int x1), .val (.int x2), .val (.int x3), .unset, .unset, .unset, .unset, .unset, .unset, .unset, .unset, .unset, .unset, .unset, .unset, .unset, .unset, .unset] [(.int (1 : Int32))])) _
      refine XS.goto X0.here hx rfl (pc0 := 22) (pc' := 26) rfl (hb hby at_22) (by decide) (by decide) ?_
      show Steps p.tables e below (s₁.setTop (mkF m 26 #[.val (.int p1), .val (.int p2), .val (.int p3), .val (.int p4), .val (.int p5), .val (.int p6), .val (.int x1), .val (.int x2), .val (.int x3), .unset, .unset, .unset, .unset, .unset, .unset, .unset, .unset, .unset, .unset, .unset, .unset, .unset, .unset, .unset] [(.int (1 : Int32))])) _
      exact k
  generalize hv_c1 : (if (p4 &&& (1 : Int32)) = (0 : Int32) then (0 : Int32) else (1 : Int32)) = c1
  have hc1 := own_bit _ hv_c1
  refine own_go (U' := s₁.setTop (mkF m 28 #[.val (.int p1), .val (.int p2), .val (.int p3), .val (.int p4), .val (.int p5), .val (.int p6), .val (.int x1), .val (.int x2), .val (.int x3), .val (.int c1), .unset, .unset, .unset, .unset, .unset, .unset, .unset, .unset, .unset, .unset, .unset, .unset, .unset, .unset] [])) (fun t k => XS.istore X0.here hx rfl (hb hby at_26) rfl (l' := #[.val (.int p1), .val (.int p2), .val (.int p3), .val (.int p4), .val (.int p5), .val (.int p6), .val (.int x1), .val (.int x2), .val (.int x3), .val (.int c1), .unset, .unset, .unset, .unset, .unset, .unset, .unset, .unset, .unset, .unset, .unset, .unset, .unset, .unset]) rfl k) ?_
  refine own_go (U' := s₁.setTop (mkF m 29 #[.val (.int p1), .val (.int p2), .val (.int p3), .val (.int p4), .val (.int p5), .val (.int p6), .val (.int x1), .val (.int x2), .val (.int x3), .val (.int c1), .unset, .unset, .unset, .unset, .unset, .unset, .unset, .unset, .unset, .unset, .unset, .unset, .unset, .unset] [(.int p4)])) (fun t k => XS.iloadN X0.here hx rfl (hb hby at_28) rfl k) ?_
  refine own_go (U' := s₁.setTop (mkF m 30 #[.val (.int p1), .val (.int p2), .val (.int p3), .val (.int p4), .val (.int p5), .val (.int p6), .val (.int x1), .val (.int x2), .val (.int x3), .val (.int c1), .unset, .unset, .unset, .unset, .unset, .unset, .unset, .unset, .unset, .unset, .unset, .unset, .unset, .unset] [(.int (2 : Int32)), (.int p4)])) (fun t k => XS.iconst X0.here hx rfl (hb hby at_29) k) ?_
  refine own_go (U' := s₁.setTop (mkF m 31 #[.val (.int p1), .val (.int p2), .val (.int p3), .val (.int p4), .val (.int p5), .val (.int p6), .val (.int x1), .val (.int x2), .val (.int x3), .val (.int c1), .unset, .unset, .unset, .unset, .unset, .unset, .unset, .unset, .unset, .unset, .unset, .unset, .unset, .unset] [(.int (p4 &&& (2 : Int32)))])) (fun t k => XS.iand X0.here hx rfl (hb hby at_30) rfl k) ?_
  refine own_go (U' := s₁.setTop (mkF m 39 #[.val (.int p1), .val (.int p2), .val (.int p3), .val (.int p4), .val (.int p5), .val (.int p6), .val (.int x1), .val (.int x2), .val (.int x3), .val (.int c1), .unset, .unset, .unset, .unset, .unset, .unset, .unset, .unset, .unset, .unset, .unset, .unset, .unset, .unset] [(.int (if (p4 &&& (2 : Int32)) = (0 : Int32) then (0 : Int32) else (1 : Int32)))])) (fun t k => ?_) ?_
  · show Steps p.tables e below (s₁.setTop (mkF m 31 #[.val (.int p1), .val (.int p2), .val (.int p3), .val (.int p4), .val (.int p5), .val (.int p6), .val (.int x1), .val (.int x2), .val (.int x3), .val (.int c1), .unset, .unset, .unset, .unset, .unset, .unset, .unset, .unset, .unset, .unset, .unset, .unset, .unset, .unset] [(.int (p4 &&& (2 : Int32)))])) _
    by_cases hd31 : (p4 &&& (2 : Int32)) = (0 : Int32)
    · simp only [if_pos hd31] at k
      refine XS.ifYes X0.here hx rfl (pc0 := 31) (pc' := 38) rfl (hb hby at_31) rfl ((if0 _ _).trans (teq hd31).1) (by decide) (by decide) ?_
      show Steps p.tables e below (s₁.setTop (mkF m 38 #[.val (.int p1), .val (.int p2), .val (.int p3), .val (.int p4), .val (.int p5), .val (.int p6), .val (.int x1), .val (.int x2), .val (.int x3), .val (.int c1), .unset, .unset, .unset, .unset, .unset, .unset, .unset, .unset, .unset, .unset, .unset, .unset, .unset, .unset] [])) _
      refine XS.iconst X0.here hx rfl (hb hby at_38) ?_
      show Steps p.tables e below (s₁.setTop (mkF m 39 #[.val (.int p1), .val (.int p2), .val (.int p3), .val (.int p4), .val (.int p5), .val (.int p6), .val (.int x1), .val (.int x2), .val (.int x3), .val (.int c1), .unset, .unset, .unset, .unset, .unset, .unset, .unset, .unset, .unset, .unset, .unset, .unset, .unset, .unset] [(.int (0 : Int32))])) _
      exact k
    · simp only [if_neg hd31] at k
      refine XS.ifNo X0.here hx rfl (hb hby at_31) rfl ((if0 _ _).trans (feq hd31).1) ?_
      show Steps p.tables e below (s₁.setTop (mkF m 34 #[.val (.int p1), .val (.int p2), .val (.int p3), .val (.int p4), .val (.int p5), .val (.int p6), .val (.int x1), .val (.int x2), .val (.int x3), .val (.int c1), .unset, .unset, .unset, .unset, .unset, .unset, .unset, .unset, .unset, .unset, .unset, .unset, .unset, .unset] [])) _
      refine XS.iconst X0.here hx rfl (hb hby at_34) ?_
      show Steps p.tables e below (s₁.setTop (mkF m 35 #[.val (.int p1), .val (.int p2), .val (.int p3), .val (.int p4), .val (.int p5), .val (.int p6), .val (.int x1), .val (.int x2), .val (.int x3), .val (.int c1), .unset, .unset, .unset, .unset, .unset, .unset, .unset, .unset, .unset, .unset, .unset, .unset, .unset, .unset] [(.int (1 : Int32))])) _
      refine XS.goto X0.here hx rfl (pc0 := 35) (pc' := 39) rfl (hb hby at_35) (by decide) (by decide) ?_
      show Steps p.tables e below (s₁.setTop (mkF m 39 #[.val (.int p1), .val (.int p2), .val (.int p3), .val (.int p4), .val (.int p5), .val (.int p6), .val (.int x1), .val (.int x2), .val (.int x3), .val (.int c1), .unset, .unset, .unset, .unset, .unset, .unset, .unset, .unset, .unset, .unset, .unset, .unset, .unset, .unset] [(.int (1 : Int32))])) _
      exact k
  generalize hv_c2 : (if (p4 &&& (2 : Int32)) = (0 : Int32) then (0 : Int32) else (1 : Int32)) = c2
  have hc2 := own_bit _ hv_c2
  refine own_go (U' := s₁.setTop (mkF m 41 #[.val (.int p1), .val (.int p2), .val (.int p3), .val (.int p4), .val (.int p5), .val (.int p6), .val (.int x1), .val (.int x2), .val (.int x3), .val (.int c1), .val (.int c2), .unset, .unset, .unset, .unset, .unset, .unset, .unset, .unset, .unset, .unset, .unset, .unset, .unset] [])) (fun t k => XS.istore X0.here hx rfl (hb hby at_39) rfl (l' := #[.val (.int p1), .val (.int p2), .val (.int p3), .val (.int p4), .val (.int p5), .val (.int p6), .val (.int x1), .val (.int x2), .val (.int x3), .val (.int c1), .val (.int c2), .unset, .unset, .unset, .unset, .unset, .unset, .unset, .unset, .unset, .unset, .unset, .unset, .unset]) rfl k) ?_
  refine own_go (U' := s₁.setTop (mkF m 43 #[.val (.int p1), .val (.int p2), .val (.int p3), .val (.int p4), .val (.int p5), .val (.int p6), .val (.int x1), .val (.int x2), .val (.int x3), .val (.int c1), .val (.int c2), .unset, .unset, .unset, .unset, .unset, .unset, .unset, .unset, .unset, .unset, .unset, .unset, .unset] [(.int p5)])) (fun t k => XS.iload X0.here hx rfl (hb hby at_41) rfl k) ?_
  refine own_go (U' := s₁.setTop (mkF m 44 #[.val (.int p1), .val (.int p2), .val (.int p3), .val (.int p4), .val (.int p5), .val (.int p6), .val (.int x1), .val (.int x2), .val (.int x3), .val (.int c1), .val (.int c2), .unset, .unset, .unset, .unset, .unset, .unset, .unset, .unset, .unset, .unset, .unset, .unset, .unset] [(.int (1 : Int32)), (.int p5)])) (fun t k => XS.iconst X0.here hx rfl (hb hby at_43) k) ?_
  refine own_go (U' := s₁.setTop (mkF m 45 #[.val (.int p1), .val (.int p2), .val (.int p3), .val (.int p4), .val (.int p5), .val (.int p6), .val (.int x1), .val (.int x2), .val (.int x3), .val (.int c1), .val (.int c2), .unset, .unset, .unset, .unset, .unset, .unset, .unset, .unset, .unset, .unset, .unset, .unset, .unset] [(.int (p5 &&& (1 : Int32)))])) (fun t k => XS.iand X0.here hx rfl (hb hby at_44) rfl k) ?_
  refine own_go (U' := s₁.setTop (mkF m 62 #[.val (.int p1), .val (.int p2), .val (.int p3), .val (.int p4), .val (.int p5), .val (.int p6), .val (.int x1), .val (.int x2), .val (.int x3), .val (.int c1), .val (.int c2), .unset, .unset, .unset, .unset, .unset, .unset, .unset, .unset, .unset, .unset, .unset, .unset, .unset] [(.int (if (p5 &&& (1 : Int32)) = (0 : Int32) then (((p5.toUInt32 >>> ((1 : Int32) &&& 31).toUInt32).toInt32) &&& (7 : Int32)) else ((p5.toUInt32 >>> ((1 : Int32) &&& 31).toUInt32).toInt32)))])) (fun t k => ?_) ?_
  · show Steps p.tables e below (s₁.setTop (mkF m 45 #[.val (.int p1), .val (.int p2), .val (.int p3), .val (.int p4), .val (.int p5), .val (.int p6), .val (.int x1), .val (.int x2), .val (.int x3), .val (.int c1), .val (.int c2), .unset, .unset, .unset, .unset, .unset, .unset, .unset, .unset, .unset, .unset, .unset, .unset, .unset] [(.int (p5 &&& (1 : Int32)))])) _
    by_cases hd45 : (p5 &&& (1 : Int32)) = (0 : Int32)
    · simp only [if_pos hd45] at k
      refine XS.ifNo X0.here hx rfl (hb hby at_45) rfl ((if0 _ _).trans (teq hd45).2) ?_
      show Steps p.tables e below (s₁.setTop (mkF m 48 #[.val (.int p1), .val (.int p2), .val (.int p3), .val (.int p4), .val (.int p5), .val (.int p6), .val (.int x1), .val (.int x2), .val (.int x3), .val (.int c1), .val (.int c2), .unset, .unset, .unset, .unset, .unset, .unset, .unset, .unset, .unset, .unset, .unset, .unset, .unset] [])) _
      refine XS.iload X0.here hx rfl (hb hby at_48) rfl ?_
      show Steps p.tables e below (s₁.setTop (mkF m 50 #[.val (.int p1), .val (.int p2), .val (.int p3), .val (.int p4), .val (.int p5), .val (.int p6), .val (.int x1), .val (.int x2), .val (.int x3), .val (.int c1), .val (.int c2), .unset, .unset, .unset, .unset, .unset, .unset, .unset, .unset, .unset, .unset, .unset, .unset, .unset] [(.int p5)])) _
      refine XS.iconst X0.here hx rfl (hb hby at_50) ?_
      show Steps p.tables e below (s₁.setTop (mkF m 51 #[.val (.int p1), .val (.int p2), .val (.int p3), .val (.int p4), .val (.int p5), .val (.int p6), .val (.int x1), .val (.int x2), .val (.int x3), .val (.int c1), .val (.int c2), .unset, .unset, .unset, .unset, .unset, .unset, .unset, .unset, .unset, .unset, .unset, .unset, .unset] [(.int (1 : Int32)), (.int p5)])) _
      refine XS.iushr X0.here hx rfl (hb hby at_51) rfl ?_
      show Steps p.tables e below (s₁.setTop (mkF m 52 #[.val (.int p1), .val (.int p2), .val (.int p3), .val (.int p4), .val (.int p5), .val (.int p6), .val (.int x1), .val (.int x2), .val (.int x3), .val (.int c1), .val (.int c2), .unset, .unset, .unset, .unset, .unset, .unset, .unset, .unset, .unset, .unset, .unset, .unset, .unset] [(.int ((p5.toUInt32 >>> ((1 : Int32) &&& 31).toUInt32).toInt32))])) _
      refine XS.bipush X0.here hx rfl (hb hby at_52) ?_
      show Steps p.tables e below (s₁.setTop (mkF m 54 #[.val (.int p1), .val (.int p2), .val (.int p3), .val (.int p4), .val (.int p5), .val (.int p6), .val (.int x1), .val (.int x2), .val (.int x3), .val (.int c1), .val (.int c2), .unset, .unset, .unset, .unset, .unset, .unset, .unset, .unset, .unset, .unset, .unset, .unset, .unset] [(.int (7 : Int32)), (.int ((p5.toUInt32 >>> ((1 : Int32) &&& 31).toUInt32).toInt32))])) _
      refine XS.iand X0.here hx rfl (hb hby at_54) rfl ?_
      show Steps p.tables e below (s₁.setTop (mkF m 55 #[.val (.int p1), .val (.int p2), .val (.int p3), .val (.int p4), .val (.int p5), .val (.int p6), .val (.int x1), .val (.int x2), .val (.int x3), .val (.int c1), .val (.int c2), .unset, .unset, .unset, .unset, .unset, .unset, .unset, .unset, .unset, .unset, .unset, .unset, .unset] [(.int (((p5.toUInt32 >>> ((1 : Int32) &&& 31).toUInt32).toInt32) &&& (7 : Int32)))])) _
      refine XS.goto X0.here hx rfl (pc0 := 55) (pc' := 62) rfl (hb hby at_55) (by decide) (by decide) ?_
      show Steps p.tables e below (s₁.setTop (mkF m 62 #[.val (.int p1), .val (.int p2), .val (.int p3), .val (.int p4), .val (.int p5), .val (.int p6), .val (.int x1), .val (.int x2), .val (.int x3), .val (.int c1), .val (.int c2), .unset, .unset, .unset, .unset, .unset, .unset, .unset, .unset, .unset, .unset, .unset, .unset, .unset] [(.int (((p5.toUInt32 >>> ((1 : Int32) &&& 31).toUInt32).toInt32) &&& (7 : Int32)))])) _
      exact k
    · simp only [if_neg hd45] at k
      refine XS.ifYes X0.here hx rfl (pc0 := 45) (pc' := 58) rfl (hb hby at_45) rfl ((if0 _ _).trans (feq hd45).2) (by decide) (by decide) ?_
      show Steps p.tables e below (s₁.setTop (mkF m 58 #[.val (.int p1), .val (.int p2), .val (.int p3), .val (.int p4), .val (.int p5), .val (.int p6), .val (.int x1), .val (.int x2), .val (.int x3), .val (.int c1), .val (.int c2), .unset, .unset, .unset, .unset, .unset, .unset, .unset, .unset, .unset, .unset, .unset, .unset, .unset] [])) _
      refine XS.iload X0.here hx rfl (hb hby at_58) rfl ?_
      show Steps p.tables e below (s₁.setTop (mkF m 60 #[.val (.int p1), .val (.int p2), .val (.int p3), .val (.int p4), .val (.int p5), .val (.int p6), .val (.int x1), .val (.int x2), .val (.int x3), .val (.int c1), .val (.int c2), .unset, .unset, .unset, .unset, .unset, .unset, .unset, .unset, .unset, .unset, .unset, .unset, .unset] [(.int p5)])) _
      refine XS.iconst X0.here hx rfl (hb hby at_60) ?_
      show Steps p.tables e below (s₁.setTop (mkF m 61 #[.val (.int p1), .val (.int p2), .val (.int p3), .val (.int p4), .val (.int p5), .val (.int p6), .val (.int x1), .val (.int x2), .val (.int x3), .val (.int c1), .val (.int c2), .unset, .unset, .unset, .unset, .unset, .unset, .unset, .unset, .unset, .unset, .unset, .unset, .unset] [(.int (1 : Int32)), (.int p5)])) _
      refine XS.iushr X0.here hx rfl (hb hby at_61) rfl ?_
      show Steps p.tables e below (s₁.setTop (mkF m 62 #[.val (.int p1), .val (.int p2), .val (.int p3), .val (.int p4), .val (.int p5), .val (.int p6), .val (.int x1), .val (.int x2), .val (.int x3), .val (.int c1), .val (.int c2), .unset, .unset, .unset, .unset, .unset, .unset, .unset, .unset, .unset, .unset, .unset, .unset, .unset] [(.int ((p5.toUInt32 >>> ((1 : Int32) &&& 31).toUInt32).toInt32))])) _
      exact k
  generalize hv_qq : (if (p5 &&& (1 : Int32)) = (0 : Int32) then (((p5.toUInt32 >>> ((1 : Int32) &&& 31).toUInt32).toInt32) &&& (7 : Int32)) else ((p5.toUInt32 >>> ((1 : Int32) &&& 31).toUInt32).toInt32)) = qq
  have hqq : ¬ qq < 0 := by
    rw [← hv_qq]
    split
    · exact own_nn7 _
    · exact own_nn _
  refine own_go (U' := s₁.setTop (mkF m 64 #[.val (.int p1), .val (.int p2), .val (.int p3), .val (.int p4), .val (.int p5), .val (.int p6), .val (.int x1), .val (.int x2), .val (.int x3), .val (.int c1), .val (.int c2), .val (.int qq), .unset, .unset, .unset, .unset, .unset, .unset, .unset, .unset, .unset, .unset, .unset, .unset] [])) (fun t k => XS.istore X0.here hx rfl (hb hby at_62) rfl (l' := #[.val (.int p1), .val (.int p2), .val (.int p3), .val (.int p4), .val (.int p5), .val (.int p6), .val (.int x1), .val (.int x2), .val (.int x3), .val (.int c1), .val (.int c2), .val (.int qq), .unset, .unset, .unset, .unset, .unset, .unset, .unset, .unset, .unset, .unset, .unset, .unset]) rfl k) ?_
  refine own_go (U' := s₁.setTop (mkF m 66 #[.val (.int p1), .val (.int p2), .val (.int p3), .val (.int p4), .val (.int p5), .val (.int p6), .val (.int x1), .val (.int x2), .val (.int x3), .val (.int c1), .val (.int c2), .val (.int qq), .unset, .unset, .unset, .unset, .unset, .unset, .unset, .unset, .unset, .unset, .unset, .unset] [(.int p6)])) (fun t k => XS.iload X0.here hx rfl (hb hby at_64) rfl k) ?_
  refine own_go (U' := s₁.setTop (mkF m 67 #[.val (.int p1), .val (.int p2), .val (.int p3), .val (.int p4), .val (.int p5), .val (.int p6), .val (.int x1), .val (.int x2), .val (.int x3), .val (.int c1), .val (.int c2), .val (.int qq), .unset, .unset, .unset, .unset, .unset, .unset, .unset, .unset, .unset, .unset, .unset, .unset] [(.int (1 : Int32)), (.int p6)])) (fun t k => XS.iconst X0.here hx rfl (hb hby at_66) k) ?_
  refine own_go (U' := s₁.setTop (mkF m 68 #[.val (.int p1), .val (.int p2), .val (.int p3), .val (.int p4), .val (.int p5), .val (.int p6), .val (.int x1), .val (.int x2), .val (.int x3), .val (.int c1), .val (.int c2), .val (.int qq), .unset, .unset, .unset, .unset, .unset, .unset, .unset, .unset, .unset, .unset, .unset, .unset] [(.int (p6 &&& (1 : Int32)))])) (fun t k => XS.iand X0.here hx rfl (hb hby at_67) rfl k) ?_
  refine own_go (U' := s₁.setTop (mkF m 84 #[.val (.int p1), .val (.int p2), .val (.int p3), .val (.int p4), .val (.int p5), .val (.int p6), .val (.int x1), .val (.int x2), .val (.int x3), .val (.int c1), .val (.int c2), .val (.int qq), .unset, .unset, .unset, .unset, .unset, .unset, .unset, .unset, .unset, .unset, .unset, .unset] [(.int (if (p6 &&& (1 : Int32)) = (0 : Int32) then (((p6.toUInt32 >>> ((1 : Int32) &&& 31).toUInt32).toInt32) &&& (3 : Int32)) else ((p6.toUInt32 >>> ((1 : Int32) &&& 31).toUInt32).toInt32)))])) (fun t k => ?_) ?_
  · show Steps p.tables e below (s₁.setTop (mkF m 68 #[.val (.int p1), .val (.int p2), .val (.int p3), .val (.int p4), .val (.int p5), .val (.int p6), .val (.int x1), .val (.int x2), .val (.int x3), .val (.int c1), .val (.int c2), .val (.int qq), .unset, .unset, .unset, .unset, .unset, .unset, .unset, .unset, .unset, .unset, .unset, .unset] [(.int (p6 &&& (1 : Int32)))])) _
    by_cases hd68 : (p6 &&& (1 : Int32)) = (0 : Int32)
    · simp only [if_pos hd68] at k
      refine XS.ifNo X0.here hx rfl (hb hby at_68) rfl ((if0 _ _).trans (teq hd68).2) ?_
      show Steps p.tables e below (s₁.setTop (mkF m 71 #[.val (.int p1), .val (.int p2), .val (.int p3), .val (.int p4), .val (.int p5), .val (.int p6), .val (.int x1), .val (.int x2), .val (.int x3), .val (.int c1), .val (.int c2), .val (.int qq), .unset, .unset, .unset, .unset, .unset, .unset, .unset, .unset, .unset, .unset, .unset, .unset] [])) _
      refine XS.iload X0.here hx rfl (hb hby at_71) rfl ?_
      show Steps p.tables e below (s₁.setTop (mkF m 73 #[.val (.int p1), .val (.int p2), .val (.int p3), .val (.int p4), .val (.int p5), .val (.int p6), .val (.int x1), .val (.int x2), .val (.int x3), .val (.int c1), .val (.int c2), .val (.int qq), .unset, .unset, .unset, .unset, .unset, .unset, .unset, .unset, .unset, .unset, .unset, .unset] [(.int p6)])) _
      refine XS.iconst X0.here hx rfl (hb hby at_73) ?_
      show Steps p.tables e below (s₁.setTop (mkF m 74 #[.val (.int p1), .val (.int p2), .val (.int p3), .val (.int p4), .val (.int p5), .val (.int p6), .val (.int x1), .val (.int x2), .val (.int x3), .val (.int c1), .val (.int c2), .val (.int qq), .unset, .unset, .unset, .unset, .unset, .unset, .unset, .unset, .unset, .unset, .unset, .unset] [(.int (1 : Int32)), (.int p6)])) _
      refine XS.iushr X0.here hx rfl (hb hby at_74) rfl ?_
      show Steps p.tables e below (s₁.setTop (mkF m 75 #[.val (.int p1), .val (.int p2), .val (.int p3), .val (.int p4), .val (.int p5), .val (.int p6), .val (.int x1), .val (.int x2), .val (.int x3), .val (.int c1), .val (.int c2), .val (.int qq), .unset, .unset, .unset, .unset, .unset, .unset, .unset, .unset, .unset, .unset, .unset, .unset] [(.int ((p6.toUInt32 >>> ((1 : Int32) &&& 31).toUInt32).toInt32))])) _
      refine XS.iconst X0.here hx rfl (hb hby at_75) ?_
      show Steps p.tables e below (s₁.setTop (mkF m 76 #[.val (.int p1), .val (.int p2), .val (.int p3), .val (.int p4), .val (.int p5), .val (.int p6), .val (.int x1), .val (.int x2), .val (.int x3), .val (.int c1), .val (.int c2), .val (.int qq), .unset, .unset, .unset, .unset, .unset, .unset, .unset, .unset, .unset, .unset, .unset, .unset] [(.int (3 : Int32)), (.int ((p6.toUInt32 >>> ((1 : Int32) &&& 31).toUInt32).toInt32))])) _
      refine XS.iand X0.here hx rfl (hb hby at_76) rfl ?_
      show Steps p.tables e below (s₁.setTop (mkF m 77 #[.val (.int p1), .val (.int p2), .val (.int p3), .val (.int p4), .val (.int p5), .val (.int p6), .val (.int x1), .val (.int x2), .val (.int x3), .val (.int c1), .val (.int c2), .val (.int qq), .unset, .unset, .unset, .unset, .unset, .unset, .unset, .unset, .unset, .unset, .unset, .unset] [(.int (((p6.toUInt32 >>> ((1 : Int32) &&& 31).toUInt32).toInt32) &&& (3 : Int32)))])) _
      refine XS.goto X0.here hx rfl (pc0 := 77) (pc' := 84) rfl (hb hby at_77) (by decide) (by decide) ?_
      show Steps p.tables e below (s₁.setTop (mkF m 84 #[.val (.int p1), .val (.int p2), .val (.int p3), .val (.int p4), .val (.int p5), .val (.int p6), .val (.int x1), .val (.int x2), .val (.int x3), .val (.int c1), .val (.int c2), .val (.int qq), .unset, .unset, .unset, .unset, .unset, .unset, .unset, .unset, .unset, .unset, .unset, .unset] [(.int (((p6.toUInt32 >>> ((1 : Int32) &&& 31).toUInt32).toInt32) &&& (3 : Int32)))])) _
      exact k
    · simp only [if_neg hd68] at k
      refine XS.ifYes X0.here hx rfl (pc0 := 68) (pc' := 80) rfl (hb hby at_68) rfl ((if0 _ _).trans (feq hd68).2) (by decide) (by decide) ?_
      show Steps p.tables e below (s₁.setTop (mkF m 80 #[.val (.int p1), .val (.int p2), .val (.int p3), .val (.int p4), .val (.int p5), .val (.int p6), .val (.int x1), .val (.int x2), .val (.int x3), .val (.int c1), .val (.int c2), .val (.int qq), .unset, .unset, .unset, .unset, .unset, .unset, .unset, .unset, .unset, .unset, .unset, .unset] [])) _
      refine XS.iload X0.here hx rfl (hb hby at_80) rfl ?_
      show Steps p.tables e below (s₁.setTop (mkF m 82 #[.val (.int p1), .val (.int p2), .val (.int p3), .val (.int p4), .val (.int p5), .val (.int p6), .val (.int x1), .val (.int x2), .val (.int x3), .val (.int c1), .val (.int c2), .val (.int qq), .unset, .unset, .unset, .unset, .unset, .unset, .unset, .unset, .unset, .unset, .unset, .unset] [(.int p6)])) _
      refine XS.iconst X0.here hx rfl (hb hby at_82) ?_
      show Steps p.tables e below (s₁.setTop (mkF m 83 #[.val (.int p1), .val (.int p2), .val (.int p3), .val (.int p4), .val (.int p5), .val (.int p6), .val (.int x1), .val (.int x2), .val (.int x3), .val (.int c1), .val (.int c2), .val (.int qq), .unset, .unset, .unset, .unset, .unset, .unset, .unset, .unset, .unset, .unset, .unset, .unset] [(.int (1 : Int32)), (.int p6)])) _
      refine XS.iushr X0.here hx rfl (hb hby at_83) rfl ?_
      show Steps p.tables e below (s₁.setTop (mkF m 84 #[.val (.int p1), .val (.int p2), .val (.int p3), .val (.int p4), .val (.int p5), .val (.int p6), .val (.int x1), .val (.int x2), .val (.int x3), .val (.int c1), .val (.int c2), .val (.int qq), .unset, .unset, .unset, .unset, .unset, .unset, .unset, .unset, .unset, .unset, .unset, .unset] [(.int ((p6.toUInt32 >>> ((1 : Int32) &&& 31).toUInt32).toInt32))])) _
      exact k
  generalize hv_dd' : (if (p6 &&& (1 : Int32)) = (0 : Int32) then (((p6.toUInt32 >>> ((1 : Int32) &&& 31).toUInt32).toInt32) &&& (3 : Int32)) else ((p6.toUInt32 >>> ((1 : Int32) &&& 31).toUInt32).toInt32)) = dd'
  have hdd' : ¬ dd' < 0 := by
    rw [← hv_dd']
    split
    · exact own_nn3 _
    · exact own_nn _
  refine own_go (U' := s₁.setTop (mkF m 86 #[.val (.int p1), .val (.int p2), .val (.int p3), .val (.int p4), .val (.int p5), .val (.int p6), .val (.int x1), .val (.int x2), .val (.int x3), .val (.int c1), .val (.int c2), .val (.int qq), .val (.int dd'), .unset, .unset, .unset, .unset, .unset, .unset, .unset, .unset, .unset, .unset, .unset] [])) (fun t k => XS.istore X0.here hx rfl (hb hby at_84) rfl (l' := #[.val (.int p1), .val (.int p2), .val (.int p3), .val (.int p4), .val (.int p5), .val (.int p6), .val (.int x1), .val (.int x2), .val (.int x3), .val (.int c1), .val (.int c2), .val (.int qq), .val (.int dd'), .unset, .unset, .unset, .unset, .unset, .unset, .unset, .unset, .unset, .unset, .unset]) rfl k) ?_
  obtain ⟨T1, h1, X1, e1, E1, A1, D1, -, st1⟩ := newO X0 hx hZ hown (hw _ (List.mem_of_getElem? (i := 0) rfl)) (hw _ (List.mem_of_getElem? (i := 1) rfl)) (hw _ (List.mem_of_getElem? (i := 2) rfl)) e0 (g := (mkF m 86 #[.val (.int p1), .val (.int p2), .val (.int p3), .val (.int p4), .val (.int p5), .val (.int p6), .val (.int x1), .val (.int x2), .val (.int x3), .val (.int c1), .val (.int c2), .val (.int qq), .val (.int dd'), .unset, .unset, .unset, .unset, .unset, .unset, .unset, .unset, .unset, .unset, .unset] [])) rfl (hb hby at_86) (by decide) (by decide)
  obtain ⟨b1, g1⟩ : ∃ z, z = h0.size := ⟨_, rfl⟩
  rw [← g1] at A1 D1 st1
  have g_b1 : n0 ≤ b1 := Nat.le_trans (Nat.le_trans (Nat.le_of_eq O.1.symm) O.2.1) (Nat.le_of_eq g1.symm)
  have O := O.ext E1
  have E_b1 := A1
  have F_latest_b1 : Fld Z h1 b1 "com/example/obedient_dog/obedientdog/topologydiscovery/AgeLog" "latest" "[I" .null := D1 (Or.inl (hw _ (List.mem_of_getElem? (i := 64) rfl))) (ty := (.array .int)) (by decide)
  have F_raised_b1 : Fld Z h1 b1 "com/example/obedient_dog/obedientdog/topologydiscovery/AgeLog" "raised" "[I" .null := D1 (Or.inl (hw _ (List.mem_of_getElem? (i := 66) rfl))) (ty := (.array .int)) (by decide)
  have F_ages_b1 : Fld Z h1 b1 "com/example/obedient_dog/obedientdog/topologydiscovery/AgeLog" "ages" "[I" .null := D1 (Or.inl (hw _ (List.mem_of_getElem? (i := 68) rfl))) (ty := (.array .int)) (by decide)
  have F_numbers_b1 : Fld Z h1 b1 "com/example/obedient_dog/obedientdog/topologydiscovery/AgeLog" "numbers" "Lcom/example/obedient_dog/obedientdog/topologydiscovery/LinkNumbers;" .null := D1 (Or.inr (hw _ (List.mem_of_getElem? (i := 70) rfl))) (ty := (.object "com/example/obedient_dog/obedientdog/topologydiscovery/LinkNumbers")) (by decide)
  have F_entries_b1 : Fld Z h1 b1 "com/example/obedient_dog/obedientdog/topologydiscovery/AgeLog" "entries" "I" (.int (0 : Int32)) := D1 (Or.inl (hw _ (List.mem_of_getElem? (i := 86) rfl))) (ty := .int) (by decide)
  have F_size_b1 : Fld Z h1 b1 "com/example/obedient_dog/obedientdog/topologydiscovery/AgeLog" "size" "I" (.int (0 : Int32)) := D1 (Or.inl (hw _ (List.mem_of_getElem? (i := 88) rfl))) (ty := .int) (by decide)
  have F_present_b1 : Fld Z h1 b1 "com/example/obedient_dog/obedientdog/topologydiscovery/AgeLog" "present" "I" (.int (0 : Int32)) := D1 (Or.inl (hw _ (List.mem_of_getElem? (i := 94) rfl))) (ty := .int) (by decide)
  have F_hash_b1 : Fld Z h1 b1 "com/example/obedient_dog/obedientdog/topologydiscovery/AgeLog" "hash" "I" (.int (0 : Int32)) := D1 (Or.inl (hw _ (List.mem_of_getElem? (i := 96) rfl))) (ty := .int) (by decide)
  have F_table_b1 : Fld Z h1 b1 "com/example/obedient_dog/obedientdog/topologydiscovery/AgeLog" "table" "Lcom/example/obedient_dog/obedientdog/topologydiscovery/AgeTable;" .null := D1 (Or.inl (hw _ (List.mem_of_getElem? (i := 103) rfl))) (ty := (.object "com/example/obedient_dog/obedientdog/topologydiscovery/AgeTable")) (by decide)
  have F_sealed_b1 : Fld Z h1 b1 "com/example/obedient_dog/obedientdog/topologydiscovery/AgeLog" "sealed" "I" (.int (0 : Int32)) := D1 (Or.inl (hw _ (List.mem_of_getElem? (i := 110) rfl))) (ty := .int) (by decide)
  have F_earlier_b1 : Fld Z h1 b1 "com/example/obedient_dog/obedientdog/topologydiscovery/AgeLog" "earlier" "[I" .null := D1 (Or.inl (hw _ (List.mem_of_getElem? (i := 138) rfl))) (ty := (.array .int)) (by decide)
  have F_later_b1 : Fld Z h1 b1 "com/example/obedient_dog/obedientdog/topologydiscovery/AgeLog" "later" "[I" .null := D1 (Or.inl (hw _ (List.mem_of_getElem? (i := 140) rfl))) (ty := (.array .int)) (by decide)
  refine own_go (U' := T1.setTop (mkF m 89 #[.val (.int p1), .val (.int p2), .val (.int p3), .val (.int p4), .val (.int p5), .val (.int p6), .val (.int x1), .val (.int x2), .val (.int x3), .val (.int c1), .val (.int c2), .val (.int qq), .val (.int dd'), .unset, .unset, .unset, .unset, .unset, .unset, .unset, .unset, .unset, .unset, .unset] [(.ref b1)])) st1 ?_
  refine own_go (U' := T1.setTop (mkF m 90 #[.val (.int p1), .val (.int p2), .val (.int p3), .val (.int p4), .val (.int p5), .val (.int p6), .val (.int x1), .val (.int x2), .val (.int x3), .val (.int c1), .val (.int c2), .val (.int qq), .val (.int dd'), .unset, .unset, .unset, .unset, .unset, .unset, .unset, .unset, .unset, .unset, .unset] [(.ref b1), (.ref b1)])) (fun t k => XS.dup X1.here hx rfl (hb hby at_89) rfl rfl k) ?_
  obtain ⟨T2, h2, X2, e2, E2, A2, D2, -, st2⟩ := newO X1 hx hZ hown (hw _ (List.mem_of_getElem? (i := 3) rfl)) (hw _ (List.mem_of_getElem? (i := 4) rfl)) (hw _ (List.mem_of_getElem? (i := 5) rfl)) e1 (g := (mkF m 90 #[.val (.int p1), .val (.int p2), .val (.int p3), .val (.int p4), .val (.int p5), .val (.int p6), .val (.int x1), .val (.int x2), .val (.int x3), .val (.int c1), .val (.int c2), .val (.int qq), .val (.int dd'), .unset, .unset, .unset, .unset, .unset, .unset, .unset, .unset, .unset, .unset, .unset] [(.ref b1), (.ref b1)])) rfl (hb hby at_90) (by decide) (by decide)
  obtain ⟨b2, g2⟩ : ∃ z, z = h1.size := ⟨_, rfl⟩
  rw [← g2] at A2 D2 st2
  have ne_b1_b2 : b1 ≠ b2 := Nat.ne_of_lt (Nat.lt_of_lt_of_eq E_b1.lt g2.symm)
  have g_b2 : n0 ≤ b2 := Nat.le_trans (Nat.le_trans (Nat.le_of_eq O.1.symm) O.2.1) (Nat.le_of_eq g2.symm)
  have O := O.ext E2
  have E_b1 := E_b1.ext E2
  have F_latest_b1 := F_latest_b1.ext E2
  have F_raised_b1 := F_raised_b1.ext E2
  have F_ages_b1 := F_ages_b1.ext E2
  have F_numbers_b1 := F_numbers_b1.ext E2
  have F_entries_b1 := F_entries_b1.ext E2
  have F_size_b1 := F_size_b1.ext E2
  have F_present_b1 := F_present_b1.ext E2
  have F_hash_b1 := F_hash_b1.ext E2
  have F_table_b1 := F_table_b1.ext E2
  have F_sealed_b1 := F_sealed_b1.ext E2
  have F_earlier_b1 := F_earlier_b1.ext E2
  have F_later_b1 := F_later_b1.ext E2
  have E_b2 := A2
  have F_numbers_b2 : Fld Z h2 b2 "com/example/obedient_dog/obedientdog/topologydiscovery/LinkNumbers" "numbers" "Ljava/util/Map;" .null := D2 (Or.inr (hw _ (List.mem_of_getElem? (i := 29) rfl))) (ty := (.object "java/util/Map")) (by decide)
  have F_links_b2 : Fld Z h2 b2 "com/example/obedient_dog/obedientdog/topologydiscovery/LinkNumbers" "links" "Ljava/util/List;" .null := D2 (Or.inr (hw _ (List.mem_of_getElem? (i := 55) rfl))) (ty := (.object "java/util/List")) (by decide)
  have F_hashes_b2 : Fld Z h2 b2 "com/example/obedient_dog/obedientdog/topologydiscovery/LinkNumbers" "hashes" "[I" .null := D2 (Or.inl (hw _ (List.mem_of_getElem? (i := 58) rfl))) (ty := (.array .int)) (by decide)
  refine own_go (U' := T2.setTop (mkF m 93 #[.val (.int p1), .val (.int p2), .val (.int p3), .val (.int p4), .val (.int p5), .val (.int p6), .val (.int x1), .val (.int x2), .val (.int x3), .val (.int c1), .val (.int c2), .val (.int qq), .val (.int dd'), .unset, .unset, .unset, .unset, .unset, .unset, .unset, .unset, .unset, .unset, .unset] [(.ref b2), (.ref b1), (.ref b1)])) st2 ?_
  refine own_go (U' := T2.setTop (mkF m 94 #[.val (.int p1), .val (.int p2), .val (.int p3), .val (.int p4), .val (.int p5), .val (.int p6), .val (.int x1), .val (.int x2), .val (.int x3), .val (.int c1), .val (.int c2), .val (.int qq), .val (.int dd'), .unset, .unset, .unset, .unset, .unset, .unset, .unset, .unset, .unset, .unset, .unset] [(.ref b2), (.ref b2), (.ref b1), (.ref b1)])) (fun t k => XS.dup X2.here hx rfl (hb hby at_93) rfl rfl k) ?_
  obtain ⟨v3, T3, h3, L3, e3, X3, hQ3, st3⟩ := own_callC X2 hx hZ (y := (⟨"com/example/obedient_dog/obedientdog/topologydiscovery/LinkNumbers", "<init>", "()V"⟩ : MethodName)) rfl hown (hw _ (List.mem_of_getElem? (i := 6) rfl)) (hw _ (List.mem_of_getElem? (i := 7) rfl)) (hw _ (List.mem_of_getElem? (i := 5) rfl)) (hw _ (List.mem_of_getElem? (i := 8) rfl)) (by decide) (a := b2) (own_rmli l Z a0 hw b2 h2 n0 g_b2 _ _ _ dd O S_dd E_b2 F_numbers_b2 F_links_b2 F_hashes_b2) (W := 3) (by decide) (by decide) (g := (mkF m 94 #[.val (.int p1), .val (.int p2), .val (.int p3), .val (.int p4), .val (.int p5), .val (.int p6), .val (.int x1), .val (.int x2), .val (.int x3), .val (.int c1), .val (.int c2), .val (.int qq), .val (.int dd'), .unset, .unset, .unset, .unset, .unset, .unset, .unset, .unset, .unset, .unset, .unset] [(.ref b2), (.ref b2), (.ref b1), (.ref b1)])) rfl (by rw [hml]; rfl) (argsL := []) (rest := [(.ref b2), (.ref b1), (.ref b1)]) (lenOf own_pd4 rfl) rfl rfl (by show 2 * 0 + _ ≤ _; exact Nat.le_of_eq rfl) (hb hby at_94) e2 (by decide) (by decide)
  obtain ⟨rfl, Nq, Kq, ha, kh, Fh, V_ha, sz_ha⟩ := hQ3
  have laa : b1 < h2.size := E_b1.lt
  have O := O.keep Kq (allS g_b2 all0)
  have E_b1 := E_b1.keep Kq
  have F_latest_b1 := F_latest_b1.keep Kq (ninS ne_b1_b2 nin0)
  have F_raised_b1 := F_raised_b1.keep Kq (ninS ne_b1_b2 nin0)
  have F_ages_b1 := F_ages_b1.keep Kq (ninS ne_b1_b2 nin0)
  have F_numbers_b1 := F_numbers_b1.keep Kq (ninS ne_b1_b2 nin0)
  have F_entries_b1 := F_entries_b1.keep Kq (ninS ne_b1_b2 nin0)
  have F_size_b1 := F_size_b1.keep Kq (ninS ne_b1_b2 nin0)
  have F_present_b1 := F_present_b1.keep Kq (ninS ne_b1_b2 nin0)
  have F_hash_b1 := F_hash_b1.keep Kq (ninS ne_b1_b2 nin0)
  have F_table_b1 := F_table_b1.keep Kq (ninS ne_b1_b2 nin0)
  have F_sealed_b1 := F_sealed_b1.keep Kq (ninS ne_b1_b2 nin0)
  have F_earlier_b1 := F_earlier_b1.keep Kq (ninS ne_b1_b2 nin0)
  have F_later_b1 := F_later_b1.keep Kq (ninS ne_b1_b2 nin0)
  have E_b2 := E_b2.keep Kq
  have F_hashes_b2 := Fh
  have ne_b1_ha : b1 ≠ ha := Nat.ne_of_lt (Nat.lt_of_lt_of_le laa sz_ha)
  have ne_b2_ha : b2 ≠ ha := by
    obtain ⟨cb, Ab, -⟩ := V_ha
    exact ne_arr E_b2 (hw _ (List.mem_of_getElem? (i := 4) rfl)) Ab
  have N3 := Fr.app N0 Nq
  refine own_go (U' := T3.setTop (mkF m 97 #[.val (.int p1), .val (.int p2), .val (.int p3), .val (.int p4), .val (.int p5), .val (.int p6), .val (.int x1), .val (.int x2), .val (.int x3), .val (.int c1), .val (.int c2), .val (.int qq), .val (.int dd'), .unset, .unset, .unset, .unset, .unset, .unset, .unset, .unset, .unset, .unset, .unset] [(.ref b2), (.ref b1), (.ref b1)])) st3 ?_
  obtain ⟨v4, T4, h4, L4, e4, X4, hQ4, st4⟩ := own_callC X3 hx hZ (y := (⟨"com/example/obedient_dog/obedientdog/topologydiscovery/AgeLog", "<init>", "(Lcom/example/obedient_dog/obedientdog/topologydiscovery/LinkNumbers;)V"⟩ : MethodName)) rfl hown (hw _ (List.mem_of_getElem? (i := 59) rfl)) (hw _ (List.mem_of_getElem? (i := 60) rfl)) (hw _ (List.mem_of_getElem? (i := 2) rfl)) (hw _ (List.mem_of_getElem? (i := 61) rfl)) (by decide) (a := b1) (own_rmai l Z a0 hw b1 b2 h3 n0 g_b1 O ⟨E_b1, F_latest_b1, F_raised_b1, F_ages_b1, F_numbers_b1, F_entries_b1, F_size_b1, F_sealed_b1, F_present_b1, F_hash_b1, F_table_b1, F_earlier_b1, F_later_b1⟩) (W := 1) (by decide) (by decide) (g := (mkF m 97 #[.val (.int p1), .val (.int p2), .val (.int p3), .val (.int p4), .val (.int p5), .val (.int p6), .val (.int x1), .val (.int x2), .val (.int x3), .val (.int c1), .val (.int c2), .val (.int qq), .val (.int dd'), .unset, .unset, .unset, .unset, .unset, .unset, .unset, .unset, .unset, .unset, .unset] [(.ref b2), (.ref b1), (.ref b1)])) rfl (by rw [hml]; rfl) (argsL := [(.ref b2)]) (rest := [(.ref b1)]) (lenOf own_pd8 rfl) rfl rfl (by show 2 * 0 + _ ≤ _; exact Nat.le_of_eq rfl) (hb hby at_97) e3 (by decide) (by decide)
  obtain ⟨rfl, Nq, Kq, la, ra, ga, kl, kr, kg, F_a, V_la, V_ra, V_ga, ⟨ne_la_ra, ne_la_ga, ne_ra_ga⟩, ⟨sz_la, sz_ra, sz_ga⟩, ⟨g_la, g_ra, g_ga⟩⟩ := hQ4
  have ne_ha_la : ha ≠ la := Nat.ne_of_lt (Nat.lt_of_lt_of_le V_ha.lt sz_la)
  have ne_ha_ra : ha ≠ ra := Nat.ne_of_lt (Nat.lt_of_lt_of_le V_ha.lt sz_ra)
  have ne_ha_ga : ha ≠ ga := Nat.ne_of_lt (Nat.lt_of_lt_of_le V_ha.lt sz_ga)
  have O := O.keep Kq (allS g_b1 all0)
  have E_b1 := E_b1.keep Kq
  have E_b2 := E_b2.keep Kq
  have F_hashes_b2 := F_hashes_b2.keep Kq (ninS (Ne.symm ne_b1_b2) nin0)
  have V_ha := V_ha.keep Kq (ninS (Ne.symm ne_b1_ha) nin0)
  have N4 := Fr.app N3 Nq
  refine own_go (U' := T4.setTop (mkF m 100 #[.val (.int p1), .val (.int p2), .val (.int p3), .val (.int p4), .val (.int p5), .val (.int p6), .val (.int x1), .val (.int x2), .val (.int x3), .val (.int c1), .val (.int c2), .val (.int qq), .val (.int dd'), .unset, .unset, .unset, .unset, .unset, .unset, .unset, .unset, .unset, .unset, .unset] [(.ref b1)])) st4 ?_
  have hSt : own_St Z h4 n0 b1 la ra ga b2 ha kl kr kg kh own_s0 0 (List.replicate 8 (0 : Int32)) .null [] := ⟨_, _, _, _, _, F_a, V_la, V_ra, V_ga, rfl, E_b2, F_hashes_b2, V_ha, ⟨rfl, rfl, by decide, Nat.le_refl _, (fun p hp => by cases hp), by decide⟩, ⟨rfl, rfl, rfl⟩, rfl, ⟨ne_la_ra, ne_la_ga, ne_ra_ga, ne_ha_la, ne_ha_ra, ne_ha_ga⟩, ⟨g_b1, g_la, g_ra, g_ga⟩, (fun x hx => by cases hx)⟩
  have hen0 : own_s0.2.2.1 ≤ 0 := Nat.le_refl _
  refine own_go (U' := T4.setTop (mkF m 102 #[.val (.int p1), .val (.int p2), .val (.int p3), .val (.int p4), .val (.int p5), .val (.int p6), .val (.int x1), .val (.int x2), .val (.int x3), .val (.int c1), .val (.int c2), .val (.int qq), .val (.int dd'), .val (.ref b1), .unset, .unset, .unset, .unset, .unset, .unset, .unset, .unset, .unset, .unset] [])) (fun t k => XS.astore X4.here hx rfl (hb hby at_100) rfl rfl (l' := #[.val (.int p1), .val (.int p2), .val (.int p3), .val (.int p4), .val (.int p5), .val (.int p6), .val (.int x1), .val (.int x2), .val (.int x3), .val (.int c1), .val (.int c2), .val (.int qq), .val (.int dd'), .val (.ref b1), .unset, .unset, .unset, .unset, .unset, .unset, .unset, .unset, .unset, .unset]) rfl k) ?_
  refine own_go (U' := T4.setTop (mkF m 104 #[.val (.int p1), .val (.int p2), .val (.int p3), .val (.int p4), .val (.int p5), .val (.int p6), .val (.int x1), .val (.int x2), .val (.int x3), .val (.int c1), .val (.int c2), .val (.int qq), .val (.int dd'), .val (.ref b1), .unset, .unset, .unset, .unset, .unset, .unset, .unset, .unset, .unset, .unset] [(.ref b1)])) (fun t k => XS.aload X4.here hx rfl (hb hby at_102) rfl rfl k) ?_
  refine own_go (U' := T4.setTop (mkF m 106 #[.val (.int p1), .val (.int p2), .val (.int p3), .val (.int p4), .val (.int p5), .val (.int p6), .val (.int x1), .val (.int x2), .val (.int x3), .val (.int c1), .val (.int c2), .val (.int qq), .val (.int dd'), .val (.ref b1), .unset, .unset, .unset, .unset, .unset, .unset, .unset, .unset, .unset, .unset] [(.int x1), (.ref b1)])) (fun t k => XS.iload X4.here hx rfl (hb hby at_104) rfl k) ?_
  refine own_go (U' := T4.setTop (mkF m 107 #[.val (.int p1), .val (.int p2), .val (.int p3), .val (.int p4), .val (.int p5), .val (.int p6), .val (.int x1), .val (.int x2), .val (.int x3), .val (.int c1), .val (.int c2), .val (.int qq), .val (.int dd'), .val (.ref b1), .unset, .unset, .unset, .unset, .unset, .unset, .unset, .unset, .unset, .unset] [(.int (1 : Int32)), (.int x1), (.ref b1)])) (fun t k => XS.iconst X4.here hx rfl (hb hby at_106) k) ?_
  have E_b1 := hSt.exa
  obtain ⟨v5, T5, h5, L5, e5, X5, hQ5, st5⟩ := own_callV X4 hx hZ (y := (⟨"com/example/obedient_dog/obedientdog/topologydiscovery/AgeLog", "raise", "(II)Z"⟩ : MethodName)) (z := (⟨"com/example/obedient_dog/obedientdog/topologydiscovery/AgeLog", "raise", "(II)Z"⟩ : MethodName)) hown (hw _ (List.mem_of_getElem? (i := 71) rfl)) (hw _ (List.mem_of_getElem? (i := 72) rfl)) (notFace_of_selects (args := #[]) (mvT hZ (hw _ (List.mem_of_getElem? (i := 74) rfl)))) (hw _ (List.mem_of_getElem? (i := 74) rfl)) (hw _ (List.mem_of_getElem? (i := 73) rfl)) (hw _ (List.mem_of_getElem? (i := 2) rfl)) (hw _ (List.mem_of_getElem? (i := 75) rfl)) (by decide) E_b1 (own_rmrz l Z a0 hw b1 x1 1 h4 n0 la ra ga b2 ha kl kr kg kh own_s0 0 (List.replicate 8 (0 : Int32)) .null [] O m1 (by omega) ex1 (by omega) (by intro x hx; rw [List.eq_of_mem_replicate hx]; decide) (by decide) hSt) (W := 0) (by decide) (by decide) (g := (mkF m 107 #[.val (.int p1), .val (.int p2), .val (.int p3), .val (.int p4), .val (.int p5), .val (.int p6), .val (.int x1), .val (.int x2), .val (.int x3), .val (.int c1), .val (.int c2), .val (.int qq), .val (.int dd'), .val (.ref b1), .unset, .unset, .unset, .unset, .unset, .unset, .unset, .unset, .unset, .unset] [(.int (1 : Int32)), (.int x1), (.ref b1)])) rfl (by rw [hml]; rfl) (argsL := [(.int x1), (.int (1 : Int32))]) (rest := []) (lenOf own_pd5 rfl) rfl rfl (by show 2 * 0 + _ ≤ _; exact Nat.le_of_eq rfl) (hb hby at_107) e4 (by decide) (by decide)
  obtain ⟨rfl, Nq, Kq, cs1, ag1, hcs1, hag1, hS2⟩ := hQ5
  have O := O.keep Kq hSt.ge
  have hSt := hS2
  obtain ⟨s1', hs1⟩ : ∃ z, z = own_raise own_s0 0 m1 := ⟨_, rfl⟩
  rw [← hs1] at hSt
  have hen1 : s1'.2.2.1 ≤ 1 := by have := (own_raise_en own_s0 0 m1).2; rw [← hs1] at this; omega
  have N5 := Fr.app N4 Nq
  refine own_go (U' := T5.setTop (mkF m 110 #[.val (.int p1), .val (.int p2), .val (.int p3), .val (.int p4), .val (.int p5), .val (.int p6), .val (.int x1), .val (.int x2), .val (.int x3), .val (.int c1), .val (.int c2), .val (.int qq), .val (.int dd'), .val (.ref b1), .unset, .unset, .unset, .unset, .unset, .unset, .unset, .unset, .unset, .unset] [(.int (1 : Int32))])) st5 ?_
  refine own_go (U' := T5.setTop (mkF m 112 #[.val (.int p1), .val (.int p2), .val (.int p3), .val (.int p4), .val (.int p5), .val (.int p6), .val (.int x1), .val (.int x2), .val (.int x3), .val (.int c1), .val (.int c2), .val (.int qq), .val (.int dd'), .val (.ref b1), .val (.int (1 : Int32)), .unset, .unset, .unset, .unset, .unset, .unset, .unset, .unset, .unset] [])) (fun t k => XS.istore X5.here hx rfl (hb hby at_110) rfl (l' := #[.val (.int p1), .val (.int p2), .val (.int p3), .val (.int p4), .val (.int p5), .val (.int p6), .val (.int x1), .val (.int x2), .val (.int x3), .val (.int c1), .val (.int c2), .val (.int qq), .val (.int dd'), .val (.ref b1), .val (.int (1 : Int32)), .unset, .unset, .unset, .unset, .unset, .unset, .unset, .unset, .unset]) rfl k) ?_
  refine own_go (U' := T5.setTop (mkF m 114 #[.val (.int p1), .val (.int p2), .val (.int p3), .val (.int p4), .val (.int p5), .val (.int p6), .val (.int x1), .val (.int x2), .val (.int x3), .val (.int c1), .val (.int c2), .val (.int qq), .val (.int dd'), .val (.ref b1), .val (.int (1 : Int32)), .unset, .unset, .unset, .unset, .unset, .unset, .unset, .unset, .unset] [(.int c1)])) (fun t k => XS.iload X5.here hx rfl (hb hby at_112) rfl k) ?_
  have tail : ∀ (T9 : State) (h9 : Heap) (L9 : List Loc) (sq : own_S) (tq : Nat) (aq : List Int32) (cq : List Addr), Stand p l e room_1 s m #[(.int p1), (.int p2), (.int p3), (.int p4), (.int p5), (.int p6)] below meth c T9 L9 18 160 → T9.heap = h9 → Fr n0 L9 → own_St Z h9 n0 b1 la ra ga b2 ha kl kr kg kh sq tq aq .null cq → sq = own_fin3 m1 m2 m3 c1 c2 → sq.2.2.1 ≤ 3 → own_Fin p e below s (fun v h L => v = some (.int 1) ∧ Fr n0 L) room_1.cells room_1.slots (T9.setTop (mkF m 152 #[.val (.int p1), .val (.int p2), .val (.int p3), .val (.int p4), .val (.int p5), .val (.int p6), .val (.int x1), .val (.int x2), .val (.int x3), .val (.int c1), .val (.int c2), .val (.int qq), .val (.int dd'), .val (.ref b1), .val (.int (1 : Int32)), .val (.int (1 : Int32)), .unset, .unset, .unset, .unset, .unset, .unset, .unset, .unset] [(.int (1 : Int32))])) := by
    intro T9 h9 L9 sq tq aq cq X9 e9 N9 hSt hfin hen9
    refine own_go (U' := T9.setTop (mkF m 154 #[.val (.int p1), .val (.int p2), .val (.int p3), .val (.int p4), .val (.int p5), .val (.int p6), .val (.int x1), .val (.int x2), .val (.int x3), .val (.int c1), .val (.int c2), .val (.int qq), .val (.int dd'), .val (.ref b1), .val (.int (1 : Int32)), .val (.int (1 : Int32)), .val (.int (1 : Int32)), .unset, .unset, .unset, .unset, .unset, .unset, .unset] [])) (fun t k => XS.istore X9.here hx rfl (hb hby at_152) rfl (l' := #[.val (.int p1), .val (.int p2), .val (.int p3), .val (.int p4), .val (.int p5), .val (.int p6), .val (.int x1), .val (.int x2), .val (.int x3), .val (.int c1), .val (.int c2), .val (.int qq), .val (.int dd'), .val (.ref b1), .val (.int (1 : Int32)), .val (.int (1 : Int32)), .val (.int (1 : Int32)), .unset, .unset, .unset, .unset, .unset, .unset, .unset]) rfl k) ?_
    refine own_go (U' := T9.setTop (mkF m 156 #[.val (.int p1), .val (.int p2), .val (.int p3), .val (.int p4), .val (.int p5), .val (.int p6), .val (.int x1), .val (.int x2), .val (.int x3), .val (.int c1), .val (.int c2), .val (.int qq), .val (.int dd'), .val (.ref b1), .val (.int (1 : Int32)), .val (.int (1 : Int32)), .val (.int (1 : Int32)), .unset, .unset, .unset, .unset, .unset, .unset, .unset] [(.ref b1)])) (fun t k => XS.aload X9.here hx rfl (hb hby at_154) rfl rfl k) ?_
    refine own_go (U' := T9.setTop (mkF m 158 #[.val (.int p1), .val (.int p2), .val (.int p3), .val (.int p4), .val (.int p5), .val (.int p6), .val (.int x1), .val (.int x2), .val (.int x3), .val (.int c1), .val (.int c2), .val (.int qq), .val (.int dd'), .val (.ref b1), .val (.int (1 : Int32)), .val (.int (1 : Int32)), .val (.int (1 : Int32)), .unset, .unset, .unset, .unset, .unset, .unset, .unset] [(.int qq), (.ref b1)])) (fun t k => XS.iload X9.here hx rfl (hb hby at_156) rfl k) ?_
    refine own_go (U' := T9.setTop (mkF m 160 #[.val (.int p1), .val (.int p2), .val (.int p3), .val (.int p4), .val (.int p5), .val (.int p6), .val (.int x1), .val (.int x2), .val (.int x3), .val (.int c1), .val (.int c2), .val (.int qq), .val (.int dd'), .val (.ref b1), .val (.int (1 : Int32)), .val (.int (1 : Int32)), .val (.int (1 : Int32)), .unset, .unset, .unset, .unset, .unset, .unset, .unset] [(.int dd'), (.int qq), (.ref b1)])) (fun t k => XS.iload X9.here hx rfl (hb hby at_158) rfl k) ?_
    have hgood := (own_check hm1 hm2 hm3 hc1 hc2).1
    rw [← hfin] at hgood
    have hinv := hSt.inv
    have E_b1 := hSt.exa
    obtain ⟨v6, T6, h6, L6, e6, X6, hQ6, st6⟩ := own_callV X9 hx hZ (y := (⟨"com/example/obedient_dog/obedientdog/topologydiscovery/AgeLog", "lastEntry", "(II)I"⟩ : MethodName)) (z := (⟨"com/example/obedient_dog/obedientdog/topologydiscovery/AgeLog", "lastEntry", "(II)I"⟩ : MethodName)) hown (hw _ (List.mem_of_getElem? (i := 128) rfl)) (hw _ (List.mem_of_getElem? (i := 129) rfl)) (notFace_of_selects (args := #[]) (mvT hZ (hw _ (List.mem_of_getElem? (i := 131) rfl)))) (hw _ (List.mem_of_getElem? (i := 131) rfl)) (hw _ (List.mem_of_getElem? (i := 130) rfl)) (hw _ (List.mem_of_getElem? (i := 2) rfl)) (hw _ (List.mem_of_getElem? (i := 132) rfl)) (by decide) E_b1 (own_rmle l Z a0 hw b1 qq dd' h9 n0 la ra ga b2 ha kl kr kg kh sq tq aq cq .null (fun q hq => own_good1_dec hgood hq (hinv.2.2.2.2.1 q hq).1) (by omega) hqq hdd' hSt) (W := 0) (by decide) (by decide) (g := (mkF m 160 #[.val (.int p1), .val (.int p2), .val (.int p3), .val (.int p4), .val (.int p5), .val (.int p6), .val (.int x1), .val (.int x2), .val (.int x3), .val (.int c1), .val (.int c2), .val (.int qq), .val (.int dd'), .val (.ref b1), .val (.int (1 : Int32)), .val (.int (1 : Int32)), .val (.int (1 : Int32)), .unset, .unset, .unset, .unset, .unset, .unset, .unset] [(.int dd'), (.int qq), (.ref b1)])) rfl (by rw [hml]; rfl) (argsL := [(.int qq), (.int dd')]) (rest := []) (lenOf own_pd2 rfl) rfl rfl (by show 2 * 0 + _ ≤ _; exact Nat.le_of_eq rfl) (hb hby at_160) e9 (by decide) (by decide)
    obtain ⟨rfl, rfl, eh6⟩ := hQ6
    have e6 := e6.trans eh6
    rw [List.append_nil] at X6
    refine own_go (U' := T6.setTop (mkF m 163 #[.val (.int p1), .val (.int p2), .val (.int p3), .val (.int p4), .val (.int p5), .val (.int p6), .val (.int x1), .val (.int x2), .val (.int x3), .val (.int c1), .val (.int c2), .val (.int qq), .val (.int dd'), .val (.ref b1), .val (.int (1 : Int32)), .val (.int (1 : Int32)), .val (.int (1 : Int32)), .unset, .unset, .unset, .unset, .unset, .unset, .unset] [(.int (own_le sq qq dd'))])) st6 ?_
    have heq : own_le sq qq dd' = own_exp x1 x2 x3 c1 c2 qq dd' := by
      have hi3 := hinv.2.2.1
      rw [hfin] at hi3
      rw [hfin, ex1, ex2, ex3]
      exact own_eq hm1 hm2 hm3 hc1 hc2 hi3 hqq hdd'
    rw [heq]
    generalize hv_gg : (own_exp x1 x2 x3 c1 c2 qq dd') = gg
    refine own_go (U' := T6.setTop (mkF m 165 #[.val (.int p1), .val (.int p2), .val (.int p3), .val (.int p4), .val (.int p5), .val (.int p6), .val (.int x1), .val (.int x2), .val (.int x3), .val (.int c1), .val (.int c2), .val (.int qq), .val (.int dd'), .val (.ref b1), .val (.int (1 : Int32)), .val (.int (1 : Int32)), .val (.int (1 : Int32)), .val (.int gg), .unset, .unset, .unset, .unset, .unset, .unset] [])) (fun t k => XS.istore X6.here hx rfl (hb hby at_163) rfl (l' := #[.val (.int p1), .val (.int p2), .val (.int p3), .val (.int p4), .val (.int p5), .val (.int p6), .val (.int x1), .val (.int x2), .val (.int x3), .val (.int c1), .val (.int c2), .val (.int qq), .val (.int dd'), .val (.ref b1), .val (.int (1 : Int32)), .val (.int (1 : Int32)), .val (.int (1 : Int32)), .val (.int gg), .unset, .unset, .unset, .unset, .unset, .unset]) rfl k) ?_
    refine own_go (U' := T6.setTop (mkF m 166 #[.val (.int p1), .val (.int p2), .val (.int p3), .val (.int p4), .val (.int p5), .val (.int p6), .val (.int x1), .val (.int x2), .val (.int x3), .val (.int c1), .val (.int c2), .val (.int qq), .val (.int dd'), .val (.ref b1), .val (.int (1 : Int32)), .val (.int (1 : Int32)), .val (.int (1 : Int32)), .val (.int gg), .unset, .unset, .unset, .unset, .unset, .unset] [(.int (1 : Int32))])) (fun t k => XS.iconst X6.here hx rfl (hb hby at_165) k) ?_
    refine own_go (U' := T6.setTop (mkF m 168 #[.val (.int p1), .val (.int p2), .val (.int p3), .val (.int p4), .val (.int p5), .val (.int p6), .val (.int x1), .val (.int x2), .val (.int x3), .val (.int c1), .val (.int c2), .val (.int qq), .val (.int dd'), .val (.ref b1), .val (.int (1 : Int32)), .val (.int (1 : Int32)), .val (.int (1 : Int32)), .val (.int gg), .val (.int (1 : Int32)), .unset, .unset, .unset, .unset, .unset] [])) (fun t k => XS.istore X6.here hx rfl (hb hby at_166) rfl (l' := #[.val (.int p1), .val (.int p2), .val (.int p3), .val (.int p4), .val (.int p5), .val (.int p6), .val (.int x1), .val (.int x2), .val (.int x3), .val (.int c1), .val (.int c2), .val (.int qq), .val (.int dd'), .val (.ref b1), .val (.int (1 : Int32)), .val (.int (1 : Int32)), .val (.int (1 : Int32)), .val (.int gg), .val (.int (1 : Int32)), .unset, .unset, .unset, .unset, .unset]) rfl k) ?_
    refine own_go (U' := T6.setTop (mkF m 169 #[.val (.int p1), .val (.int p2), .val (.int p3), .val (.int p4), .val (.int p5), .val (.int p6), .val (.int x1), .val (.int x2), .val (.int x3), .val (.int c1), .val (.int c2), .val (.int qq), .val (.int dd'), .val (.ref b1), .val (.int (1 : Int32)), .val (.int (1 : Int32)), .val (.int (1 : Int32)), .val (.int gg), .val (.int (1 : Int32)), .unset, .unset, .unset, .unset, .unset] [(.int (-1 : Int32))])) (fun t k => XS.iconst X6.here hx rfl (hb hby at_168) k) ?_
    refine own_go (U' := T6.setTop (mkF m 171 #[.val (.int p1), .val (.int p2), .val (.int p3), .val (.int p4), .val (.int p5), .val (.int p6), .val (.int x1), .val (.int x2), .val (.int x3), .val (.int c1), .val (.int c2), .val (.int qq), .val (.int dd'), .val (.ref b1), .val (.int (1 : Int32)), .val (.int (1 : Int32)), .val (.int (1 : Int32)), .val (.int gg), .val (.int (1 : Int32)), .val (.int (-1 : Int32)), .unset, .unset, .unset, .unset] [])) (fun t k => XS.istore X6.here hx rfl (hb hby at_169) rfl (l' := #[.val (.int p1), .val (.int p2), .val (.int p3), .val (.int p4), .val (.int p5), .val (.int p6), .val (.int x1), .val (.int x2), .val (.int x3), .val (.int c1), .val (.int c2), .val (.int qq), .val (.int dd'), .val (.ref b1), .val (.int (1 : Int32)), .val (.int (1 : Int32)), .val (.int (1 : Int32)), .val (.int gg), .val (.int (1 : Int32)), .val (.int (-1 : Int32)), .unset, .unset, .unset, .unset]) rfl k) ?_
    refine own_go (U' := T6.setTop (mkF m 172 #[.val (.int p1), .val (.int p2), .val (.int p3), .val (.int p4), .val (.int p5), .val (.int p6), .val (.int x1), .val (.int x2), .val (.int x3), .val (.int c1), .val (.int c2), .val (.int qq), .val (.int dd'), .val (.ref b1), .val (.int (1 : Int32)), .val (.int (1 : Int32)), .val (.int (1 : Int32)), .val (.int gg), .val (.int (1 : Int32)), .val (.int (-1 : Int32)), .unset, .unset, .unset, .unset] [(.int (-1 : Int32))])) (fun t k => XS.iconst X6.here hx rfl (hb hby at_171) k) ?_
    refine own_go (U' := T6.setTop (mkF m 174 #[.val (.int p1), .val (.int p2), .val (.int p3), .val (.int p4), .val (.int p5), .val (.int p6), .val (.int x1), .val (.int x2), .val (.int x3), .val (.int c1), .val (.int c2), .val (.int qq), .val (.int dd'), .val (.ref b1), .val (.int (1 : Int32)), .val (.int (1 : Int32)), .val (.int (1 : Int32)), .val (.int gg), .val (.int (1 : Int32)), .val (.int (-1 : Int32)), .val (.int (-1 : Int32)), .unset, .unset, .unset] [])) (fun t k => XS.istore X6.here hx rfl (hb hby at_172) rfl (l' := #[.val (.int p1), .val (.int p2), .val (.int p3), .val (.int p4), .val (.int p5), .val (.int p6), .val (.int x1), .val (.int x2), .val (.int x3), .val (.int c1), .val (.int c2), .val (.int qq), .val (.int dd'), .val (.ref b1), .val (.int (1 : Int32)), .val (.int (1 : Int32)), .val (.int (1 : Int32)), .val (.int gg), .val (.int (1 : Int32)), .val (.int (-1 : Int32)), .val (.int (-1 : Int32)), .unset, .unset, .unset]) rfl k) ?_
    refine own_go (U' := T6.setTop (mkF m 176 #[.val (.int p1), .val (.int p2), .val (.int p3), .val (.int p4), .val (.int p5), .val (.int p6), .val (.int x1), .val (.int x2), .val (.int x3), .val (.int c1), .val (.int c2), .val (.int qq), .val (.int dd'), .val (.ref b1), .val (.int (1 : Int32)), .val (.int (1 : Int32)), .val (.int (1 : Int32)), .val (.int gg), .val (.int (1 : Int32)), .val (.int (-1 : Int32)), .val (.int (-1 : Int32)), .unset, .unset, .unset] [(.int x2)])) (fun t k => XS.iload X6.here hx rfl (hb hby at_174) rfl k) ?_
    refine own_go (U' := T6.setTop (mkF m 178 #[.val (.int p1), .val (.int p2), .val (.int p3), .val (.int p4), .val (.int p5), .val (.int p6), .val (.int x1), .val (.int x2), .val (.int x3), .val (.int c1), .val (.int c2), .val (.int qq), .val (.int dd'), .val (.ref b1), .val (.int (1 : Int32)), .val (.int (1 : Int32)), .val (.int (1 : Int32)), .val (.int gg), .val (.int (1 : Int32)), .val (.int (-1 : Int32)), .val (.int (-1 : Int32)), .unset, .unset, .unset] [(.int x1), (.int x2)])) (fun t k => XS.iload X6.here hx rfl (hb hby at_176) rfl k) ?_
    refine own_go (U' := T6.setTop (mkF m 193 #[.val (.int p1), .val (.int p2), .val (.int p3), .val (.int p4), .val (.int p5), .val (.int p6), .val (.int x1), .val (.int x2), .val (.int x3), .val (.int c1), .val (.int c2), .val (.int qq), .val (.int dd'), .val (.ref b1), .val (.int (1 : Int32)), .val (.int (1 : Int32)), .val (.int (1 : Int32)), .val (.int gg), .val (.int (if x2 = x1 then (if c1 = (0 : Int32) then (1 : Int32) else (2 : Int32)) else (2 : Int32))), .val (.int (if x2 = x1 then (if c1 = (0 : Int32) then (-1 : Int32) else x2) else x2)), .val (.int (-1 : Int32)), .unset, .unset, .unset] [])) (fun t k => ?_) ?_
    · show Steps p.tables e below (T6.setTop (mkF m 178 #[.val (.int p1), .val (.int p2), .val (.int p3), .val (.int p4), .val (.int p5), .val (.int p6), .val (.int x1), .val (.int x2), .val (.int x3), .val (.int c1), .val (.int c2), .val (.int qq), .val (.int dd'), .val (.ref b1), .val (.int (1 : Int32)), .val (.int (1 : Int32)), .val (.int (1 : Int32)), .val (.int gg), .val (.int (1 : Int32)), .val (.int (-1 : Int32)), .val (.int (-1 : Int32)), .unset, .unset, .unset] [(.int x1), (.int x2)])) _
      by_cases hd178 : x2 = x1
      · simp only [if_pos hd178] at k
        refine XS.icmpNo X6.here hx rfl (hb hby at_178) rfl (teq hd178).2 ?_
        show Steps p.tables e below (T6.setTop (mkF m 181 #[.val (.int p1), .val (.int p2), .val (.int p3), .val (.int p4), .val (.int p5), .val (.int p6), .val (.int x1), .val (.int x2), .val (.int x3), .val (.int c1), .val (.int c2), .val (.int qq), .val (.int dd'), .val (.ref b1), .val (.int (1 : Int32)), .val (.int (1 : Int32)), .val (.int (1 : Int32)), .val (.int gg), .val (.int (1 : Int32)), .val (.int (-1 : Int32)), .val (.int (-1 : Int32)), .unset, .unset, .unset] [])) _
        refine XS.iload X6.here hx rfl (hb hby at_181) rfl ?_
        show Steps p.tables e below (T6.setTop (mkF m 183 #[.val (.int p1), .val (.int p2), .val (.int p3), .val (.int p4), .val (.int p5), .val (.int p6), .val (.int x1), .val (.int x2), .val (.int x3), .val (.int c1), .val (.int c2), .val (.int qq), .val (.int dd'), .val (.ref b1), .val (.int (1 : Int32)), .val (.int (1 : Int32)), .val (.int (1 : Int32)), .val (.int gg), .val (.int (1 : Int32)), .val (.int (-1 : Int32)), .val (.int (-1 : Int32)), .unset, .unset, .unset] [(.int c1)])) _
        by_cases hd183 : c1 = (0 : Int32)
        · simp only [if_pos hd183] at k
          refine XS.ifYes X6.here hx rfl (pc0 := 183) (pc' := 193) rfl (hb hby at_183) rfl ((if0 _ _).trans (teq hd183).1) (by decide) (by decide) ?_
          show Steps p.tables e below (T6.setTop (mkF m 193 #[.val (.int p1), .val (.int p2), .val (.int p3), .val (.int p4), .val (.int p5), .val (.int p6), .val (.int x1), .val (.int x2), .val (.int x3), .val (.int c1), .val (.int c2), .val (.int qq), .val (.int dd'), .val (.ref b1), .val (.int (1 : Int32)), .val (.int (1 : Int32)), .val (.int (1 : Int32)), .val (.int gg), .val (.int (1 : Int32)), .val (.int (-1 : Int32)), .val (.int (-1 : Int32)), .unset, .unset, .unset] [])) _
          exact k
        · simp only [if_neg hd183] at k
          refine XS.ifNo X6.here hx rfl (hb hby at_183) rfl ((if0 _ _).trans (feq hd183).1) ?_
          show Steps p.tables e below (T6.setTop (mkF m 186 #[.val (.int p1), .val (.int p2), .val (.int p3), .val (.int p4), .val (.int p5), .val (.int p6), .val (.int x1), .val (.int x2), .val (.int x3), .val (.int c1), .val (.int c2), .val (.int qq), .val (.int dd'), .val (.ref b1), .val (.int (1 : Int32)), .val (.int (1 : Int32)), .val (.int (1 : Int32)), .val (.int gg), .val (.int (1 : Int32)), .val (.int (-1 : Int32)), .val (.int (-1 : Int32)), .unset, .unset, .unset] [])) _
          refine XS.iload X6.here hx rfl (hb hby at_186) rfl ?_
          show Steps p.tables e below (T6.setTop (mkF m 188 #[.val (.int p1), .val (.int p2), .val (.int p3), .val (.int p4), .val (.int p5), .val (.int p6), .val (.int x1), .val (.int x2), .val (.int x3), .val (.int c1), .val (.int c2), .val (.int qq), .val (.int dd'), .val (.ref b1), .val (.int (1 : Int32)), .val (.int (1 : Int32)), .val (.int (1 : Int32)), .val (.int gg), .val (.int (1 : Int32)), .val (.int (-1 : Int32)), .val (.int (-1 : Int32)), .unset, .unset, .unset] [(.int x2)])) _
          refine XS.istore X6.here hx rfl (hb hby at_188) rfl (l' := #[.val (.int p1), .val (.int p2), .val (.int p3), .val (.int p4), .val (.int p5), .val (.int p6), .val (.int x1), .val (.int x2), .val (.int x3), .val (.int c1), .val (.int c2), .val (.int qq), .val (.int dd'), .val (.ref b1), .val (.int (1 : Int32)), .val (.int (1 : Int32)), .val (.int (1 : Int32)), .val (.int gg), .val (.int (1 : Int32)), .val (.int x2), .val (.int (-1 : Int32)), .unset, .unset, .unset]) rfl ?_
          show Steps p.tables e below (T6.setTop (mkF m 190 #[.val (.int p1), .val (.int p2), .val (.int p3), .val (.int p4), .val (.int p5), .val (.int p6), .val (.int x1), .val (.int x2), .val (.int x3), .val (.int c1), .val (.int c2), .val (.int qq), .val (.int dd'), .val (.ref b1), .val (.int (1 : Int32)), .val (.int (1 : Int32)), .val (.int (1 : Int32)), .val (.int gg), .val (.int (1 : Int32)), .val (.int x2), .val (.int (-1 : Int32)), .unset, .unset, .unset] [])) _
          refine XS.iconst X6.here hx rfl (hb hby at_190) ?_
          show Steps p.tables e below (T6.setTop (mkF m 191 #[.val (.int p1), .val (.int p2), .val (.int p3), .val (.int p4), .val (.int p5), .val (.int p6), .val (.int x1), .val (.int x2), .val (.int x3), .val (.int c1), .val (.int c2), .val (.int qq), .val (.int dd'), .val (.ref b1), .val (.int (1 : Int32)), .val (.int (1 : Int32)), .val (.int (1 : Int32)), .val (.int gg), .val (.int (1 : Int32)), .val (.int x2), .val (.int (-1 : Int32)), .unset, .unset, .unset] [(.int (2 : Int32))])) _
          refine XS.istore X6.here hx rfl (hb hby at_191) rfl (l' := #[.val (.int p1), .val (.int p2), .val (.int p3), .val (.int p4), .val (.int p5), .val (.int p6), .val (.int x1), .val (.int x2), .val (.int x3), .val (.int c1), .val (.int c2), .val (.int qq), .val (.int dd'), .val (.ref b1), .val (.int (1 : Int32)), .val (.int (1 : Int32)), .val (.int (1 : Int32)), .val (.int gg), .val (.int (2 : Int32)), .val (.int x2), .val (.int (-1 : Int32)), .unset, .unset, .unset]) rfl ?_
          show Steps p.tables e below (T6.setTop (mkF m 193 #[.val (.int p1), .val (.int p2), .val (.int p3), .val (.int p4), .val (.int p5), .val (.int p6), .val (.int x1), .val (.int x2), .val (.int x3), .val (.int c1), .val (.int c2), .val (.int qq), .val (.int dd'), .val (.ref b1), .val (.int (1 : Int32)), .val (.int (1 : Int32)), .val (.int (1 : Int32)), .val (.int gg), .val (.int (2 : Int32)), .val (.int x2), .val (.int (-1 : Int32)), .unset, .unset, .unset] [])) _
          exact k
      · simp only [if_neg hd178] at k
        refine XS.icmpYes X6.here hx rfl (pc0 := 178) (pc' := 186) rfl (hb hby at_178) rfl (feq hd178).2 (by decide) (by decide) ?_
        show Steps p.tables e below (T6.setTop (mkF m 186 #[.val (.int p1), .val (.int p2), .val (.int p3), .val (.int p4), .val (.int p5), .val (.int p6), .val (.int x1), .val (.int x2), .val (.int x3), .val (.int c1), .val (.int c2), .val (.int qq), .val (.int dd'), .val (.ref b1), .val (.int (1 : Int32)), .val (.int (1 : Int32)), .val (.int (1 : Int32)), .val (.int gg), .val (.int (1 : Int32)), .val (.int (-1 : Int32)), .val (.int (-1 : Int32)), .unset, .unset, .unset] [])) _
        refine XS.iload X6.here hx rfl (hb hby at_186) rfl ?_
        show Steps p.tables e below (T6.setTop (mkF m 188 #[.val (.int p1), .val (.int p2), .val (.int p3), .val (.int p4), .val (.int p5), .val (.int p6), .val (.int x1), .val (.int x2), .val (.int x3), .val (.int c1), .val (.int c2), .val (.int qq), .val (.int dd'), .val (.ref b1), .val (.int (1 : Int32)), .val (.int (1 : Int32)), .val (.int (1 : Int32)), .val (.int gg), .val (.int (1 : Int32)), .val (.int (-1 : Int32)), .val (.int (-1 : Int32)), .unset, .unset, .unset] [(.int x2)])) _
        refine XS.istore X6.here hx rfl (hb hby at_188) rfl (l' := #[.val (.int p1), .val (.int p2), .val (.int p3), .val (.int p4), .val (.int p5), .val (.int p6), .val (.int x1), .val (.int x2), .val (.int x3), .val (.int c1), .val (.int c2), .val (.int qq), .val (.int dd'), .val (.ref b1), .val (.int (1 : Int32)), .val (.int (1 : Int32)), .val (.int (1 : Int32)), .val (.int gg), .val (.int (1 : Int32)), .val (.int x2), .val (.int (-1 : Int32)), .unset, .unset, .unset]) rfl ?_
        show Steps p.tables e below (T6.setTop (mkF m 190 #[.val (.int p1), .val (.int p2), .val (.int p3), .val (.int p4), .val (.int p5), .val (.int p6), .val (.int x1), .val (.int x2), .val (.int x3), .val (.int c1), .val (.int c2), .val (.int qq), .val (.int dd'), .val (.ref b1), .val (.int (1 : Int32)), .val (.int (1 : Int32)), .val (.int (1 : Int32)), .val (.int gg), .val (.int (1 : Int32)), .val (.int x2), .val (.int (-1 : Int32)), .unset, .unset, .unset] [])) _
        refine XS.iconst X6.here hx rfl (hb hby at_190) ?_
        show Steps p.tables e below (T6.setTop (mkF m 191 #[.val (.int p1), .val (.int p2), .val (.int p3), .val (.int p4), .val (.int p5), .val (.int p6), .val (.int x1), .val (.int x2), .val (.int x3), .val (.int c1), .val (.int c2), .val (.int qq), .val (.int dd'), .val (.ref b1), .val (.int (1 : Int32)), .val (.int (1 : Int32)), .val (.int (1 : Int32)), .val (.int gg), .val (.int (1 : Int32)), .val (.int x2), .val (.int (-1 : Int32)), .unset, .unset, .unset] [(.int (2 : Int32))])) _
        refine XS.istore X6.here hx rfl (hb hby at_191) rfl (l' := #[.val (.int p1), .val (.int p2), .val (.int p3), .val (.int p4), .val (.int p5), .val (.int p6), .val (.int x1), .val (.int x2), .val (.int x3), .val (.int c1), .val (.int c2), .val (.int qq), .val (.int dd'), .val (.ref b1), .val (.int (1 : Int32)), .val (.int (1 : Int32)), .val (.int (1 : Int32)), .val (.int gg), .val (.int (2 : Int32)), .val (.int x2), .val (.int (-1 : Int32)), .unset, .unset, .unset]) rfl ?_
        show Steps p.tables e below (T6.setTop (mkF m 193 #[.val (.int p1), .val (.int p2), .val (.int p3), .val (.int p4), .val (.int p5), .val (.int p6), .val (.int x1), .val (.int x2), .val (.int x3), .val (.int c1), .val (.int c2), .val (.int qq), .val (.int dd'), .val (.ref b1), .val (.int (1 : Int32)), .val (.int (1 : Int32)), .val (.int (1 : Int32)), .val (.int gg), .val (.int (2 : Int32)), .val (.int x2), .val (.int (-1 : Int32)), .unset, .unset, .unset] [])) _
        exact k
    have en_w1 : (if x2 = x1 then (if c1 = (0 : Int32) then (1 : Int32) else (2 : Int32)) else (2 : Int32)) = own_n1 x1 x2 c1 := rfl
    rw [en_w1]
    generalize hv_w1 : own_n1 x1 x2 c1 = w1
    have en_w2 : (if x2 = x1 then (if c1 = (0 : Int32) then (-1 : Int32) else x2) else x2) = own_l1 x1 x2 c1 := rfl
    rw [en_w2]
    generalize hv_w2 : own_l1 x1 x2 c1 = w2
    refine own_go (U' := T6.setTop (mkF m 195 #[.val (.int p1), .val (.int p2), .val (.int p3), .val (.int p4), .val (.int p5), .val (.int p6), .val (.int x1), .val (.int x2), .val (.int x3), .val (.int c1), .val (.int c2), .val (.int qq), .val (.int dd'), .val (.ref b1), .val (.int (1 : Int32)), .val (.int (1 : Int32)), .val (.int (1 : Int32)), .val (.int gg), .val (.int w1), .val (.int w2), .val (.int (-1 : Int32)), .unset, .unset, .unset] [(.int c2)])) (fun t k => XS.iload X6.here hx rfl (hb hby at_193) rfl k) ?_
    refine own_go (U' := T6.setTop (mkF m 213 #[.val (.int p1), .val (.int p2), .val (.int p3), .val (.int p4), .val (.int p5), .val (.int p6), .val (.int x1), .val (.int x2), .val (.int x3), .val (.int c1), .val (.int c2), .val (.int qq), .val (.int dd'), .val (.ref b1), .val (.int (1 : Int32)), .val (.int (1 : Int32)), .val (.int (1 : Int32)), .val (.int gg), .val (.int w1), .val (.int w2), .val (.int (-1 : Int32)), .unset, .unset, .unset] [(.int (if c2 = (0 : Int32) then (if c1 = (0 : Int32) then (0 : Int32) else (1 : Int32)) else w1))])) (fun t k => ?_) ?_
    · show Steps p.tables e below (T6.setTop (mkF m 195 #[.val (.int p1), .val (.int p2), .val (.int p3), .val (.int p4), .val (.int p5), .val (.int p6), .val (.int x1), .val (.int x2), .val (.int x3), .val (.int c1), .val (.int c2), .val (.int qq), .val (.int dd'), .val (.ref b1), .val (.int (1 : Int32)), .val (.int (1 : Int32)), .val (.int (1 : Int32)), .val (.int gg), .val (.int w1), .val (.int w2), .val (.int (-1 : Int32)), .unset, .unset, .unset] [(.int c2)])) _
      by_cases hd195 : c2 = (0 : Int32)
      · simp only [if_pos hd195] at k
        refine XS.ifYes X6.here hx rfl (pc0 := 195) (pc' := 203) rfl (hb hby at_195) rfl ((if0 _ _).trans (teq hd195).1) (by decide) (by decide) ?_
        show Steps p.tables e below (T6.setTop (mkF m 203 #[.val (.int p1), .val (.int p2), .val (.int p3), .val (.int p4), .val (.int p5), .val (.int p6), .val (.int x1), .val (.int x2), .val (.int x3), .val (.int c1), .val (.int c2), .val (.int qq), .val (.int dd'), .val (.ref b1), .val (.int (1 : Int32)), .val (.int (1 : Int32)), .val (.int (1 : Int32)), .val (.int gg), .val (.int w1), .val (.int w2), .val (.int (-1 : Int32)), .unset, .unset, .unset] [])) _
        refine XS.iload X6.here hx rfl (hb hby at_203) rfl ?_
        show Steps p.tables e below (T6.setTop (mkF m 205 #[.val (.int p1), .val (.int p2), .val (.int p3), .val (.int p4), .val (.int p5), .val (.int p6), .val (.int x1), .val (.int x2), .val (.int x3), .val (.int c1), .val (.int c2), .val (.int qq), .val (.int dd'), .val (.ref b1), .val (.int (1 : Int32)), .val (.int (1 : Int32)), .val (.int (1 : Int32)), .val (.int gg), .val (.int w1), .val (.int w2), .val (.int (-1 : Int32)), .unset, .unset, .unset] [(.int c1)])) _
        by_cases hd205 : c1 = (0 : Int32)
        · simp only [if_pos hd205] at k
          refine XS.ifYes X6.here hx rfl (pc0 := 205) (pc' := 212) rfl (hb hby at_205) rfl ((if0 _ _).trans (teq hd205).1) (by decide) (by decide) ?_
          show Steps p.tables e below (T6.setTop (mkF m 212 #[.val (.int p1), .val (.int p2), .val (.int p3), .val (.int p4), .val (.int p5), .val (.int p6), .val (.int x1), .val (.int x2), .val (.int x3), .val (.int c1), .val (.int c2), .val (.int qq), .val (.int dd'), .val (.ref b1), .val (.int (1 : Int32)), .val (.int (1 : Int32)), .val (.int (1 : Int32)), .val (.int gg), .val (.int w1), .val (.int w2), .val (.int (-1 : Int32)), .unset, .unset, .unset] [])) _
          refine XS.iconst X6.here hx rfl (hb hby at_212) ?_
          show Steps p.tables e below (T6.setTop (mkF m 213 #[.val (.int p1), .val (.int p2), .val (.int p3), .val (.int p4), .val (.int p5), .val (.int p6), .val (.int x1), .val (.int x2), .val (.int x3), .val (.int c1), .val (.int c2), .val (.int qq), .val (.int dd'), .val (.ref b1), .val (.int (1 : Int32)), .val (.int (1 : Int32)), .val (.int (1 : Int32)), .val (.int gg), .val (.int w1), .val (.int w2), .val (.int (-1 : Int32)), .unset, .unset, .unset] [(.int (0 : Int32))])) _
          exact k
        · simp only [if_neg hd205] at k
          refine XS.ifNo X6.here hx rfl (hb hby at_205) rfl ((if0 _ _).trans (feq hd205).1) ?_
          show Steps p.tables e below (T6.setTop (mkF m 208 #[.val (.int p1), .val (.int p2), .val (.int p3), .val (.int p4), .val (.int p5), .val (.int p6), .val (.int x1), .val (.int x2), .val (.int x3), .val (.int c1), .val (.int c2), .val (.int qq), .val (.int dd'), .val (.ref b1), .val (.int (1 : Int32)), .val (.int (1 : Int32)), .val (.int (1 : Int32)), .val (.int gg), .val (.int w1), .val (.int w2), .val (.int (-1 : Int32)), .unset, .unset, .unset] [])) _
          refine XS.iconst X6.here hx rfl (hb hby at_208) ?_
          show Steps p.tables e below (T6.setTop (mkF m 209 #[.val (.int p1), .val (.int p2), .val (.int p3), .val (.int p4), .val (.int p5), .val (.int p6), .val (.int x1), .val (.int x2), .val (.int x3), .val (.int c1), .val (.int c2), .val (.int qq), .val (.int dd'), .val (.ref b1), .val (.int (1 : Int32)), .val (.int (1 : Int32)), .val (.int (1 : Int32)), .val (.int gg), .val (.int w1), .val (.int w2), .val (.int (-1 : Int32)), .unset, .unset, .unset] [(.int (1 : Int32))])) _
          refine XS.goto X6.here hx rfl (pc0 := 209) (pc' := 213) rfl (hb hby at_209) (by decide) (by decide) ?_
          show Steps p.tables e below (T6.setTop (mkF m 213 #[.val (.int p1), .val (.int p2), .val (.int p3), .val (.int p4), .val (.int p5), .val (.int p6), .val (.int x1), .val (.int x2), .val (.int x3), .val (.int c1), .val (.int c2), .val (.int qq), .val (.int dd'), .val (.ref b1), .val (.int (1 : Int32)), .val (.int (1 : Int32)), .val (.int (1 : Int32)), .val (.int gg), .val (.int w1), .val (.int w2), .val (.int (-1 : Int32)), .unset, .unset, .unset] [(.int (1 : Int32))])) _
          exact k
      · simp only [if_neg hd195] at k
        refine XS.ifNo X6.here hx rfl (hb hby at_195) rfl ((if0 _ _).trans (feq hd195).1) ?_
        show Steps p.tables e below (T6.setTop (mkF m 198 #[.val (.int p1), .val (.int p2), .val (.int p3), .val (.int p4), .val (.int p5), .val (.int p6), .val (.int x1), .val (.int x2), .val (.int x3), .val (.int c1), .val (.int c2), .val (.int qq), .val (.int dd'), .val (.ref b1), .val (.int (1 : Int32)), .val (.int (1 : Int32)), .val (.int (1 : Int32)), .val (.int gg), .val (.int w1), .val (.int w2), .val (.int (-1 : Int32)), .unset, .unset, .unset] [])) _
        refine XS.iload X6.here hx rfl (hb hby at_198) rfl ?_
        show Steps p.tables e below (T6.setTop (mkF m 200 #[.val (.int p1), .val (.int p2), .val (.int p3), .val (.int p4), .val (.int p5), .val (.int p6), .val (.int x1), .val (.int x2), .val (.int x3), .val (.int c1), .val (.int c2), .val (.int qq), .val (.int dd'), .val (.ref b1), .val (.int (1 : Int32)), .val (.int (1 : Int32)), .val (.int (1 : Int32)), .val (.int gg), .val (.int w1), .val (.int w2), .val (.int (-1 : Int32)), .unset, .unset, .unset] [(.int w1)])) _
        refine XS.goto X6.here hx rfl (pc0 := 200) (pc' := 213) rfl (hb hby at_200) (by decide) (by decide) ?_
        show Steps p.tables e below (T6.setTop (mkF m 213 #[.val (.int p1), .val (.int p2), .val (.int p3), .val (.int p4), .val (.int p5), .val (.int p6), .val (.int x1), .val (.int x2), .val (.int x3), .val (.int c1), .val (.int c2), .val (.int qq), .val (.int dd'), .val (.ref b1), .val (.int (1 : Int32)), .val (.int (1 : Int32)), .val (.int (1 : Int32)), .val (.int gg), .val (.int w1), .val (.int w2), .val (.int (-1 : Int32)), .unset, .unset, .unset] [(.int w1)])) _
        exact k
    refine own_go (U' := T6.setTop (mkF m 215 #[.val (.int p1), .val (.int p2), .val (.int p3), .val (.int p4), .val (.int p5), .val (.int p6), .val (.int x1), .val (.int x2), .val (.int x3), .val (.int c1), .val (.int c2), .val (.int qq), .val (.int dd'), .val (.ref b1), .val (.int (1 : Int32)), .val (.int (1 : Int32)), .val (.int (1 : Int32)), .val (.int gg), .val (.int w1), .val (.int w2), .val (.int (-1 : Int32)), .val (.int (if c2 = (0 : Int32) then (if c1 = (0 : Int32) then (0 : Int32) else (1 : Int32)) else w1)), .unset, .unset] [])) (fun t k => XS.istore X6.here hx rfl (hb hby at_213) rfl (l' := #[.val (.int p1), .val (.int p2), .val (.int p3), .val (.int p4), .val (.int p5), .val (.int p6), .val (.int x1), .val (.int x2), .val (.int x3), .val (.int c1), .val (.int c2), .val (.int qq), .val (.int dd'), .val (.ref b1), .val (.int (1 : Int32)), .val (.int (1 : Int32)), .val (.int (1 : Int32)), .val (.int gg), .val (.int w1), .val (.int w2), .val (.int (-1 : Int32)), .val (.int (if c2 = (0 : Int32) then (if c1 = (0 : Int32) then (0 : Int32) else (1 : Int32)) else w1)), .unset, .unset]) rfl k) ?_
    have en_w3 : (if c2 = (0 : Int32) then (if c1 = (0 : Int32) then (0 : Int32) else (1 : Int32)) else w1) = own_sl w1 c1 c2 := rfl
    rw [en_w3]
    generalize hv_w3 : own_sl w1 c1 c2 = w3
    refine own_go (U' := T6.setTop (mkF m 217 #[.val (.int p1), .val (.int p2), .val (.int p3), .val (.int p4), .val (.int p5), .val (.int p6), .val (.int x1), .val (.int x2), .val (.int x3), .val (.int c1), .val (.int c2), .val (.int qq), .val (.int dd'), .val (.ref b1), .val (.int (1 : Int32)), .val (.int (1 : Int32)), .val (.int (1 : Int32)), .val (.int gg), .val (.int w1), .val (.int w2), .val (.int (-1 : Int32)), .val (.int w3), .unset, .unset] [(.int w1)])) (fun t k => XS.iload X6.here hx rfl (hb hby at_215) rfl k) ?_
    refine own_go (U' := T6.setTop (mkF m 218 #[.val (.int p1), .val (.int p2), .val (.int p3), .val (.int p4), .val (.int p5), .val (.int p6), .val (.int x1), .val (.int x2), .val (.int x3), .val (.int c1), .val (.int c2), .val (.int qq), .val (.int dd'), .val (.ref b1), .val (.int (1 : Int32)), .val (.int (1 : Int32)), .val (.int (1 : Int32)), .val (.int gg), .val (.int w1), .val (.int w2), .val (.int (-1 : Int32)), .val (.int w3), .unset, .unset] [(.int (2 : Int32)), (.int w1)])) (fun t k => XS.iconst X6.here hx rfl (hb hby at_217) k) ?_
    refine own_go (U' := T6.setTop (mkF m 244 #[.val (.int p1), .val (.int p2), .val (.int p3), .val (.int p4), .val (.int p5), .val (.int p6), .val (.int x1), .val (.int x2), .val (.int x3), .val (.int c1), .val (.int c2), .val (.int qq), .val (.int dd'), .val (.ref b1), .val (.int (1 : Int32)), .val (.int (1 : Int32)), .val (.int (1 : Int32)), .val (.int gg), .val (.int w1), .val (.int w2), .val (.int (-1 : Int32)), .val (.int w3), .unset, .unset] [(.int (if w1 = (2 : Int32) then (if w2 = x3 then (1 : Int32) else (if x1 = x3 then (0 : Int32) else (-1 : Int32))) else (if x1 = x3 then (0 : Int32) else (-1 : Int32))))])) (fun t k => ?_) ?_
    · show Steps p.tables e below (T6.setTop (mkF m 218 #[.val (.int p1), .val (.int p2), .val (.int p3), .val (.int p4), .val (.int p5), .val (.int p6), .val (.int x1), .val (.int x2), .val (.int x3), .val (.int c1), .val (.int c2), .val (.int qq), .val (.int dd'), .val (.ref b1), .val (.int (1 : Int32)), .val (.int (1 : Int32)), .val (.int (1 : Int32)), .val (.int gg), .val (.int w1), .val (.int w2), .val (.int (-1 : Int32)), .val (.int w3), .unset, .unset] [(.int (2 : Int32)), (.int w1)])) _
      by_cases hd218 : w1 = (2 : Int32)
      · simp only [if_pos hd218] at k
        refine XS.icmpNo X6.here hx rfl (hb hby at_218) rfl (teq hd218).2 ?_
        show Steps p.tables e below (T6.setTop (mkF m 221 #[.val (.int p1), .val (.int p2), .val (.int p3), .val (.int p4), .val (.int p5), .val (.int p6), .val (.int x1), .val (.int x2), .val (.int x3), .val (.int c1), .val (.int c2), .val (.int qq), .val (.int dd'), .val (.ref b1), .val (.int (1 : Int32)), .val (.int (1 : Int32)), .val (.int (1 : Int32)), .val (.int gg), .val (.int w1), .val (.int w2), .val (.int (-1 : Int32)), .val (.int w3), .unset, .unset] [])) _
        refine XS.iload X6.here hx rfl (hb hby at_221) rfl ?_
        show Steps p.tables e below (T6.setTop (mkF m 223 #[.val (.int p1), .val (.int p2), .val (.int p3), .val (.int p4), .val (.int p5), .val (.int p6), .val (.int x1), .val (.int x2), .val (.int x3), .val (.int c1), .val (.int c2), .val (.int qq), .val (.int dd'), .val (.ref b1), .val (.int (1 : Int32)), .val (.int (1 : Int32)), .val (.int (1 : Int32)), .val (.int gg), .val (.int w1), .val (.int w2), .val (.int (-1 : Int32)), .val (.int w3), .unset, .unset] [(.int w2)])) _
        refine XS.iload X6.here hx rfl (hb hby at_223) rfl ?_
        show Steps p.tables e below (T6.setTop (mkF m 225 #[.val (.int p1), .val (.int p2), .val (.int p3), .val (.int p4), .val (.int p5), .val (.int p6), .val (.int x1), .val (.int x2), .val (.int x3), .val (.int c1), .val (.int c2), .val (.int qq), .val (.int dd'), .val (.ref b1), .val (.int (1 : Int32)), .val (.int (1 : Int32)), .val (.int (1 : Int32)), .val (.int gg), .val (.int w1), .val (.int w2), .val (.int (-1 : Int32)), .val (.int w3), .unset, .unset] [(.int x3), (.int w2)])) _
        by_cases hd225 : w2 = x3
        · simp only [if_pos hd225] at k
          refine XS.icmpNo X6.here hx rfl (hb hby at_225) rfl (teq hd225).2 ?_
          show Steps p.tables e below (T6.setTop (mkF m 228 #[.val (.int p1), .val (.int p2), .val (.int p3), .val (.int p4), .val (.int p5), .val (.int p6), .val (.int x1), .val (.int x2), .val (.int x3), .val (.int c1), .val (.int c2), .val (.int qq), .val (.int dd'), .val (.ref b1), .val (.int (1 : Int32)), .val (.int (1 : Int32)), .val (.int (1 : Int32)), .val (.int gg), .val (.int w1), .val (.int w2), .val (.int (-1 : Int32)), .val (.int w3), .unset, .unset] [])) _
          refine XS.iconst X6.here hx rfl (hb hby at_228) ?_
          show Steps p.tables e below (T6.setTop (mkF m 229 #[.val (.int p1), .val (.int p2), .val (.int p3), .val (.int p4), .val (.int p5), .val (.int p6), .val (.int x1), .val (.int x2), .val (.int x3), .val (.int c1), .val (.int c2), .val (.int qq), .val (.int dd'), .val (.ref b1), .val (.int (1 : Int32)), .val (.int (1 : Int32)), .val (.int (1 : Int32)), .val (.int gg), .val (.int w1), .val (.int w2), .val (.int (-1 : Int32)), .val (.int w3), .unset, .unset] [(.int (1 : Int32))])) _
          refine XS.goto X6.here hx rfl (pc0 := 229) (pc' := 244) rfl (hb hby at_229) (by decide) (by decide) ?_
          show Steps p.tables e below (T6.setTop (mkF m 244 #[.val (.int p1), .val (.int p2), .val (.int p3), .val (.int p4), .val (.int p5), .val (.int p6), .val (.int x1), .val (.int x2), .val (.int x3), .val (.int c1), .val (.int c2), .val (.int qq), .val (.int dd'), .val (.ref b1), .val (.int (1 : Int32)), .val (.int (1 : Int32)), .val (.int (1 : Int32)), .val (.int gg), .val (.int w1), .val (.int w2), .val (.int (-1 : Int32)), .val (.int w3), .unset, .unset] [(.int (1 : Int32))])) _
          exact k
        · simp only [if_neg hd225] at k
          refine XS.icmpYes X6.here hx rfl (pc0 := 225) (pc' := 232) rfl (hb hby at_225) rfl (feq hd225).2 (by decide) (by decide) ?_
          show Steps p.tables e below (T6.setTop (mkF m 232 #[.val (.int p1), .val (.int p2), .val (.int p3), .val (.int p4), .val (.int p5), .val (.int p6), .val (.int x1), .val (.int x2), .val (.int x3), .val (.int c1), .val (.int c2), .val (.int qq), .val (.int dd'), .val (.ref b1), .val (.int (1 : Int32)), .val (.int (1 : Int32)), .val (.int (1 : Int32)), .val (.int gg), .val (.int w1), .val (.int w2), .val (.int (-1 : Int32)), .val (.int w3), .unset, .unset] [])) _
          refine XS.iload X6.here hx rfl (hb hby at_232) rfl ?_
          show Steps p.tables e below (T6.setTop (mkF m 234 #[.val (.int p1), .val (.int p2), .val (.int p3), .val (.int p4), .val (.int p5), .val (.int p6), .val (.int x1), .val (.int x2), .val (.int x3), .val (.int c1), .val (.int c2), .val (.int qq), .val (.int dd'), .val (.ref b1), .val (.int (1 : Int32)), .val (.int (1 : Int32)), .val (.int (1 : Int32)), .val (.int gg), .val (.int w1), .val (.int w2), .val (.int (-1 : Int32)), .val (.int w3), .unset, .unset] [(.int x1)])) _
          refine XS.iload X6.here hx rfl (hb hby at_234) rfl ?_
          show Steps p.tables e below (T6.setTop (mkF m 236 #[.val (.int p1), .val (.int p2), .val (.int p3), .val (.int p4), .val (.int p5), .val (.int p6), .val (.int x1), .val (.int x2), .val (.int x3), .val (.int c1), .val (.int c2), .val (.int qq), .val (.int dd'), .val (.ref b1), .val (.int (1 : Int32)), .val (.int (1 : Int32)), .val (.int (1 : Int32)), .val (.int gg), .val (.int w1), .val (.int w2), .val (.int (-1 : Int32)), .val (.int w3), .unset, .unset] [(.int x3), (.int x1)])) _
          by_cases hd236 : x1 = x3
          · simp only [if_pos hd236] at k
            refine XS.icmpNo X6.here hx rfl (hb hby at_236) rfl (teq hd236).2 ?_
            show Steps p.tables e below (T6.setTop (mkF m 239 #[.val (.int p1), .val (.int p2), .val (.int p3), .val (.int p4), .val (.int p5), .val (.int p6), .val (.int x1), .val (.int x2), .val (.int x3), .val (.int c1), .val (.int c2), .val (.int qq), .val (.int dd'), .val (.ref b1), .val (.int (1 : Int32)), .val (.int (1 : Int32)), .val (.int (1 : Int32)), .val (.int gg), .val (.int w1), .val (.int w2), .val (.int (-1 : Int32)), .val (.int w3), .unset, .unset] [])) _
            refine XS.iconst X6.here hx rfl (hb hby at_239) ?_
            show Steps p.tables e below (T6.setTop (mkF m 240 #[.val (.int p1), .val (.int p2), .val (.int p3), .val (.int p4), .val (.int p5), .val (.int p6), .val (.int x1), .val (.int x2), .val (.int x3), .val (.int c1), .val (.int c2), .val (.int qq), .val (.int dd'), .val (.ref b1), .val (.int (1 : Int32)), .val (.int (1 : Int32)), .val (.int (1 : Int32)), .val (.int gg), .val (.int w1), .val (.int w2), .val (.int (-1 : Int32)), .val (.int w3), .unset, .unset] [(.int (0 : Int32))])) _
            refine XS.goto X6.here hx rfl (pc0 := 240) (pc' := 244) rfl (hb hby at_240) (by decide) (by decide) ?_
            show Steps p.tables e below (T6.setTop (mkF m 244 #[.val (.int p1), .val (.int p2), .val (.int p3), .val (.int p4), .val (.int p5), .val (.int p6), .val (.int x1), .val (.int x2), .val (.int x3), .val (.int c1), .val (.int c2), .val (.int qq), .val (.int dd'), .val (.ref b1), .val (.int (1 : Int32)), .val (.int (1 : Int32)), .val (.int (1 : Int32)), .val (.int gg), .val (.int w1), .val (.int w2), .val (.int (-1 : Int32)), .val (.int w3), .unset, .unset] [(.int (0 : Int32))])) _
            exact k
          · simp only [if_neg hd236] at k
            refine XS.icmpYes X6.here hx rfl (pc0 := 236) (pc' := 243) rfl (hb hby at_236) rfl (feq hd236).2 (by decide) (by decide) ?_
            show Steps p.tables e below (T6.setTop (mkF m 243 #[.val (.int p1), .val (.int p2), .val (.int p3), .val (.int p4), .val (.int p5), .val (.int p6), .val (.int x1), .val (.int x2), .val (.int x3), .val (.int c1), .val (.int c2), .val (.int qq), .val (.int dd'), .val (.ref b1), .val (.int (1 : Int32)), .val (.int (1 : Int32)), .val (.int (1 : Int32)), .val (.int gg), .val (.int w1), .val (.int w2), .val (.int (-1 : Int32)), .val (.int w3), .unset, .unset] [])) _
            refine XS.iconst X6.here hx rfl (hb hby at_243) ?_
            show Steps p.tables e below (T6.setTop (mkF m 244 #[.val (.int p1), .val (.int p2), .val (.int p3), .val (.int p4), .val (.int p5), .val (.int p6), .val (.int x1), .val (.int x2), .val (.int x3), .val (.int c1), .val (.int c2), .val (.int qq), .val (.int dd'), .val (.ref b1), .val (.int (1 : Int32)), .val (.int (1 : Int32)), .val (.int (1 : Int32)), .val (.int gg), .val (.int w1), .val (.int w2), .val (.int (-1 : Int32)), .val (.int w3), .unset, .unset] [(.int (-1 : Int32))])) _
            exact k
      · simp only [if_neg hd218] at k
        refine XS.icmpYes X6.here hx rfl (pc0 := 218) (pc' := 232) rfl (hb hby at_218) rfl (feq hd218).2 (by decide) (by decide) ?_
        show Steps p.tables e below (T6.setTop (mkF m 232 #[.val (.int p1), .val (.int p2), .val (.int p3), .val (.int p4), .val (.int p5), .val (.int p6), .val (.int x1), .val (.int x2), .val (.int x3), .val (.int c1), .val (.int c2), .val (.int qq), .val (.int dd'), .val (.ref b1), .val (.int (1 : Int32)), .val (.int (1 : Int32)), .val (.int (1 : Int32)), .val (.int gg), .val (.int w1), .val (.int w2), .val (.int (-1 : Int32)), .val (.int w3), .unset, .unset] [])) _
        refine XS.iload X6.here hx rfl (hb hby at_232) rfl ?_
        show Steps p.tables e below (T6.setTop (mkF m 234 #[.val (.int p1), .val (.int p2), .val (.int p3), .val (.int p4), .val (.int p5), .val (.int p6), .val (.int x1), .val (.int x2), .val (.int x3), .val (.int c1), .val (.int c2), .val (.int qq), .val (.int dd'), .val (.ref b1), .val (.int (1 : Int32)), .val (.int (1 : Int32)), .val (.int (1 : Int32)), .val (.int gg), .val (.int w1), .val (.int w2), .val (.int (-1 : Int32)), .val (.int w3), .unset, .unset] [(.int x1)])) _
        refine XS.iload X6.here hx rfl (hb hby at_234) rfl ?_
        show Steps p.tables e below (T6.setTop (mkF m 236 #[.val (.int p1), .val (.int p2), .val (.int p3), .val (.int p4), .val (.int p5), .val (.int p6), .val (.int x1), .val (.int x2), .val (.int x3), .val (.int c1), .val (.int c2), .val (.int qq), .val (.int dd'), .val (.ref b1), .val (.int (1 : Int32)), .val (.int (1 : Int32)), .val (.int (1 : Int32)), .val (.int gg), .val (.int w1), .val (.int w2), .val (.int (-1 : Int32)), .val (.int w3), .unset, .unset] [(.int x3), (.int x1)])) _
        by_cases hd236 : x1 = x3
        · simp only [if_pos hd236] at k
          refine XS.icmpNo X6.here hx rfl (hb hby at_236) rfl (teq hd236).2 ?_
          show Steps p.tables e below (T6.setTop (mkF m 239 #[.val (.int p1), .val (.int p2), .val (.int p3), .val (.int p4), .val (.int p5), .val (.int p6), .val (.int x1), .val (.int x2), .val (.int x3), .val (.int c1), .val (.int c2), .val (.int qq), .val (.int dd'), .val (.ref b1), .val (.int (1 : Int32)), .val (.int (1 : Int32)), .val (.int (1 : Int32)), .val (.int gg), .val (.int w1), .val (.int w2), .val (.int (-1 : Int32)), .val (.int w3), .unset, .unset] [])) _
          refine XS.iconst X6.here hx rfl (hb hby at_239) ?_
          show Steps p.tables e below (T6.setTop (mkF m 240 #[.val (.int p1), .val (.int p2), .val (.int p3), .val (.int p4), .val (.int p5), .val (.int p6), .val (.int x1), .val (.int x2), .val (.int x3), .val (.int c1), .val (.int c2), .val (.int qq), .val (.int dd'), .val (.ref b1), .val (.int (1 : Int32)), .val (.int (1 : Int32)), .val (.int (1 : Int32)), .val (.int gg), .val (.int w1), .val (.int w2), .val (.int (-1 : Int32)), .val (.int w3), .unset, .unset] [(.int (0 : Int32))])) _
          refine XS.goto X6.here hx rfl (pc0 := 240) (pc' := 244) rfl (hb hby at_240) (by decide) (by decide) ?_
          show Steps p.tables e below (T6.setTop (mkF m 244 #[.val (.int p1), .val (.int p2), .val (.int p3), .val (.int p4), .val (.int p5), .val (.int p6), .val (.int x1), .val (.int x2), .val (.int x3), .val (.int c1), .val (.int c2), .val (.int qq), .val (.int dd'), .val (.ref b1), .val (.int (1 : Int32)), .val (.int (1 : Int32)), .val (.int (1 : Int32)), .val (.int gg), .val (.int w1), .val (.int w2), .val (.int (-1 : Int32)), .val (.int w3), .unset, .unset] [(.int (0 : Int32))])) _
          exact k
        · simp only [if_neg hd236] at k
          refine XS.icmpYes X6.here hx rfl (pc0 := 236) (pc' := 243) rfl (hb hby at_236) rfl (feq hd236).2 (by decide) (by decide) ?_
          show Steps p.tables e below (T6.setTop (mkF m 243 #[.val (.int p1), .val (.int p2), .val (.int p3), .val (.int p4), .val (.int p5), .val (.int p6), .val (.int x1), .val (.int x2), .val (.int x3), .val (.int c1), .val (.int c2), .val (.int qq), .val (.int dd'), .val (.ref b1), .val (.int (1 : Int32)), .val (.int (1 : Int32)), .val (.int (1 : Int32)), .val (.int gg), .val (.int w1), .val (.int w2), .val (.int (-1 : Int32)), .val (.int w3), .unset, .unset] [])) _
          refine XS.iconst X6.here hx rfl (hb hby at_243) ?_
          show Steps p.tables e below (T6.setTop (mkF m 244 #[.val (.int p1), .val (.int p2), .val (.int p3), .val (.int p4), .val (.int p5), .val (.int p6), .val (.int x1), .val (.int x2), .val (.int x3), .val (.int c1), .val (.int c2), .val (.int qq), .val (.int dd'), .val (.ref b1), .val (.int (1 : Int32)), .val (.int (1 : Int32)), .val (.int (1 : Int32)), .val (.int gg), .val (.int w1), .val (.int w2), .val (.int (-1 : Int32)), .val (.int w3), .unset, .unset] [(.int (-1 : Int32))])) _
          exact k
    refine own_go (U' := T6.setTop (mkF m 246 #[.val (.int p1), .val (.int p2), .val (.int p3), .val (.int p4), .val (.int p5), .val (.int p6), .val (.int x1), .val (.int x2), .val (.int x3), .val (.int c1), .val (.int c2), .val (.int qq), .val (.int dd'), .val (.ref b1), .val (.int (1 : Int32)), .val (.int (1 : Int32)), .val (.int (1 : Int32)), .val (.int gg), .val (.int w1), .val (.int w2), .val (.int (-1 : Int32)), .val (.int w3), .val (.int (if w1 = (2 : Int32) then (if w2 = x3 then (1 : Int32) else (if x1 = x3 then (0 : Int32) else (-1 : Int32))) else (if x1 = x3 then (0 : Int32) else (-1 : Int32)))), .unset] [])) (fun t k => XS.istore X6.here hx rfl (hb hby at_244) rfl (l' := #[.val (.int p1), .val (.int p2), .val (.int p3), .val (.int p4), .val (.int p5), .val (.int p6), .val (.int x1), .val (.int x2), .val (.int x3), .val (.int c1), .val (.int c2), .val (.int qq), .val (.int dd'), .val (.ref b1), .val (.int (1 : Int32)), .val (.int (1 : Int32)), .val (.int (1 : Int32)), .val (.int gg), .val (.int w1), .val (.int w2), .val (.int (-1 : Int32)), .val (.int w3), .val (.int (if w1 = (2 : Int32) then (if w2 = x3 then (1 : Int32) else (if x1 = x3 then (0 : Int32) else (-1 : Int32))) else (if x1 = x3 then (0 : Int32) else (-1 : Int32)))), .unset]) rfl k) ?_
    have en_w4 : (if w1 = (2 : Int32) then (if w2 = x3 then (1 : Int32) else (if x1 = x3 then (0 : Int32) else (-1 : Int32))) else (if x1 = x3 then (0 : Int32) else (-1 : Int32))) = own_lz w1 w2 x1 x3 := rfl
    rw [en_w4]
    generalize hv_w4 : own_lz w1 w2 x1 x3 = w4
    refine own_go (U' := T6.setTop (mkF m 248 #[.val (.int p1), .val (.int p2), .val (.int p3), .val (.int p4), .val (.int p5), .val (.int p6), .val (.int x1), .val (.int x2), .val (.int x3), .val (.int c1), .val (.int c2), .val (.int qq), .val (.int dd'), .val (.ref b1), .val (.int (1 : Int32)), .val (.int (1 : Int32)), .val (.int (1 : Int32)), .val (.int gg), .val (.int w1), .val (.int w2), .val (.int (-1 : Int32)), .val (.int w3), .val (.int w4), .unset] [(.int w4)])) (fun t k => XS.iload X6.here hx rfl (hb hby at_246) rfl k) ?_
    refine own_go (U' := T6.setTop (mkF m 250 #[.val (.int p1), .val (.int p2), .val (.int p3), .val (.int p4), .val (.int p5), .val (.int p6), .val (.int x1), .val (.int x2), .val (.int x3), .val (.int c1), .val (.int c2), .val (.int qq), .val (.int dd'), .val (.ref b1), .val (.int (1 : Int32)), .val (.int (1 : Int32)), .val (.int (1 : Int32)), .val (.int gg), .val (.int w1), .val (.int w2), .val (.int (-1 : Int32)), .val (.int w3), .val (.int w4), .unset] [(.int w3), (.int w4)])) (fun t k => XS.iload X6.here hx rfl (hb hby at_248) rfl k) ?_
    refine own_go (U' := T6.setTop (mkF m 276 #[.val (.int p1), .val (.int p2), .val (.int p3), .val (.int p4), .val (.int p5), .val (.int p6), .val (.int x1), .val (.int x2), .val (.int x3), .val (.int c1), .val (.int c2), .val (.int qq), .val (.int dd'), .val (.ref b1), .val (.int (1 : Int32)), .val (.int (1 : Int32)), .val (.int (1 : Int32)), .val (.int gg), .val (.int (if w4 < w3 then (w1 + (1 : Int32)) else w1)), .val (.int (if w4 < w3 then (if w1 = (1 : Int32) then x3 else w2) else w2)), .val (.int (if w4 < w3 then (if w1 = (1 : Int32) then (-1 : Int32) else x3) else (-1 : Int32))), .val (.int w3), .val (.int w4), .unset] [])) (fun t k => ?_) ?_
    · show Steps p.tables e below (T6.setTop (mkF m 250 #[.val (.int p1), .val (.int p2), .val (.int p3), .val (.int p4), .val (.int p5), .val (.int p6), .val (.int x1), .val (.int x2), .val (.int x3), .val (.int c1), .val (.int c2), .val (.int qq), .val (.int dd'), .val (.ref b1), .val (.int (1 : Int32)), .val (.int (1 : Int32)), .val (.int (1 : Int32)), .val (.int gg), .val (.int w1), .val (.int w2), .val (.int (-1 : Int32)), .val (.int w3), .val (.int w4), .unset] [(.int w3), (.int w4)])) _
      by_cases hd250 : w4 < w3
      · simp only [if_pos hd250] at k
        refine XS.icmpNo X6.here hx rfl (hb hby at_250) rfl (tlt hd250).2.1 ?_
        show Steps p.tables e below (T6.setTop (mkF m 253 #[.val (.int p1), .val (.int p2), .val (.int p3), .val (.int p4), .val (.int p5), .val (.int p6), .val (.int x1), .val (.int x2), .val (.int x3), .val (.int c1), .val (.int c2), .val (.int qq), .val (.int dd'), .val (.ref b1), .val (.int (1 : Int32)), .val (.int (1 : Int32)), .val (.int (1 : Int32)), .val (.int gg), .val (.int w1), .val (.int w2), .val (.int (-1 : Int32)), .val (.int w3), .val (.int w4), .unset] [])) _
        refine XS.iload X6.here hx rfl (hb hby at_253) rfl ?_
        show Steps p.tables e below (T6.setTop (mkF m 255 #[.val (.int p1), .val (.int p2), .val (.int p3), .val (.int p4), .val (.int p5), .val (.int p6), .val (.int x1), .val (.int x2), .val (.int x3), .val (.int c1), .val (.int c2), .val (.int qq), .val (.int dd'), .val (.ref b1), .val (.int (1 : Int32)), .val (.int (1 : Int32)), .val (.int (1 : Int32)), .val (.int gg), .val (.int w1), .val (.int w2), .val (.int (-1 : Int32)), .val (.int w3), .val (.int w4), .unset] [(.int w1)])) _
        refine XS.iconst X6.here hx rfl (hb hby at_255) ?_
        show Steps p.tables e below (T6.setTop (mkF m 256 #[.val (.int p1), .val (.int p2), .val (.int p3), .val (.int p4), .val (.int p5), .val (.int p6), .val (.int x1), .val (.int x2), .val (.int x3), .val (.int c1), .val (.int c2), .val (.int qq), .val (.int dd'), .val (.ref b1), .val (.int (1 : Int32)), .val (.int (1 : Int32)), .val (.int (1 : Int32)), .val (.int gg), .val (.int w1), .val (.int w2), .val (.int (-1 : Int32)), .val (.int w3), .val (.int w4), .unset] [(.int (1 : Int32)), (.int w1)])) _
        by_cases hd256 : w1 = (1 : Int32)
        · simp only [if_pos hd256] at k
          refine XS.icmpNo X6.here hx rfl (hb hby at_256) rfl (teq hd256).2 ?_
          show Steps p.tables e below (T6.setTop (mkF m 259 #[.val (.int p1), .val (.int p2), .val (.int p3), .val (.int p4), .val (.int p5), .val (.int p6), .val (.int x1), .val (.int x2), .val (.int x3), .val (.int c1), .val (.int c2), .val (.int qq), .val (.int dd'), .val (.ref b1), .val (.int (1 : Int32)), .val (.int (1 : Int32)), .val (.int (1 : Int32)), .val (.int gg), .val (.int w1), .val (.int w2), .val (.int (-1 : Int32)), .val (.int w3), .val (.int w4), .unset] [])) _
          refine XS.iload X6.here hx rfl (hb hby at_259) rfl ?_
          show Steps p.tables e below (T6.setTop (mkF m 261 #[.val (.int p1), .val (.int p2), .val (.int p3), .val (.int p4), .val (.int p5), .val (.int p6), .val (.int x1), .val (.int x2), .val (.int x3), .val (.int c1), .val (.int c2), .val (.int qq), .val (.int dd'), .val (.ref b1), .val (.int (1 : Int32)), .val (.int (1 : Int32)), .val (.int (1 : Int32)), .val (.int gg), .val (.int w1), .val (.int w2), .val (.int (-1 : Int32)), .val (.int w3), .val (.int w4), .unset] [(.int x3)])) _
          refine XS.istore X6.here hx rfl (hb hby at_261) rfl (l' := #[.val (.int p1), .val (.int p2), .val (.int p3), .val (.int p4), .val (.int p5), .val (.int p6), .val (.int x1), .val (.int x2), .val (.int x3), .val (.int c1), .val (.int c2), .val (.int qq), .val (.int dd'), .val (.ref b1), .val (.int (1 : Int32)), .val (.int (1 : Int32)), .val (.int (1 : Int32)), .val (.int gg), .val (.int w1), .val (.int x3), .val (.int (-1 : Int32)), .val (.int w3), .val (.int w4), .unset]) rfl ?_
          show Steps p.tables e below (T6.setTop (mkF m 263 #[.val (.int p1), .val (.int p2), .val (.int p3), .val (.int p4), .val (.int p5), .val (.int p6), .val (.int x1), .val (.int x2), .val (.int x3), .val (.int c1), .val (.int c2), .val (.int qq), .val (.int dd'), .val (.ref b1), .val (.int (1 : Int32)), .val (.int (1 : Int32)), .val (.int (1 : Int32)), .val (.int gg), .val (.int w1), .val (.int x3), .val (.int (-1 : Int32)), .val (.int w3), .val (.int w4), .unset] [])) _
          refine XS.goto X6.here hx rfl (pc0 := 263) (pc' := 270) rfl (hb hby at_263) (by decide) (by decide) ?_
          show Steps p.tables e below (T6.setTop (mkF m 270 #[.val (.int p1), .val (.int p2), .val (.int p3), .val (.int p4), .val (.int p5), .val (.int p6), .val (.int x1), .val (.int x2), .val (.int x3), .val (.int c1), .val (.int c2), .val (.int qq), .val (.int dd'), .val (.ref b1), .val (.int (1 : Int32)), .val (.int (1 : Int32)), .val (.int (1 : Int32)), .val (.int gg), .val (.int w1), .val (.int x3), .val (.int (-1 : Int32)), .val (.int w3), .val (.int w4), .unset] [])) _
          refine XS.iload X6.here hx rfl (hb hby at_270) rfl ?_
          show Steps p.tables e below (T6.setTop (mkF m 272 #[.val (.int p1), .val (.int p2), .val (.int p3), .val (.int p4), .val (.int p5), .val (.int p6), .val (.int x1), .val (.int x2), .val (.int x3), .val (.int c1), .val (.int c2), .val (.int qq), .val (.int dd'), .val (.ref b1), .val (.int (1 : Int32)), .val (.int (1 : Int32)), .val (.int (1 : Int32)), .val (.int gg), .val (.int w1), .val (.int x3), .val (.int (-1 : Int32)), .val (.int w3), .val (.int w4), .unset] [(.int w1)])) _
          refine XS.iconst X6.here hx rfl (hb hby at_272) ?_
          show Steps p.tables e below (T6.setTop (mkF m 273 #[.val (.int p1), .val (.int p2), .val (.int p3), .val (.int p4), .val (.int p5), .val (.int p6), .val (.int x1), .val (.int x2), .val (.int x3), .val (.int c1), .val (.int c2), .val (.int qq), .val (.int dd'), .val (.ref b1), .val (.int (1 : Int32)), .val (.int (1 : Int32)), .val (.int (1 : Int32)), .val (.int gg), .val (.int w1), .val (.int x3), .val (.int (-1 : Int32)), .val (.int w3), .val (.int w4), .unset] [(.int (1 : Int32)), (.int w1)])) _
          refine XS.iadd X6.here hx rfl (hb hby at_273) rfl ?_
          show Steps p.tables e below (T6.setTop (mkF m 274 #[.val (.int p1), .val (.int p2), .val (.int p3), .val (.int p4), .val (.int p5), .val (.int p6), .val (.int x1), .val (.int x2), .val (.int x3), .val (.int c1), .val (.int c2), .val (.int qq), .val (.int dd'), .val (.ref b1), .val (.int (1 : Int32)), .val (.int (1 : Int32)), .val (.int (1 : Int32)), .val (.int gg), .val (.int w1), .val (.int x3), .val (.int (-1 : Int32)), .val (.int w3), .val (.int w4), .unset] [(.int (w1 + (1 : Int32)))])) _
          refine XS.istore X6.here hx rfl (hb hby at_274) rfl (l' := #[.val (.int p1), .val (.int p2), .val (.int p3), .val (.int p4), .val (.int p5), .val (.int p6), .val (.int x1), .val (.int x2), .val (.int x3), .val (.int c1), .val (.int c2), .val (.int qq), .val (.int dd'), .val (.ref b1), .val (.int (1 : Int32)), .val (.int (1 : Int32)), .val (.int (1 : Int32)), .val (.int gg), .val (.int (w1 + (1 : Int32))), .val (.int x3), .val (.int (-1 : Int32)), .val (.int w3), .val (.int w4), .unset]) rfl ?_
          show Steps p.tables e below (T6.setTop (mkF m 276 #[.val (.int p1), .val (.int p2), .val (.int p3), .val (.int p4), .val (.int p5), .val (.int p6), .val (.int x1), .val (.int x2), .val (.int x3), .val (.int c1), .val (.int c2), .val (.int qq), .val (.int dd'), .val (.ref b1), .val (.int (1 : Int32)), .val (.int (1 : Int32)), .val (.int (1 : Int32)), .val (.int gg), .val (.int (w1 + (1 : Int32))), .val (.int x3), .val (.int (-1 : Int32)), .val (.int w3), .val (.int w4), .unset] [])) _
          exact k
        · simp only [if_neg hd256] at k
          refine XS.icmpYes X6.here hx rfl (pc0 := 256) (pc' := 266) rfl (hb hby at_256) rfl (feq hd256).2 (by decide) (by decide) ?_
          show Steps p.tables e below (T6.setTop (mkF m 266 #[.val (.int p1), .val (.int p2), .val (.int p3), .val (.int p4), .val (.int p5), .val (.int p6), .val (.int x1), .val (.int x2), .val (.int x3), .val (.int c1), .val (.int c2), .val (.int qq), .val (.int dd'), .val (.ref b1), .val (.int (1 : Int32)), .val (.int (1 : Int32)), .val (.int (1 : Int32)), .val (.int gg), .val (.int w1), .val (.int w2), .val (.int (-1 : Int32)), .val (.int w3), .val (.int w4), .unset] [])) _
          refine XS.iload X6.here hx rfl (hb hby at_266) rfl ?_
          show Steps p.tables e below (T6.setTop (mkF m 268 #[.val (.int p1), .val (.int p2), .val (.int p3), .val (.int p4), .val (.int p5), .val (.int p6), .val (.int x1), .val (.int x2), .val (.int x3), .val (.int c1), .val (.int c2), .val (.int qq), .val (.int dd'), .val (.ref b1), .val (.int (1 : Int32)), .val (.int (1 : Int32)), .val (.int (1 : Int32)), .val (.int gg), .val (.int w1), .val (.int w2), .val (.int (-1 : Int32)), .val (.int w3), .val (.int w4), .unset] [(.int x3)])) _
          refine XS.istore X6.here hx rfl (hb hby at_268) rfl (l' := #[.val (.int p1), .val (.int p2), .val (.int p3), .val (.int p4), .val (.int p5), .val (.int p6), .val (.int x1), .val (.int x2), .val (.int x3), .val (.int c1), .val (.int c2), .val (.int qq), .val (.int dd'), .val (.ref b1), .val (.int (1 : Int32)), .val (.int (1 : Int32)), .val (.int (1 : Int32)), .val (.int gg), .val (.int w1), .val (.int w2), .val (.int x3), .val (.int w3), .val (.int w4), .unset]) rfl ?_
          show Steps p.tables e below (T6.setTop (mkF m 270 #[.val (.int p1), .val (.int p2), .val (.int p3), .val (.int p4), .val (.int p5), .val (.int p6), .val (.int x1), .val (.int x2), .val (.int x3), .val (.int c1), .val (.int c2), .val (.int qq), .val (.int dd'), .val (.ref b1), .val (.int (1 : Int32)), .val (.int (1 : Int32)), .val (.int (1 : Int32)), .val (.int gg), .val (.int w1), .val (.int w2), .val (.int x3), .val (.int w3), .val (.int w4), .unset] [])) _
          refine XS.iload X6.here hx rfl (hb hby at_270) rfl ?_
          show Steps p.tables e below (T6.setTop (mkF m 272 #[.val (.int p1), .val (.int p2), .val (.int p3), .val (.int p4), .val (.int p5), .val (.int p6), .val (.int x1), .val (.int x2), .val (.int x3), .val (.int c1), .val (.int c2), .val (.int qq), .val (.int dd'), .val (.ref b1), .val (.int (1 : Int32)), .val (.int (1 : Int32)), .val (.int (1 : Int32)), .val (.int gg), .val (.int w1), .val (.int w2), .val (.int x3), .val (.int w3), .val (.int w4), .unset] [(.int w1)])) _
          refine XS.iconst X6.here hx rfl (hb hby at_272) ?_
          show Steps p.tables e below (T6.setTop (mkF m 273 #[.val (.int p1), .val (.int p2), .val (.int p3), .val (.int p4), .val (.int p5), .val (.int p6), .val (.int x1), .val (.int x2), .val (.int x3), .val (.int c1), .val (.int c2), .val (.int qq), .val (.int dd'), .val (.ref b1), .val (.int (1 : Int32)), .val (.int (1 : Int32)), .val (.int (1 : Int32)), .val (.int gg), .val (.int w1), .val (.int w2), .val (.int x3), .val (.int w3), .val (.int w4), .unset] [(.int (1 : Int32)), (.int w1)])) _
          refine XS.iadd X6.here hx rfl (hb hby at_273) rfl ?_
          show Steps p.tables e below (T6.setTop (mkF m 274 #[.val (.int p1), .val (.int p2), .val (.int p3), .val (.int p4), .val (.int p5), .val (.int p6), .val (.int x1), .val (.int x2), .val (.int x3), .val (.int c1), .val (.int c2), .val (.int qq), .val (.int dd'), .val (.ref b1), .val (.int (1 : Int32)), .val (.int (1 : Int32)), .val (.int (1 : Int32)), .val (.int gg), .val (.int w1), .val (.int w2), .val (.int x3), .val (.int w3), .val (.int w4), .unset] [(.int (w1 + (1 : Int32)))])) _
          refine XS.istore X6.here hx rfl (hb hby at_274) rfl (l' := #[.val (.int p1), .val (.int p2), .val (.int p3), .val (.int p4), .val (.int p5), .val (.int p6), .val (.int x1), .val (.int x2), .val (.int x3), .val (.int c1), .val (.int c2), .val (.int qq), .val (.int dd'), .val (.ref b1), .val (.int (1 : Int32)), .val (.int (1 : Int32)), .val (.int (1 : Int32)), .val (.int gg), .val (.int (w1 + (1 : Int32))), .val (.int w2), .val (.int x3), .val (.int w3), .val (.int w4), .unset]) rfl ?_
          show Steps p.tables e below (T6.setTop (mkF m 276 #[.val (.int p1), .val (.int p2), .val (.int p3), .val (.int p4), .val (.int p5), .val (.int p6), .val (.int x1), .val (.int x2), .val (.int x3), .val (.int c1), .val (.int c2), .val (.int qq), .val (.int dd'), .val (.ref b1), .val (.int (1 : Int32)), .val (.int (1 : Int32)), .val (.int (1 : Int32)), .val (.int gg), .val (.int (w1 + (1 : Int32))), .val (.int w2), .val (.int x3), .val (.int w3), .val (.int w4), .unset] [])) _
          exact k
      · simp only [if_neg hd250] at k
        refine XS.icmpYes X6.here hx rfl (pc0 := 250) (pc' := 276) rfl (hb hby at_250) rfl (flt hd250).2.1 (by decide) (by decide) ?_
        show Steps p.tables e below (T6.setTop (mkF m 276 #[.val (.int p1), .val (.int p2), .val (.int p3), .val (.int p4), .val (.int p5), .val (.int p6), .val (.int x1), .val (.int x2), .val (.int x3), .val (.int c1), .val (.int c2), .val (.int qq), .val (.int dd'), .val (.ref b1), .val (.int (1 : Int32)), .val (.int (1 : Int32)), .val (.int (1 : Int32)), .val (.int gg), .val (.int w1), .val (.int w2), .val (.int (-1 : Int32)), .val (.int w3), .val (.int w4), .unset] [])) _
        exact k
    have en_w5 : (if w4 < w3 then (w1 + (1 : Int32)) else w1) = own_n2 w1 w4 w3 := rfl
    rw [en_w5]
    generalize hv_w5 : own_n2 w1 w4 w3 = w5
    have en_w6 : (if w4 < w3 then (if w1 = (1 : Int32) then x3 else w2) else w2) = own_l2 w1 w2 x3 w4 w3 := rfl
    rw [en_w6]
    generalize hv_w6 : own_l2 w1 w2 x3 w4 w3 = w6
    have en_w7 : (if w4 < w3 then (if w1 = (1 : Int32) then (-1 : Int32) else x3) else (-1 : Int32)) = own_m2 w1 x3 w4 w3 := rfl
    rw [en_w7]
    generalize hv_w7 : own_m2 w1 x3 w4 w3 = w7
    refine own_go (U' := T6.setTop (mkF m 277 #[.val (.int p1), .val (.int p2), .val (.int p3), .val (.int p4), .val (.int p5), .val (.int p6), .val (.int x1), .val (.int x2), .val (.int x3), .val (.int c1), .val (.int c2), .val (.int qq), .val (.int dd'), .val (.ref b1), .val (.int (1 : Int32)), .val (.int (1 : Int32)), .val (.int (1 : Int32)), .val (.int gg), .val (.int w5), .val (.int w6), .val (.int w7), .val (.int w3), .val (.int w4), .unset] [(.int (-1 : Int32))])) (fun t k => XS.iconst X6.here hx rfl (hb hby at_276) k) ?_
    refine own_go (U' := T6.setTop (mkF m 279 #[.val (.int p1), .val (.int p2), .val (.int p3), .val (.int p4), .val (.int p5), .val (.int p6), .val (.int x1), .val (.int x2), .val (.int x3), .val (.int c1), .val (.int c2), .val (.int qq), .val (.int dd'), .val (.ref b1), .val (.int (1 : Int32)), .val (.int (1 : Int32)), .val (.int (1 : Int32)), .val (.int gg), .val (.int w5), .val (.int w6), .val (.int w7), .val (.int w3), .val (.int w4), .val (.int (-1 : Int32))] [])) (fun t k => XS.istore X6.here hx rfl (hb hby at_277) rfl (l' := #[.val (.int p1), .val (.int p2), .val (.int p3), .val (.int p4), .val (.int p5), .val (.int p6), .val (.int x1), .val (.int x2), .val (.int x3), .val (.int c1), .val (.int c2), .val (.int qq), .val (.int dd'), .val (.ref b1), .val (.int (1 : Int32)), .val (.int (1 : Int32)), .val (.int (1 : Int32)), .val (.int gg), .val (.int w5), .val (.int w6), .val (.int w7), .val (.int w3), .val (.int w4), .val (.int (-1 : Int32))]) rfl k) ?_
    refine own_go (U' := T6.setTop (mkF m 281 #[.val (.int p1), .val (.int p2), .val (.int p3), .val (.int p4), .val (.int p5), .val (.int p6), .val (.int x1), .val (.int x2), .val (.int x3), .val (.int c1), .val (.int c2), .val (.int qq), .val (.int dd'), .val (.ref b1), .val (.int (1 : Int32)), .val (.int (1 : Int32)), .val (.int (1 : Int32)), .val (.int gg), .val (.int w5), .val (.int w6), .val (.int w7), .val (.int w3), .val (.int w4), .val (.int (-1 : Int32))] [(.int dd')])) (fun t k => XS.iload X6.here hx rfl (hb hby at_279) rfl k) ?_
    refine own_go (U' := T6.setTop (mkF m 294 #[.val (.int p1), .val (.int p2), .val (.int p3), .val (.int p4), .val (.int p5), .val (.int p6), .val (.int x1), .val (.int x2), .val (.int x3), .val (.int c1), .val (.int c2), .val (.int qq), .val (.int dd'), .val (.ref b1), .val (.int (1 : Int32)), .val (.int (1 : Int32)), .val (.int (1 : Int32)), .val (.int gg), .val (.int w5), .val (.int w6), .val (.int w7), .val (.int w3), .val (.int w4), .val (.int (if (0 : Int32) < dd' then (if x1 = qq then (0 : Int32) else (-1 : Int32)) else (-1 : Int32)))] [])) (fun t k => ?_) ?_
    · show Steps p.tables e below (T6.setTop (mkF m 281 #[.val (.int p1), .val (.int p2), .val (.int p3), .val (.int p4), .val (.int p5), .val (.int p6), .val (.int x1), .val (.int x2), .val (.int x3), .val (.int c1), .val (.int c2), .val (.int qq), .val (.int dd'), .val (.ref b1), .val (.int (1 : Int32)), .val (.int (1 : Int32)), .val (.int (1 : Int32)), .val (.int gg), .val (.int w5), .val (.int w6), .val (.int w7), .val (.int w3), .val (.int w4), .val (.int (-1 : Int32))] [(.int dd')])) _
      by_cases hd281 : (0 : Int32) < dd'
      · simp only [if_pos hd281] at k
        refine XS.ifNo X6.here hx rfl (hb hby at_281) rfl ((if0 _ _).trans (tlt hd281).2.2.2) ?_
        show Steps p.tables e below (T6.setTop (mkF m 284 #[.val (.int p1), .val (.int p2), .val (.int p3), .val (.int p4), .val (.int p5), .val (.int p6), .val (.int x1), .val (.int x2), .val (.int x3), .val (.int c1), .val (.int c2), .val (.int qq), .val (.int dd'), .val (.ref b1), .val (.int (1 : Int32)), .val (.int (1 : Int32)), .val (.int (1 : Int32)), .val (.int gg), .val (.int w5), .val (.int w6), .val (.int w7), .val (.int w3), .val (.int w4), .val (.int (-1 : Int32))] [])) _
        refine XS.iload X6.here hx rfl (hb hby at_284) rfl ?_
        show Steps p.tables e below (T6.setTop (mkF m 286 #[.val (.int p1), .val (.int p2), .val (.int p3), .val (.int p4), .val (.int p5), .val (.int p6), .val (.int x1), .val (.int x2), .val (.int x3), .val (.int c1), .val (.int c2), .val (.int qq), .val (.int dd'), .val (.ref b1), .val (.int (1 : Int32)), .val (.int (1 : Int32)), .val (.int (1 : Int32)), .val (.int gg), .val (.int w5), .val (.int w6), .val (.int w7), .val (.int w3), .val (.int w4), .val (.int (-1 : Int32))] [(.int x1)])) _
        refine XS.iload X6.here hx rfl (hb hby at_286) rfl ?_
        show Steps p.tables e below (T6.setTop (mkF m 288 #[.val (.int p1), .val (.int p2), .val (.int p3), .val (.int p4), .val (.int p5), .val (.int p6), .val (.int x1), .val (.int x2), .val (.int x3), .val (.int c1), .val (.int c2), .val (.int qq), .val (.int dd'), .val (.ref b1), .val (.int (1 : Int32)), .val (.int (1 : Int32)), .val (.int (1 : Int32)), .val (.int gg), .val (.int w5), .val (.int w6), .val (.int w7), .val (.int w3), .val (.int w4), .val (.int (-1 : Int32))] [(.int qq), (.int x1)])) _
        by_cases hd288 : x1 = qq
        · simp only [if_pos hd288] at k
          refine XS.icmpNo X6.here hx rfl (hb hby at_288) rfl (teq hd288).2 ?_
          show Steps p.tables e below (T6.setTop (mkF m 291 #[.val (.int p1), .val (.int p2), .val (.int p3), .val (.int p4), .val (.int p5), .val (.int p6), .val (.int x1), .val (.int x2), .val (.int x3), .val (.int c1), .val (.int c2), .val (.int qq), .val (.int dd'), .val (.ref b1), .val (.int (1 : Int32)), .val (.int (1 : Int32)), .val (.int (1 : Int32)), .val (.int gg), .val (.int w5), .val (.int w6), .val (.int w7), .val (.int w3), .val (.int w4), .val (.int (-1 : Int32))] [])) _
          refine XS.iconst X6.here hx rfl (hb hby at_291) ?_
          show Steps p.tables e below (T6.setTop (mkF m 292 #[.val (.int p1), .val (.int p2), .val (.int p3), .val (.int p4), .val (.int p5), .val (.int p6), .val (.int x1), .val (.int x2), .val (.int x3), .val (.int c1), .val (.int c2), .val (.int qq), .val (.int dd'), .val (.ref b1), .val (.int (1 : Int32)), .val (.int (1 : Int32)), .val (.int (1 : Int32)), .val (.int gg), .val (.int w5), .val (.int w6), .val (.int w7), .val (.int w3), .val (.int w4), .val (.int (-1 : Int32))] [(.int (0 : Int32))])) _
          refine XS.istore X6.here hx rfl (hb hby at_292) rfl (l' := #[.val (.int p1), .val (.int p2), .val (.int p3), .val (.int p4), .val (.int p5), .val (.int p6), .val (.int x1), .val (.int x2), .val (.int x3), .val (.int c1), .val (.int c2), .val (.int qq), .val (.int dd'), .val (.ref b1), .val (.int (1 : Int32)), .val (.int (1 : Int32)), .val (.int (1 : Int32)), .val (.int gg), .val (.int w5), .val (.int w6), .val (.int w7), .val (.int w3), .val (.int w4), .val (.int (0 : Int32))]) rfl ?_
          show Steps p.tables e below (T6.setTop (mkF m 294 #[.val (.int p1), .val (.int p2), .val (.int p3), .val (.int p4), .val (.int p5), .val (.int p6), .val (.int x1), .val (.int x2), .val (.int x3), .val (.int c1), .val (.int c2), .val (.int qq), .val (.int dd'), .val (.ref b1), .val (.int (1 : Int32)), .val (.int (1 : Int32)), .val (.int (1 : Int32)), .val (.int gg), .val (.int w5), .val (.int w6), .val (.int w7), .val (.int w3), .val (.int w4), .val (.int (0 : Int32))] [])) _
          exact k
        · simp only [if_neg hd288] at k
          refine XS.icmpYes X6.here hx rfl (pc0 := 288) (pc' := 294) rfl (hb hby at_288) rfl (feq hd288).2 (by decide) (by decide) ?_
          show Steps p.tables e below (T6.setTop (mkF m 294 #[.val (.int p1), .val (.int p2), .val (.int p3), .val (.int p4), .val (.int p5), .val (.int p6), .val (.int x1), .val (.int x2), .val (.int x3), .val (.int c1), .val (.int c2), .val (.int qq), .val (.int dd'), .val (.ref b1), .val (.int (1 : Int32)), .val (.int (1 : Int32)), .val (.int (1 : Int32)), .val (.int gg), .val (.int w5), .val (.int w6), .val (.int w7), .val (.int w3), .val (.int w4), .val (.int (-1 : Int32))] [])) _
          exact k
      · simp only [if_neg hd281] at k
        refine XS.ifYes X6.here hx rfl (pc0 := 281) (pc' := 294) rfl (hb hby at_281) rfl ((if0 _ _).trans (flt hd281).2.2.2) (by decide) (by decide) ?_
        show Steps p.tables e below (T6.setTop (mkF m 294 #[.val (.int p1), .val (.int p2), .val (.int p3), .val (.int p4), .val (.int p5), .val (.int p6), .val (.int x1), .val (.int x2), .val (.int x3), .val (.int c1), .val (.int c2), .val (.int qq), .val (.int dd'), .val (.ref b1), .val (.int (1 : Int32)), .val (.int (1 : Int32)), .val (.int (1 : Int32)), .val (.int gg), .val (.int w5), .val (.int w6), .val (.int w7), .val (.int w3), .val (.int w4), .val (.int (-1 : Int32))] [])) _
        exact k
    have en_wa : (if (0 : Int32) < dd' then (if x1 = qq then (0 : Int32) else (-1 : Int32)) else (-1 : Int32)) = own_ea x1 qq dd' := rfl
    rw [en_wa]
    generalize hv_wa : own_ea x1 qq dd' = wa
    refine own_go (U' := T6.setTop (mkF m 296 #[.val (.int p1), .val (.int p2), .val (.int p3), .val (.int p4), .val (.int p5), .val (.int p6), .val (.int x1), .val (.int x2), .val (.int x3), .val (.int c1), .val (.int c2), .val (.int qq), .val (.int dd'), .val (.ref b1), .val (.int (1 : Int32)), .val (.int (1 : Int32)), .val (.int (1 : Int32)), .val (.int gg), .val (.int w5), .val (.int w6), .val (.int w7), .val (.int w3), .val (.int w4), .val (.int wa)] [(.int w5)])) (fun t k => XS.iload X6.here hx rfl (hb hby at_294) rfl k) ?_
    refine own_go (U' := T6.setTop (mkF m 297 #[.val (.int p1), .val (.int p2), .val (.int p3), .val (.int p4), .val (.int p5), .val (.int p6), .val (.int x1), .val (.int x2), .val (.int x3), .val (.int c1), .val (.int c2), .val (.int qq), .val (.int dd'), .val (.ref b1), .val (.int (1 : Int32)), .val (.int (1 : Int32)), .val (.int (1 : Int32)), .val (.int gg), .val (.int w5), .val (.int w6), .val (.int w7), .val (.int w3), .val (.int w4), .val (.int wa)] [(.int (1 : Int32)), (.int w5)])) (fun t k => XS.iconst X6.here hx rfl (hb hby at_296) k) ?_
    refine own_go (U' := T6.setTop (mkF m 316 #[.val (.int p1), .val (.int p2), .val (.int p3), .val (.int p4), .val (.int p5), .val (.int p6), .val (.int x1), .val (.int x2), .val (.int x3), .val (.int c1), .val (.int c2), .val (.int qq), .val (.int dd'), .val (.ref b1), .val (.int (1 : Int32)), .val (.int (1 : Int32)), .val (.int (1 : Int32)), .val (.int gg), .val (.int w5), .val (.int w6), .val (.int w7), .val (.int w3), .val (.int w4), .val (.int (if (1 : Int32) < w5 then (if (1 : Int32) < dd' then (if w6 = qq then (1 : Int32) else wa) else wa) else wa))] [])) (fun t k => ?_) ?_
    · show Steps p.tables e below (T6.setTop (mkF m 297 #[.val (.int p1), .val (.int p2), .val (.int p3), .val (.int p4), .val (.int p5), .val (.int p6), .val (.int x1), .val (.int x2), .val (.int x3), .val (.int c1), .val (.int c2), .val (.int qq), .val (.int dd'), .val (.ref b1), .val (.int (1 : Int32)), .val (.int (1 : Int32)), .val (.int (1 : Int32)), .val (.int gg), .val (.int w5), .val (.int w6), .val (.int w7), .val (.int w3), .val (.int w4), .val (.int wa)] [(.int (1 : Int32)), (.int w5)])) _
      by_cases hd297 : (1 : Int32) < w5
      · simp only [if_pos hd297] at k
        refine XS.icmpNo X6.here hx rfl (hb hby at_297) rfl (tlt hd297).2.2.2 ?_
        show Steps p.tables e below (T6.setTop (mkF m 300 #[.val (.int p1), .val (.int p2), .val (.int p3), .val (.int p4), .val (.int p5), .val (.int p6), .val (.int x1), .val (.int x2), .val (.int x3), .val (.int c1), .val (.int c2), .val (.int qq), .val (.int dd'), .val (.ref b1), .val (.int (1 : Int32)), .val (.int (1 : Int32)), .val (.int (1 : Int32)), .val (.int gg), .val (.int w5), .val (.int w6), .val (.int w7), .val (.int w3), .val (.int w4), .val (.int wa)] [])) _
        refine XS.iload X6.here hx rfl (hb hby at_300) rfl ?_
        show Steps p.tables e below (T6.setTop (mkF m 302 #[.val (.int p1), .val (.int p2), .val (.int p3), .val (.int p4), .val (.int p5), .val (.int p6), .val (.int x1), .val (.int x2), .val (.int x3), .val (.int c1), .val (.int c2), .val (.int qq), .val (.int dd'), .val (.ref b1), .val (.int (1 : Int32)), .val (.int (1 : Int32)), .val (.int (1 : Int32)), .val (.int gg), .val (.int w5), .val (.int w6), .val (.int w7), .val (.int w3), .val (.int w4), .val (.int wa)] [(.int dd')])) _
        refine XS.iconst X6.here hx rfl (hb hby at_302) ?_
        show Steps p.tables e below (T6.setTop (mkF m 303 #[.val (.int p1), .val (.int p2), .val (.int p3), .val (.int p4), .val (.int p5), .val (.int p6), .val (.int x1), .val (.int x2), .val (.int x3), .val (.int c1), .val (.int c2), .val (.int qq), .val (.int dd'), .val (.ref b1), .val (.int (1 : Int32)), .val (.int (1 : Int32)), .val (.int (1 : Int32)), .val (.int gg), .val (.int w5), .val (.int w6), .val (.int w7), .val (.int w3), .val (.int w4), .val (.int wa)] [(.int (1 : Int32)), (.int dd')])) _
        by_cases hd303 : (1 : Int32) < dd'
        · simp only [if_pos hd303] at k
          refine XS.icmpNo X6.here hx rfl (hb hby at_303) rfl (tlt hd303).2.2.2 ?_
          show Steps p.tables e below (T6.setTop (mkF m 306 #[.val (.int p1), .val (.int p2), .val (.int p3), .val (.int p4), .val (.int p5), .val (.int p6), .val (.int x1), .val (.int x2), .val (.int x3), .val (.int c1), .val (.int c2), .val (.int qq), .val (.int dd'), .val (.ref b1), .val (.int (1 : Int32)), .val (.int (1 : Int32)), .val (.int (1 : Int32)), .val (.int gg), .val (.int w5), .val (.int w6), .val (.int w7), .val (.int w3), .val (.int w4), .val (.int wa)] [])) _
          refine XS.iload X6.here hx rfl (hb hby at_306) rfl ?_
          show Steps p.tables e below (T6.setTop (mkF m 308 #[.val (.int p1), .val (.int p2), .val (.int p3), .val (.int p4), .val (.int p5), .val (.int p6), .val (.int x1), .val (.int x2), .val (.int x3), .val (.int c1), .val (.int c2), .val (.int qq), .val (.int dd'), .val (.ref b1), .val (.int (1 : Int32)), .val (.int (1 : Int32)), .val (.int (1 : Int32)), .val (.int gg), .val (.int w5), .val (.int w6), .val (.int w7), .val (.int w3), .val (.int w4), .val (.int wa)] [(.int w6)])) _
          refine XS.iload X6.here hx rfl (hb hby at_308) rfl ?_
          show Steps p.tables e below (T6.setTop (mkF m 310 #[.val (.int p1), .val (.int p2), .val (.int p3), .val (.int p4), .val (.int p5), .val (.int p6), .val (.int x1), .val (.int x2), .val (.int x3), .val (.int c1), .val (.int c2), .val (.int qq), .val (.int dd'), .val (.ref b1), .val (.int (1 : Int32)), .val (.int (1 : Int32)), .val (.int (1 : Int32)), .val (.int gg), .val (.int w5), .val (.int w6), .val (.int w7), .val (.int w3), .val (.int w4), .val (.int wa)] [(.int qq), (.int w6)])) _
          by_cases hd310 : w6 = qq
          · simp only [if_pos hd310] at k
            refine XS.icmpNo X6.here hx rfl (hb hby at_310) rfl (teq hd310).2 ?_
            show Steps p.tables e below (T6.setTop (mkF m 313 #[.val (.int p1), .val (.int p2), .val (.int p3), .val (.int p4), .val (.int p5), .val (.int p6), .val (.int x1), .val (.int x2), .val (.int x3), .val (.int c1), .val (.int c2), .val (.int qq), .val (.int dd'), .val (.ref b1), .val (.int (1 : Int32)), .val (.int (1 : Int32)), .val (.int (1 : Int32)), .val (.int gg), .val (.int w5), .val (.int w6), .val (.int w7), .val (.int w3), .val (.int w4), .val (.int wa)] [])) _
            refine XS.iconst X6.here hx rfl (hb hby at_313) ?_
            show Steps p.tables e below (T6.setTop (mkF m 314 #[.val (.int p1), .val (.int p2), .val (.int p3), .val (.int p4), .val (.int p5), .val (.int p6), .val (.int x1), .val (.int x2), .val (.int x3), .val (.int c1), .val (.int c2), .val (.int qq), .val (.int dd'), .val (.ref b1), .val (.int (1 : Int32)), .val (.int (1 : Int32)), .val (.int (1 : Int32)), .val (.int gg), .val (.int w5), .val (.int w6), .val (.int w7), .val (.int w3), .val (.int w4), .val (.int wa)] [(.int (1 : Int32))])) _
            refine XS.istore X6.here hx rfl (hb hby at_314) rfl (l' := #[.val (.int p1), .val (.int p2), .val (.int p3), .val (.int p4), .val (.int p5), .val (.int p6), .val (.int x1), .val (.int x2), .val (.int x3), .val (.int c1), .val (.int c2), .val (.int qq), .val (.int dd'), .val (.ref b1), .val (.int (1 : Int32)), .val (.int (1 : Int32)), .val (.int (1 : Int32)), .val (.int gg), .val (.int w5), .val (.int w6), .val (.int w7), .val (.int w3), .val (.int w4), .val (.int (1 : Int32))]) rfl ?_
            show Steps p.tables e below (T6.setTop (mkF m 316 #[.val (.int p1), .val (.int p2), .val (.int p3), .val (.int p4), .val (.int p5), .val (.int p6), .val (.int x1), .val (.int x2), .val (.int x3), .val (.int c1), .val (.int c2), .val (.int qq), .val (.int dd'), .val (.ref b1), .val (.int (1 : Int32)), .val (.int (1 : Int32)), .val (.int (1 : Int32)), .val (.int gg), .val (.int w5), .val (.int w6), .val (.int w7), .val (.int w3), .val (.int w4), .val (.int (1 : Int32))] [])) _
            exact k
          · simp only [if_neg hd310] at k
            refine XS.icmpYes X6.here hx rfl (pc0 := 310) (pc' := 316) rfl (hb hby at_310) rfl (feq hd310).2 (by decide) (by decide) ?_
            show Steps p.tables e below (T6.setTop (mkF m 316 #[.val (.int p1), .val (.int p2), .val (.int p3), .val (.int p4), .val (.int p5), .val (.int p6), .val (.int x1), .val (.int x2), .val (.int x3), .val (.int c1), .val (.int c2), .val (.int qq), .val (.int dd'), .val (.ref b1), .val (.int (1 : Int32)), .val (.int (1 : Int32)), .val (.int (1 : Int32)), .val (.int gg), .val (.int w5), .val (.int w6), .val (.int w7), .val (.int w3), .val (.int w4), .val (.int wa)] [])) _
            exact k
        · simp only [if_neg hd303] at k
          refine XS.icmpYes X6.here hx rfl (pc0 := 303) (pc' := 316) rfl (hb hby at_303) rfl (flt hd303).2.2.2 (by decide) (by decide) ?_
          show Steps p.tables e below (T6.setTop (mkF m 316 #[.val (.int p1), .val (.int p2), .val (.int p3), .val (.int p4), .val (.int p5), .val (.int p6), .val (.int x1), .val (.int x2), .val (.int x3), .val (.int c1), .val (.int c2), .val (.int qq), .val (.int dd'), .val (.ref b1), .val (.int (1 : Int32)), .val (.int (1 : Int32)), .val (.int (1 : Int32)), .val (.int gg), .val (.int w5), .val (.int w6), .val (.int w7), .val (.int w3), .val (.int w4), .val (.int wa)] [])) _
          exact k
      · simp only [if_neg hd297] at k
        refine XS.icmpYes X6.here hx rfl (pc0 := 297) (pc' := 316) rfl (hb hby at_297) rfl (flt hd297).2.2.2 (by decide) (by decide) ?_
        show Steps p.tables e below (T6.setTop (mkF m 316 #[.val (.int p1), .val (.int p2), .val (.int p3), .val (.int p4), .val (.int p5), .val (.int p6), .val (.int x1), .val (.int x2), .val (.int x3), .val (.int c1), .val (.int c2), .val (.int qq), .val (.int dd'), .val (.ref b1), .val (.int (1 : Int32)), .val (.int (1 : Int32)), .val (.int (1 : Int32)), .val (.int gg), .val (.int w5), .val (.int w6), .val (.int w7), .val (.int w3), .val (.int w4), .val (.int wa)] [])) _
        exact k
    have en_wb : (if (1 : Int32) < w5 then (if (1 : Int32) < dd' then (if w6 = qq then (1 : Int32) else wa) else wa) else wa) = own_eb w5 w6 qq dd' wa := rfl
    rw [en_wb]
    generalize hv_wb : own_eb w5 w6 qq dd' wa = wb
    refine own_go (U' := T6.setTop (mkF m 318 #[.val (.int p1), .val (.int p2), .val (.int p3), .val (.int p4), .val (.int p5), .val (.int p6), .val (.int x1), .val (.int x2), .val (.int x3), .val (.int c1), .val (.int c2), .val (.int qq), .val (.int dd'), .val (.ref b1), .val (.int (1 : Int32)), .val (.int (1 : Int32)), .val (.int (1 : Int32)), .val (.int gg), .val (.int w5), .val (.int w6), .val (.int w7), .val (.int w3), .val (.int w4), .val (.int wb)] [(.int w5)])) (fun t k => XS.iload X6.here hx rfl (hb hby at_316) rfl k) ?_
    refine own_go (U' := T6.setTop (mkF m 319 #[.val (.int p1), .val (.int p2), .val (.int p3), .val (.int p4), .val (.int p5), .val (.int p6), .val (.int x1), .val (.int x2), .val (.int x3), .val (.int c1), .val (.int c2), .val (.int qq), .val (.int dd'), .val (.ref b1), .val (.int (1 : Int32)), .val (.int (1 : Int32)), .val (.int (1 : Int32)), .val (.int gg), .val (.int w5), .val (.int w6), .val (.int w7), .val (.int w3), .val (.int w4), .val (.int wb)] [(.int (2 : Int32)), (.int w5)])) (fun t k => XS.iconst X6.here hx rfl (hb hby at_318) k) ?_
    refine own_go (U' := T6.setTop (mkF m 338 #[.val (.int p1), .val (.int p2), .val (.int p3), .val (.int p4), .val (.int p5), .val (.int p6), .val (.int x1), .val (.int x2), .val (.int x3), .val (.int c1), .val (.int c2), .val (.int qq), .val (.int dd'), .val (.ref b1), .val (.int (1 : Int32)), .val (.int (1 : Int32)), .val (.int (1 : Int32)), .val (.int gg), .val (.int w5), .val (.int w6), .val (.int w7), .val (.int w3), .val (.int w4), .val (.int (if (2 : Int32) < w5 then (if (2 : Int32) < dd' then (if w7 = qq then (2 : Int32) else wb) else wb) else wb))] [])) (fun t k => ?_) ?_
    · show Steps p.tables e below (T6.setTop (mkF m 319 #[.val (.int p1), .val (.int p2), .val (.int p3), .val (.int p4), .val (.int p5), .val (.int p6), .val (.int x1), .val (.int x2), .val (.int x3), .val (.int c1), .val (.int c2), .val (.int qq), .val (.int dd'), .val (.ref b1), .val (.int (1 : Int32)), .val (.int (1 : Int32)), .val (.int (1 : Int32)), .val (.int gg), .val (.int w5), .val (.int w6), .val (.int w7), .val (.int w3), .val (.int w4), .val (.int wb)] [(.int (2 : Int32)), (.int w5)])) _
      by_cases hd319 : (2 : Int32) < w5
      · simp only [if_pos hd319] at k
        refine XS.icmpNo X6.here hx rfl (hb hby at_319) rfl (tlt hd319).2.2.2 ?_
        show Steps p.tables e below (T6.setTop (mkF m 322 #[.val (.int p1), .val (.int p2), .val (.int p3), .val (.int p4), .val (.int p5), .val (.int p6), .val (.int x1), .val (.int x2), .val (.int x3), .val (.int c1), .val (.int c2), .val (.int qq), .val (.int dd'), .val (.ref b1), .val (.int (1 : Int32)), .val (.int (1 : Int32)), .val (.int (1 : Int32)), .val (.int gg), .val (.int w5), .val (.int w6), .val (.int w7), .val (.int w3), .val (.int w4), .val (.int wb)] [])) _
        refine XS.iload X6.here hx rfl (hb hby at_322) rfl ?_
        show Steps p.tables e below (T6.setTop (mkF m 324 #[.val (.int p1), .val (.int p2), .val (.int p3), .val (.int p4), .val (.int p5), .val (.int p6), .val (.int x1), .val (.int x2), .val (.int x3), .val (.int c1), .val (.int c2), .val (.int qq), .val (.int dd'), .val (.ref b1), .val (.int (1 : Int32)), .val (.int (1 : Int32)), .val (.int (1 : Int32)), .val (.int gg), .val (.int w5), .val (.int w6), .val (.int w7), .val (.int w3), .val (.int w4), .val (.int wb)] [(.int dd')])) _
        refine XS.iconst X6.here hx rfl (hb hby at_324) ?_
        show Steps p.tables e below (T6.setTop (mkF m 325 #[.val (.int p1), .val (.int p2), .val (.int p3), .val (.int p4), .val (.int p5), .val (.int p6), .val (.int x1), .val (.int x2), .val (.int x3), .val (.int c1), .val (.int c2), .val (.int qq), .val (.int dd'), .val (.ref b1), .val (.int (1 : Int32)), .val (.int (1 : Int32)), .val (.int (1 : Int32)), .val (.int gg), .val (.int w5), .val (.int w6), .val (.int w7), .val (.int w3), .val (.int w4), .val (.int wb)] [(.int (2 : Int32)), (.int dd')])) _
        by_cases hd325 : (2 : Int32) < dd'
        · simp only [if_pos hd325] at k
          refine XS.icmpNo X6.here hx rfl (hb hby at_325) rfl (tlt hd325).2.2.2 ?_
          show Steps p.tables e below (T6.setTop (mkF m 328 #[.val (.int p1), .val (.int p2), .val (.int p3), .val (.int p4), .val (.int p5), .val (.int p6), .val (.int x1), .val (.int x2), .val (.int x3), .val (.int c1), .val (.int c2), .val (.int qq), .val (.int dd'), .val (.ref b1), .val (.int (1 : Int32)), .val (.int (1 : Int32)), .val (.int (1 : Int32)), .val (.int gg), .val (.int w5), .val (.int w6), .val (.int w7), .val (.int w3), .val (.int w4), .val (.int wb)] [])) _
          refine XS.iload X6.here hx rfl (hb hby at_328) rfl ?_
          show Steps p.tables e below (T6.setTop (mkF m 330 #[.val (.int p1), .val (.int p2), .val (.int p3), .val (.int p4), .val (.int p5), .val (.int p6), .val (.int x1), .val (.int x2), .val (.int x3), .val (.int c1), .val (.int c2), .val (.int qq), .val (.int dd'), .val (.ref b1), .val (.int (1 : Int32)), .val (.int (1 : Int32)), .val (.int (1 : Int32)), .val (.int gg), .val (.int w5), .val (.int w6), .val (.int w7), .val (.int w3), .val (.int w4), .val (.int wb)] [(.int w7)])) _
          refine XS.iload X6.here hx rfl (hb hby at_330) rfl ?_
          show Steps p.tables e below (T6.setTop (mkF m 332 #[.val (.int p1), .val (.int p2), .val (.int p3), .val (.int p4), .val (.int p5), .val (.int p6), .val (.int x1), .val (.int x2), .val (.int x3), .val (.int c1), .val (.int c2), .val (.int qq), .val (.int dd'), .val (.ref b1), .val (.int (1 : Int32)), .val (.int (1 : Int32)), .val (.int (1 : Int32)), .val (.int gg), .val (.int w5), .val (.int w6), .val (.int w7), .val (.int w3), .val (.int w4), .val (.int wb)] [(.int qq), (.int w7)])) _
          by_cases hd332 : w7 = qq
          · simp only [if_pos hd332] at k
            refine XS.icmpNo X6.here hx rfl (hb hby at_332) rfl (teq hd332).2 ?_
            show Steps p.tables e below (T6.setTop (mkF m 335 #[.val (.int p1), .val (.int p2), .val (.int p3), .val (.int p4), .val (.int p5), .val (.int p6), .val (.int x1), .val (.int x2), .val (.int x3), .val (.int c1), .val (.int c2), .val (.int qq), .val (.int dd'), .val (.ref b1), .val (.int (1 : Int32)), .val (.int (1 : Int32)), .val (.int (1 : Int32)), .val (.int gg), .val (.int w5), .val (.int w6), .val (.int w7), .val (.int w3), .val (.int w4), .val (.int wb)] [])) _
            refine XS.iconst X6.here hx rfl (hb hby at_335) ?_
            show Steps p.tables e below (T6.setTop (mkF m 336 #[.val (.int p1), .val (.int p2), .val (.int p3), .val (.int p4), .val (.int p5), .val (.int p6), .val (.int x1), .val (.int x2), .val (.int x3), .val (.int c1), .val (.int c2), .val (.int qq), .val (.int dd'), .val (.ref b1), .val (.int (1 : Int32)), .val (.int (1 : Int32)), .val (.int (1 : Int32)), .val (.int gg), .val (.int w5), .val (.int w6), .val (.int w7), .val (.int w3), .val (.int w4), .val (.int wb)] [(.int (2 : Int32))])) _
            refine XS.istore X6.here hx rfl (hb hby at_336) rfl (l' := #[.val (.int p1), .val (.int p2), .val (.int p3), .val (.int p4), .val (.int p5), .val (.int p6), .val (.int x1), .val (.int x2), .val (.int x3), .val (.int c1), .val (.int c2), .val (.int qq), .val (.int dd'), .val (.ref b1), .val (.int (1 : Int32)), .val (.int (1 : Int32)), .val (.int (1 : Int32)), .val (.int gg), .val (.int w5), .val (.int w6), .val (.int w7), .val (.int w3), .val (.int w4), .val (.int (2 : Int32))]) rfl ?_
            show Steps p.tables e below (T6.setTop (mkF m 338 #[.val (.int p1), .val (.int p2), .val (.int p3), .val (.int p4), .val (.int p5), .val (.int p6), .val (.int x1), .val (.int x2), .val (.int x3), .val (.int c1), .val (.int c2), .val (.int qq), .val (.int dd'), .val (.ref b1), .val (.int (1 : Int32)), .val (.int (1 : Int32)), .val (.int (1 : Int32)), .val (.int gg), .val (.int w5), .val (.int w6), .val (.int w7), .val (.int w3), .val (.int w4), .val (.int (2 : Int32))] [])) _
            exact k
          · simp only [if_neg hd332] at k
            refine XS.icmpYes X6.here hx rfl (pc0 := 332) (pc' := 338) rfl (hb hby at_332) rfl (feq hd332).2 (by decide) (by decide) ?_
            show Steps p.tables e below (T6.setTop (mkF m 338 #[.val (.int p1), .val (.int p2), .val (.int p3), .val (.int p4), .val (.int p5), .val (.int p6), .val (.int x1), .val (.int x2), .val (.int x3), .val (.int c1), .val (.int c2), .val (.int qq), .val (.int dd'), .val (.ref b1), .val (.int (1 : Int32)), .val (.int (1 : Int32)), .val (.int (1 : Int32)), .val (.int gg), .val (.int w5), .val (.int w6), .val (.int w7), .val (.int w3), .val (.int w4), .val (.int wb)] [])) _
            exact k
        · simp only [if_neg hd325] at k
          refine XS.icmpYes X6.here hx rfl (pc0 := 325) (pc' := 338) rfl (hb hby at_325) rfl (flt hd325).2.2.2 (by decide) (by decide) ?_
          show Steps p.tables e below (T6.setTop (mkF m 338 #[.val (.int p1), .val (.int p2), .val (.int p3), .val (.int p4), .val (.int p5), .val (.int p6), .val (.int x1), .val (.int x2), .val (.int x3), .val (.int c1), .val (.int c2), .val (.int qq), .val (.int dd'), .val (.ref b1), .val (.int (1 : Int32)), .val (.int (1 : Int32)), .val (.int (1 : Int32)), .val (.int gg), .val (.int w5), .val (.int w6), .val (.int w7), .val (.int w3), .val (.int w4), .val (.int wb)] [])) _
          exact k
      · simp only [if_neg hd319] at k
        refine XS.icmpYes X6.here hx rfl (pc0 := 319) (pc' := 338) rfl (hb hby at_319) rfl (flt hd319).2.2.2 (by decide) (by decide) ?_
        show Steps p.tables e below (T6.setTop (mkF m 338 #[.val (.int p1), .val (.int p2), .val (.int p3), .val (.int p4), .val (.int p5), .val (.int p6), .val (.int x1), .val (.int x2), .val (.int x3), .val (.int c1), .val (.int c2), .val (.int qq), .val (.int dd'), .val (.ref b1), .val (.int (1 : Int32)), .val (.int (1 : Int32)), .val (.int (1 : Int32)), .val (.int gg), .val (.int w5), .val (.int w6), .val (.int w7), .val (.int w3), .val (.int w4), .val (.int wb)] [])) _
        exact k
    have en_w8 : (if (2 : Int32) < w5 then (if (2 : Int32) < dd' then (if w7 = qq then (2 : Int32) else wb) else wb) else wb) = own_ec w5 w7 qq dd' wb := rfl
    rw [en_w8]
    generalize hv_w8 : own_ec w5 w7 qq dd' wb = w8
    have hgg : gg = w8 := by
      subst hv_w8 hv_wb hv_wa hv_w7 hv_w6 hv_w5 hv_w4 hv_w3 hv_w2 hv_w1
      exact hv_gg.symm
    refine own_go (U' := T6.setTop (mkF m 340 #[.val (.int p1), .val (.int p2), .val (.int p3), .val (.int p4), .val (.int p5), .val (.int p6), .val (.int x1), .val (.int x2), .val (.int x3), .val (.int c1), .val (.int c2), .val (.int qq), .val (.int dd'), .val (.ref b1), .val (.int (1 : Int32)), .val (.int (1 : Int32)), .val (.int (1 : Int32)), .val (.int gg), .val (.int w5), .val (.int w6), .val (.int w7), .val (.int w3), .val (.int w4), .val (.int w8)] [(.int (1 : Int32))])) (fun t k => XS.iload X6.here hx rfl (hb hby at_338) rfl k) ?_
    refine own_go (U' := T6.setTop (mkF m 343 #[.val (.int p1), .val (.int p2), .val (.int p3), .val (.int p4), .val (.int p5), .val (.int p6), .val (.int x1), .val (.int x2), .val (.int x3), .val (.int c1), .val (.int c2), .val (.int qq), .val (.int dd'), .val (.ref b1), .val (.int (1 : Int32)), .val (.int (1 : Int32)), .val (.int (1 : Int32)), .val (.int gg), .val (.int w5), .val (.int w6), .val (.int w7), .val (.int w3), .val (.int w4), .val (.int w8)] [])) (fun t k => XS.ifNo X6.here hx rfl (hb hby at_340) rfl ((if0 _ _).trans (feq (by decide)).1) k) ?_
    refine own_go (U' := T6.setTop (mkF m 345 #[.val (.int p1), .val (.int p2), .val (.int p3), .val (.int p4), .val (.int p5), .val (.int p6), .val (.int x1), .val (.int x2), .val (.int x3), .val (.int c1), .val (.int c2), .val (.int qq), .val (.int dd'), .val (.ref b1), .val (.int (1 : Int32)), .val (.int (1 : Int32)), .val (.int (1 : Int32)), .val (.int gg), .val (.int w5), .val (.int w6), .val (.int w7), .val (.int w3), .val (.int w4), .val (.int w8)] [(.int (1 : Int32))])) (fun t k => XS.iload X6.here hx rfl (hb hby at_343) rfl k) ?_
    refine own_go (U' := T6.setTop (mkF m 348 #[.val (.int p1), .val (.int p2), .val (.int p3), .val (.int p4), .val (.int p5), .val (.int p6), .val (.int x1), .val (.int x2), .val (.int x3), .val (.int c1), .val (.int c2), .val (.int qq), .val (.int dd'), .val (.ref b1), .val (.int (1 : Int32)), .val (.int (1 : Int32)), .val (.int (1 : Int32)), .val (.int gg), .val (.int w5), .val (.int w6), .val (.int w7), .val (.int w3), .val (.int w4), .val (.int w8)] [])) (fun t k => XS.ifNo X6.here hx rfl (hb hby at_345) rfl ((if0 _ _).trans (feq (by decide)).1) k) ?_
    refine own_go (U' := T6.setTop (mkF m 350 #[.val (.int p1), .val (.int p2), .val (.int p3), .val (.int p4), .val (.int p5), .val (.int p6), .val (.int x1), .val (.int x2), .val (.int x3), .val (.int c1), .val (.int c2), .val (.int qq), .val (.int dd'), .val (.ref b1), .val (.int (1 : Int32)), .val (.int (1 : Int32)), .val (.int (1 : Int32)), .val (.int gg), .val (.int w5), .val (.int w6), .val (.int w7), .val (.int w3), .val (.int w4), .val (.int w8)] [(.int (1 : Int32))])) (fun t k => XS.iload X6.here hx rfl (hb hby at_348) rfl k) ?_
    refine own_go (U' := T6.setTop (mkF m 353 #[.val (.int p1), .val (.int p2), .val (.int p3), .val (.int p4), .val (.int p5), .val (.int p6), .val (.int x1), .val (.int x2), .val (.int x3), .val (.int c1), .val (.int c2), .val (.int qq), .val (.int dd'), .val (.ref b1), .val (.int (1 : Int32)), .val (.int (1 : Int32)), .val (.int (1 : Int32)), .val (.int gg), .val (.int w5), .val (.int w6), .val (.int w7), .val (.int w3), .val (.int w4), .val (.int w8)] [])) (fun t k => XS.ifNo X6.here hx rfl (hb hby at_350) rfl ((if0 _ _).trans (feq (by decide)).1) k) ?_
    refine own_go (U' := T6.setTop (mkF m 355 #[.val (.int p1), .val (.int p2), .val (.int p3), .val (.int p4), .val (.int p5), .val (.int p6), .val (.int x1), .val (.int x2), .val (.int x3), .val (.int c1), .val (.int c2), .val (.int qq), .val (.int dd'), .val (.ref b1), .val (.int (1 : Int32)), .val (.int (1 : Int32)), .val (.int (1 : Int32)), .val (.int gg), .val (.int w5), .val (.int w6), .val (.int w7), .val (.int w3), .val (.int w4), .val (.int w8)] [(.int gg)])) (fun t k => XS.iload X6.here hx rfl (hb hby at_353) rfl k) ?_
    refine own_go (U' := T6.setTop (mkF m 357 #[.val (.int p1), .val (.int p2), .val (.int p3), .val (.int p4), .val (.int p5), .val (.int p6), .val (.int x1), .val (.int x2), .val (.int x3), .val (.int c1), .val (.int c2), .val (.int qq), .val (.int dd'), .val (.ref b1), .val (.int (1 : Int32)), .val (.int (1 : Int32)), .val (.int (1 : Int32)), .val (.int gg), .val (.int w5), .val (.int w6), .val (.int w7), .val (.int w3), .val (.int w4), .val (.int w8)] [(.int w8), (.int gg)])) (fun t k => XS.iload X6.here hx rfl (hb hby at_355) rfl k) ?_
    refine own_go (U' := T6.setTop (mkF m 360 #[.val (.int p1), .val (.int p2), .val (.int p3), .val (.int p4), .val (.int p5), .val (.int p6), .val (.int x1), .val (.int x2), .val (.int x3), .val (.int c1), .val (.int c2), .val (.int qq), .val (.int dd'), .val (.ref b1), .val (.int (1 : Int32)), .val (.int (1 : Int32)), .val (.int (1 : Int32)), .val (.int gg), .val (.int w5), .val (.int w6), .val (.int w7), .val (.int w3), .val (.int w4), .val (.int w8)] [])) (fun t k => XS.icmpNo X6.here hx rfl (hb hby at_357) rfl (teq hgg).2 k) ?_
    refine own_go (U' := T6.setTop (mkF m 361 #[.val (.int p1), .val (.int p2), .val (.int p3), .val (.int p4), .val (.int p5), .val (.int p6), .val (.int x1), .val (.int x2), .val (.int x3), .val (.int c1), .val (.int c2), .val (.int qq), .val (.int dd'), .val (.ref b1), .val (.int (1 : Int32)), .val (.int (1 : Int32)), .val (.int (1 : Int32)), .val (.int gg), .val (.int w5), .val (.int w6), .val (.int w7), .val (.int w3), .val (.int w4), .val (.int w8)] [(.int (1 : Int32))])) (fun t k => XS.iconst X6.here hx rfl (hb hby at_360) k) ?_
    refine own_go (U' := T6.setTop (mkF m 365 #[.val (.int p1), .val (.int p2), .val (.int p3), .val (.int p4), .val (.int p5), .val (.int p6), .val (.int x1), .val (.int x2), .val (.int x3), .val (.int c1), .val (.int c2), .val (.int qq), .val (.int dd'), .val (.ref b1), .val (.int (1 : Int32)), .val (.int (1 : Int32)), .val (.int (1 : Int32)), .val (.int gg), .val (.int w5), .val (.int w6), .val (.int w7), .val (.int w3), .val (.int w4), .val (.int w8)] [(.int (1 : Int32))])) (fun t k => XS.goto X6.here hx rfl (pc0 := 361) (pc' := 365) rfl (hb hby at_361) (by decide) (by decide) k) ?_
    refine own_retN X6 hx (t := .boolean) hret (by simp) hlk (hb hby at_365) ?_ (by decide) (by decide)
    exact ⟨rfl, N9⟩
  obtain ⟨t1', ht1⟩ : ∃ z, z = own_se s1' 0 c1 := ⟨_, rfl⟩
  by_cases hz1 : c1 = (0 : Int32)
  · refine own_go (U' := T5.setTop (mkF m 123 #[.val (.int p1), .val (.int p2), .val (.int p3), .val (.int p4), .val (.int p5), .val (.int p6), .val (.int x1), .val (.int x2), .val (.int x3), .val (.int c1), .val (.int c2), .val (.int qq), .val (.int dd'), .val (.ref b1), .val (.int (1 : Int32)), .unset, .unset, .unset, .unset, .unset, .unset, .unset, .unset, .unset] [])) (fun t k => XS.ifYes X5.here hx rfl (pc0 := 114) (pc' := 123) rfl (hb hby at_114) rfl ((if0 _ _).trans (teq hz1).1) (by decide) (by decide) k) ?_
    have ht : t1' = 0 := ht1.trans (if_pos hz1)
    rw [← ht] at hSt
    refine own_go (U' := T5.setTop (mkF m 125 #[.val (.int p1), .val (.int p2), .val (.int p3), .val (.int p4), .val (.int p5), .val (.int p6), .val (.int x1), .val (.int x2), .val (.int x3), .val (.int c1), .val (.int c2), .val (.int qq), .val (.int dd'), .val (.ref b1), .val (.int (1 : Int32)), .unset, .unset, .unset, .unset, .unset, .unset, .unset, .unset, .unset] [(.ref b1)])) (fun t k => XS.aload X5.here hx rfl (hb hby at_123) rfl rfl k) ?_
    refine own_go (U' := T5.setTop (mkF m 127 #[.val (.int p1), .val (.int p2), .val (.int p3), .val (.int p4), .val (.int p5), .val (.int p6), .val (.int x1), .val (.int x2), .val (.int x3), .val (.int c1), .val (.int c2), .val (.int qq), .val (.int dd'), .val (.ref b1), .val (.int (1 : Int32)), .unset, .unset, .unset, .unset, .unset, .unset, .unset, .unset, .unset] [(.int x2), (.ref b1)])) (fun t k => XS.iload X5.here hx rfl (hb hby at_125) rfl k) ?_
    refine own_go (U' := T5.setTop (mkF m 128 #[.val (.int p1), .val (.int p2), .val (.int p3), .val (.int p4), .val (.int p5), .val (.int p6), .val (.int x1), .val (.int x2), .val (.int x3), .val (.int c1), .val (.int c2), .val (.int qq), .val (.int dd'), .val (.ref b1), .val (.int (1 : Int32)), .unset, .unset, .unset, .unset, .unset, .unset, .unset, .unset, .unset] [(.int (2 : Int32)), (.int x2), (.ref b1)])) (fun t k => XS.iconst X5.here hx rfl (hb hby at_127) k) ?_
    have E_b1 := hSt.exa
    obtain ⟨v7, T7, h7, L7, e7, X7, hQ7, st7⟩ := own_callV X5 hx hZ (y := (⟨"com/example/obedient_dog/obedientdog/topologydiscovery/AgeLog", "raise", "(II)Z"⟩ : MethodName)) (z := (⟨"com/example/obedient_dog/obedientdog/topologydiscovery/AgeLog", "raise", "(II)Z"⟩ : MethodName)) hown (hw _ (List.mem_of_getElem? (i := 71) rfl)) (hw _ (List.mem_of_getElem? (i := 72) rfl)) (notFace_of_selects (args := #[]) (mvT hZ (hw _ (List.mem_of_getElem? (i := 74) rfl)))) (hw _ (List.mem_of_getElem? (i := 74) rfl)) (hw _ (List.mem_of_getElem? (i := 73) rfl)) (hw _ (List.mem_of_getElem? (i := 2) rfl)) (hw _ (List.mem_of_getElem? (i := 75) rfl)) (by decide) E_b1 (own_rmrz l Z a0 hw b1 x2 2 h5 n0 la ra ga b2 ha kl kr kg kh s1' t1' ag1 .null cs1 O m2 (by omega) ex2 (by omega) (fun x hx => by
        rcases hag1 x hx with q | q
        · exact Int32.lt_trans q (by decide)
        · rw [q]; decide) (by decide) hSt) (W := 0) (by decide) (by decide) (g := (mkF m 128 #[.val (.int p1), .val (.int p2), .val (.int p3), .val (.int p4), .val (.int p5), .val (.int p6), .val (.int x1), .val (.int x2), .val (.int x3), .val (.int c1), .val (.int c2), .val (.int qq), .val (.int dd'), .val (.ref b1), .val (.int (1 : Int32)), .unset, .unset, .unset, .unset, .unset, .unset, .unset, .unset, .unset] [(.int (2 : Int32)), (.int x2), (.ref b1)])) rfl (by rw [hml]; rfl) (argsL := [(.int x2), (.int (2 : Int32))]) (rest := []) (lenOf own_pd5 rfl) rfl rfl (by show 2 * 0 + _ ≤ _; exact Nat.le_of_eq rfl) (hb hby at_128) e5 (by decide) (by decide)
    obtain ⟨rfl, Nq, Kq, cs2, ag2, hcs2, hag2, hS2⟩ := hQ7
    have O := O.keep Kq hSt.ge
    have hSt := hS2
    obtain ⟨s2', hs2⟩ : ∃ z, z = own_raise s1' t1' m2 := ⟨_, rfl⟩
    rw [← hs2] at hSt
    have hen2 : s2'.2.2.1 ≤ 2 := by have := (own_raise_en s1' t1' m2).2; rw [← hs2] at this; omega
    have N7 := Fr.app N5 Nq
    refine own_go (U' := T7.setTop (mkF m 131 #[.val (.int p1), .val (.int p2), .val (.int p3), .val (.int p4), .val (.int p5), .val (.int p6), .val (.int x1), .val (.int x2), .val (.int x3), .val (.int c1), .val (.int c2), .val (.int qq), .val (.int dd'), .val (.ref b1), .val (.int (1 : Int32)), .unset, .unset, .unset, .unset, .unset, .unset, .unset, .unset, .unset] [(.int (1 : Int32))])) st7 ?_
    refine own_go (U' := T7.setTop (mkF m 133 #[.val (.int p1), .val (.int p2), .val (.int p3), .val (.int p4), .val (.int p5), .val (.int p6), .val (.int x1), .val (.int x2), .val (.int x3), .val (.int c1), .val (.int c2), .val (.int qq), .val (.int dd'), .val (.ref b1), .val (.int (1 : Int32)), .val (.int (1 : Int32)), .unset, .unset, .unset, .unset, .unset, .unset, .unset, .unset] [])) (fun t k => XS.istore X7.here hx rfl (hb hby at_131) rfl (l' := #[.val (.int p1), .val (.int p2), .val (.int p3), .val (.int p4), .val (.int p5), .val (.int p6), .val (.int x1), .val (.int x2), .val (.int x3), .val (.int c1), .val (.int c2), .val (.int qq), .val (.int dd'), .val (.ref b1), .val (.int (1 : Int32)), .val (.int (1 : Int32)), .unset, .unset, .unset, .unset, .unset, .unset, .unset, .unset]) rfl k) ?_
    refine own_go (U' := T7.setTop (mkF m 135 #[.val (.int p1), .val (.int p2), .val (.int p3), .val (.int p4), .val (.int p5), .val (.int p6), .val (.int x1), .val (.int x2), .val (.int x3), .val (.int c1), .val (.int c2), .val (.int qq), .val (.int dd'), .val (.ref b1), .val (.int (1 : Int32)), .val (.int (1 : Int32)), .unset, .unset, .unset, .unset, .unset, .unset, .unset, .unset] [(.int c2)])) (fun t k => XS.iload X7.here hx rfl (hb hby at_133) rfl k) ?_
    obtain ⟨t2', ht2⟩ : ∃ z, z = own_se s2' t1' c2 := ⟨_, rfl⟩
    by_cases hz2 : c2 = (0 : Int32)
    · refine own_go (U' := T7.setTop (mkF m 144 #[.val (.int p1), .val (.int p2), .val (.int p3), .val (.int p4), .val (.int p5), .val (.int p6), .val (.int x1), .val (.int x2), .val (.int x3), .val (.int c1), .val (.int c2), .val (.int qq), .val (.int dd'), .val (.ref b1), .val (.int (1 : Int32)), .val (.int (1 : Int32)), .unset, .unset, .unset, .unset, .unset, .unset, .unset, .unset] [])) (fun t k => XS.ifYes X7.here hx rfl (pc0 := 135) (pc' := 144) rfl (hb hby at_135) rfl ((if0 _ _).trans (teq hz2).1) (by decide) (by decide) k) ?_
      have ht : t2' = t1' := ht2.trans (if_pos hz2)
      rw [← ht] at hSt
      refine own_go (U' := T7.setTop (mkF m 146 #[.val (.int p1), .val (.int p2), .val (.int p3), .val (.int p4), .val (.int p5), .val (.int p6), .val (.int x1), .val (.int x2), .val (.int x3), .val (.int c1), .val (.int c2), .val (.int qq), .val (.int dd'), .val (.ref b1), .val (.int (1 : Int32)), .val (.int (1 : Int32)), .unset, .unset, .unset, .unset, .unset, .unset, .unset, .unset] [(.ref b1)])) (fun t k => XS.aload X7.here hx rfl (hb hby at_144) rfl rfl k) ?_
      refine own_go (U' := T7.setTop (mkF m 148 #[.val (.int p1), .val (.int p2), .val (.int p3), .val (.int p4), .val (.int p5), .val (.int p6), .val (.int x1), .val (.int x2), .val (.int x3), .val (.int c1), .val (.int c2), .val (.int qq), .val (.int dd'), .val (.ref b1), .val (.int (1 : Int32)), .val (.int (1 : Int32)), .unset, .unset, .unset, .unset, .unset, .unset, .unset, .unset] [(.int x3), (.ref b1)])) (fun t k => XS.iload X7.here hx rfl (hb hby at_146) rfl k) ?_
      refine own_go (U' := T7.setTop (mkF m 149 #[.val (.int p1), .val (.int p2), .val (.int p3), .val (.int p4), .val (.int p5), .val (.int p6), .val (.int x1), .val (.int x2), .val (.int x3), .val (.int c1), .val (.int c2), .val (.int qq), .val (.int dd'), .val (.ref b1), .val (.int (1 : Int32)), .val (.int (1 : Int32)), .unset, .unset, .unset, .unset, .unset, .unset, .unset, .unset] [(.int (3 : Int32)), (.int x3), (.ref b1)])) (fun t k => XS.iconst X7.here hx rfl (hb hby at_148) k) ?_
      have E_b1 := hSt.exa
      obtain ⟨v8, T8, h8, L8, e8, X8, hQ8, st8⟩ := own_callV X7 hx hZ (y := (⟨"com/example/obedient_dog/obedientdog/topologydiscovery/AgeLog", "raise", "(II)Z"⟩ : MethodName)) (z := (⟨"com/example/obedient_dog/obedientdog/topologydiscovery/AgeLog", "raise", "(II)Z"⟩ : MethodName)) hown (hw _ (List.mem_of_getElem? (i := 71) rfl)) (hw _ (List.mem_of_getElem? (i := 72) rfl)) (notFace_of_selects (args := #[]) (mvT hZ (hw _ (List.mem_of_getElem? (i := 74) rfl)))) (hw _ (List.mem_of_getElem? (i := 74) rfl)) (hw _ (List.mem_of_getElem? (i := 73) rfl)) (hw _ (List.mem_of_getElem? (i := 2) rfl)) (hw _ (List.mem_of_getElem? (i := 75) rfl)) (by decide) E_b1 (own_rmrz l Z a0 hw b1 x3 3 h7 n0 la ra ga b2 ha kl kr kg kh s2' t2' ag2 .null cs2 O m3 (by omega) ex3 (by omega) (fun x hx => by
          rcases hag2 x hx with q | q
          · exact Int32.lt_trans q (by decide)
          · rw [q]; decide) (by decide) hSt) (W := 0) (by decide) (by decide) (g := (mkF m 149 #[.val (.int p1), .val (.int p2), .val (.int p3), .val (.int p4), .val (.int p5), .val (.int p6), .val (.int x1), .val (.int x2), .val (.int x3), .val (.int c1), .val (.int c2), .val (.int qq), .val (.int dd'), .val (.ref b1), .val (.int (1 : Int32)), .val (.int (1 : Int32)), .unset, .unset, .unset, .unset, .unset, .unset, .unset, .unset] [(.int (3 : Int32)), (.int x3), (.ref b1)])) rfl (by rw [hml]; rfl) (argsL := [(.int x3), (.int (3 : Int32))]) (rest := []) (lenOf own_pd5 rfl) rfl rfl (by show 2 * 0 + _ ≤ _; exact Nat.le_of_eq rfl) (hb hby at_149) e7 (by decide) (by decide)
      obtain ⟨rfl, Nq, Kq, cs3, ag3, hcs3, hag3, hS2⟩ := hQ8
      have O := O.keep Kq hSt.ge
      have hSt := hS2
      obtain ⟨s3', hs3⟩ : ∃ z, z = own_raise s2' t2' m3 := ⟨_, rfl⟩
      rw [← hs3] at hSt
      have hen3 : s3'.2.2.1 ≤ 3 := by have := (own_raise_en s2' t2' m3).2; rw [← hs3] at this; omega
      have N8 := Fr.app N7 Nq
      refine own_go (U' := T8.setTop (mkF m 152 #[.val (.int p1), .val (.int p2), .val (.int p3), .val (.int p4), .val (.int p5), .val (.int p6), .val (.int x1), .val (.int x2), .val (.int x3), .val (.int c1), .val (.int c2), .val (.int qq), .val (.int dd'), .val (.ref b1), .val (.int (1 : Int32)), .val (.int (1 : Int32)), .unset, .unset, .unset, .unset, .unset, .unset, .unset, .unset] [(.int (1 : Int32))])) st8 ?_
      have hfin : s3' = own_fin3 m1 m2 m3 c1 c2 := by
        rw [hs3, ht2, hs2, ht1, hs1]; rfl
      exact tail _ _ _ _ _ _ _ (own_mono X8 (by decide) (by decide)) e8 N8 hSt hfin (by omega)
    · refine own_go (U' := T7.setTop (mkF m 138 #[.val (.int p1), .val (.int p2), .val (.int p3), .val (.int p4), .val (.int p5), .val (.int p6), .val (.int x1), .val (.int x2), .val (.int x3), .val (.int c1), .val (.int c2), .val (.int qq), .val (.int dd'), .val (.ref b1), .val (.int (1 : Int32)), .val (.int (1 : Int32)), .unset, .unset, .unset, .unset, .unset, .unset, .unset, .unset] [])) (fun t k => XS.ifNo X7.here hx rfl (hb hby at_135) rfl ((if0 _ _).trans (feq hz2).1) k) ?_
      refine own_go (U' := T7.setTop (mkF m 140 #[.val (.int p1), .val (.int p2), .val (.int p3), .val (.int p4), .val (.int p5), .val (.int p6), .val (.int x1), .val (.int x2), .val (.int x3), .val (.int c1), .val (.int c2), .val (.int qq), .val (.int dd'), .val (.ref b1), .val (.int (1 : Int32)), .val (.int (1 : Int32)), .unset, .unset, .unset, .unset, .unset, .unset, .unset, .unset] [(.ref b1)])) (fun t k => XS.aload X7.here hx rfl (hb hby at_138) rfl rfl k) ?_
      have E_b1 := hSt.exa
      obtain ⟨v9, T9, h9, L9, e9, X9, hQ9, st9⟩ := own_callV X7 hx hZ (y := (⟨"com/example/obedient_dog/obedientdog/topologydiscovery/AgeLog", "table", "()Lcom/example/obedient_dog/obedientdog/topologydiscovery/AgeTable;"⟩ : MethodName)) (z := (⟨"com/example/obedient_dog/obedientdog/topologydiscovery/AgeLog", "table", "()Lcom/example/obedient_dog/obedientdog/topologydiscovery/AgeTable;"⟩ : MethodName)) hown (hw _ (List.mem_of_getElem? (i := 104) rfl)) (hw _ (List.mem_of_getElem? (i := 105) rfl)) (notFace_of_selects (args := #[]) (mvT hZ (hw _ (List.mem_of_getElem? (i := 107) rfl)))) (hw _ (List.mem_of_getElem? (i := 107) rfl)) (hw _ (List.mem_of_getElem? (i := 106) rfl)) (hw _ (List.mem_of_getElem? (i := 2) rfl)) (hw _ (List.mem_of_getElem? (i := 108) rfl)) (by decide) E_b1 (own_rmtb l Z a0 hw b1 h7 n0 la ra ga b2 ha kl kr kg kh s2' t1' ag2 cs2 O hSt) (W := 0) (by decide) (by decide) (g := (mkF m 140 #[.val (.int p1), .val (.int p2), .val (.int p3), .val (.int p4), .val (.int p5), .val (.int p6), .val (.int x1), .val (.int x2), .val (.int x3), .val (.int c1), .val (.int c2), .val (.int qq), .val (.int dd'), .val (.ref b1), .val (.int (1 : Int32)), .val (.int (1 : Int32)), .unset, .unset, .unset, .unset, .unset, .unset, .unset, .unset] [(.ref b1)])) rfl (by rw [hml]; rfl) (argsL := []) (rest := []) (lenOf own_pd7 rfl) rfl rfl (by show 2 * 0 + _ ≤ _; exact Nat.le_of_eq rfl) (hb hby at_140) e7 (by decide) (by decide)
      obtain ⟨t, rfl, Nq, Kq, hSt⟩ := hQ9
      have O := O.keep Kq (allS g_b1 all0)
      have N9 := Fr.app N7 Nq
      refine own_go (U' := T9.setTop (mkF m 143 #[.val (.int p1), .val (.int p2), .val (.int p3), .val (.int p4), .val (.int p5), .val (.int p6), .val (.int x1), .val (.int x2), .val (.int x3), .val (.int c1), .val (.int c2), .val (.int qq), .val (.int dd'), .val (.ref b1), .val (.int (1 : Int32)), .val (.int (1 : Int32)), .unset, .unset, .unset, .unset, .unset, .unset, .unset, .unset] [(.ref t)])) st9 ?_
      have ht : t2' = s2'.2.2.1 := ht2.trans (if_neg hz2)
      rw [← ht] at hSt
      refine own_go (U' := T9.setTop (mkF m 144 #[.val (.int p1), .val (.int p2), .val (.int p3), .val (.int p4), .val (.int p5), .val (.int p6), .val (.int x1), .val (.int x2), .val (.int x3), .val (.int c1), .val (.int c2), .val (.int qq), .val (.int dd'), .val (.ref b1), .val (.int (1 : Int32)), .val (.int (1 : Int32)), .unset, .unset, .unset, .unset, .unset, .unset, .unset, .unset] [])) (fun t k => XS.pop X9.here hx rfl (hb hby at_143) rfl rfl k) ?_
      refine own_go (U' := T9.setTop (mkF m 146 #[.val (.int p1), .val (.int p2), .val (.int p3), .val (.int p4), .val (.int p5), .val (.int p6), .val (.int x1), .val (.int x2), .val (.int x3), .val (.int c1), .val (.int c2), .val (.int qq), .val (.int dd'), .val (.ref b1), .val (.int (1 : Int32)), .val (.int (1 : Int32)), .unset, .unset, .unset, .unset, .unset, .unset, .unset, .unset] [(.ref b1)])) (fun t k => XS.aload X9.here hx rfl (hb hby at_144) rfl rfl k) ?_
      refine own_go (U' := T9.setTop (mkF m 148 #[.val (.int p1), .val (.int p2), .val (.int p3), .val (.int p4), .val (.int p5), .val (.int p6), .val (.int x1), .val (.int x2), .val (.int x3), .val (.int c1), .val (.int c2), .val (.int qq), .val (.int dd'), .val (.ref b1), .val (.int (1 : Int32)), .val (.int (1 : Int32)), .unset, .unset, .unset, .unset, .unset, .unset, .unset, .unset] [(.int x3), (.ref b1)])) (fun t k => XS.iload X9.here hx rfl (hb hby at_146) rfl k) ?_
      refine own_go (U' := T9.setTop (mkF m 149 #[.val (.int p1), .val (.int p2), .val (.int p3), .val (.int p4), .val (.int p5), .val (.int p6), .val (.int x1), .val (.int x2), .val (.int x3), .val (.int c1), .val (.int c2), .val (.int qq), .val (.int dd'), .val (.ref b1), .val (.int (1 : Int32)), .val (.int (1 : Int32)), .unset, .unset, .unset, .unset, .unset, .unset, .unset, .unset] [(.int (3 : Int32)), (.int x3), (.ref b1)])) (fun t k => XS.iconst X9.here hx rfl (hb hby at_148) k) ?_
      have E_b1 := hSt.exa
      obtain ⟨v10, T10, h10, L10, e10, X10, hQ10, st10⟩ := own_callV X9 hx hZ (y := (⟨"com/example/obedient_dog/obedientdog/topologydiscovery/AgeLog", "raise", "(II)Z"⟩ : MethodName)) (z := (⟨"com/example/obedient_dog/obedientdog/topologydiscovery/AgeLog", "raise", "(II)Z"⟩ : MethodName)) hown (hw _ (List.mem_of_getElem? (i := 71) rfl)) (hw _ (List.mem_of_getElem? (i := 72) rfl)) (notFace_of_selects (args := #[]) (mvT hZ (hw _ (List.mem_of_getElem? (i := 74) rfl)))) (hw _ (List.mem_of_getElem? (i := 74) rfl)) (hw _ (List.mem_of_getElem? (i := 73) rfl)) (hw _ (List.mem_of_getElem? (i := 2) rfl)) (hw _ (List.mem_of_getElem? (i := 75) rfl)) (by decide) E_b1 (own_rmrz l Z a0 hw b1 x3 3 h9 n0 la ra ga b2 ha kl kr kg kh s2' t2' ag2 (.ref t) cs2 O m3 (by omega) ex3 (by omega) (fun x hx => by
          rcases hag2 x hx with q | q
          · exact Int32.lt_trans q (by decide)
          · rw [q]; decide) (by decide) hSt) (W := 0) (by decide) (by decide) (g := (mkF m 149 #[.val (.int p1), .val (.int p2), .val (.int p3), .val (.int p4), .val (.int p5), .val (.int p6), .val (.int x1), .val (.int x2), .val (.int x3), .val (.int c1), .val (.int c2), .val (.int qq), .val (.int dd'), .val (.ref b1), .val (.int (1 : Int32)), .val (.int (1 : Int32)), .unset, .unset, .unset, .unset, .unset, .unset, .unset, .unset] [(.int (3 : Int32)), (.int x3), (.ref b1)])) rfl (by rw [hml]; rfl) (argsL := [(.int x3), (.int (3 : Int32))]) (rest := []) (lenOf own_pd5 rfl) rfl rfl (by show 2 * 0 + _ ≤ _; exact Nat.le_of_eq rfl) (hb hby at_149) e9 (by decide) (by decide)
      obtain ⟨rfl, Nq, Kq, cs3, ag3, hcs3, hag3, hS2⟩ := hQ10
      have O := O.keep Kq hSt.ge
      have hSt := hS2
      obtain ⟨s3', hs3⟩ : ∃ z, z = own_raise s2' t2' m3 := ⟨_, rfl⟩
      rw [← hs3] at hSt
      have hen3 : s3'.2.2.1 ≤ 3 := by have := (own_raise_en s2' t2' m3).2; rw [← hs3] at this; omega
      have N10 := Fr.app N9 Nq
      refine own_go (U' := T10.setTop (mkF m 152 #[.val (.int p1), .val (.int p2), .val (.int p3), .val (.int p4), .val (.int p5), .val (.int p6), .val (.int x1), .val (.int x2), .val (.int x3), .val (.int c1), .val (.int c2), .val (.int qq), .val (.int dd'), .val (.ref b1), .val (.int (1 : Int32)), .val (.int (1 : Int32)), .unset, .unset, .unset, .unset, .unset, .unset, .unset, .unset] [(.int (1 : Int32))])) st10 ?_
      have hfin : s3' = own_fin3 m1 m2 m3 c1 c2 := by
        rw [hs3, ht2, hs2, ht1, hs1]; rfl
      exact tail _ _ _ _ _ _ _ (own_mono X10 (by decide) (by decide)) e10 N10 hSt hfin (by omega)
  · refine own_go (U' := T5.setTop (mkF m 117 #[.val (.int p1), .val (.int p2), .val (.int p3), .val (.int p4), .val (.int p5), .val (.int p6), .val (.int x1), .val (.int x2), .val (.int x3), .val (.int c1), .val (.int c2), .val (.int qq), .val (.int dd'), .val (.ref b1), .val (.int (1 : Int32)), .unset, .unset, .unset, .unset, .unset, .unset, .unset, .unset, .unset] [])) (fun t k => XS.ifNo X5.here hx rfl (hb hby at_114) rfl ((if0 _ _).trans (feq hz1).1) k) ?_
    refine own_go (U' := T5.setTop (mkF m 119 #[.val (.int p1), .val (.int p2), .val (.int p3), .val (.int p4), .val (.int p5), .val (.int p6), .val (.int x1), .val (.int x2), .val (.int x3), .val (.int c1), .val (.int c2), .val (.int qq), .val (.int dd'), .val (.ref b1), .val (.int (1 : Int32)), .unset, .unset, .unset, .unset, .unset, .unset, .unset, .unset, .unset] [(.ref b1)])) (fun t k => XS.aload X5.here hx rfl (hb hby at_117) rfl rfl k) ?_
    have E_b1 := hSt.exa
    obtain ⟨v11, T11, h11, L11, e11, X11, hQ11, st11⟩ := own_callV X5 hx hZ (y := (⟨"com/example/obedient_dog/obedientdog/topologydiscovery/AgeLog", "table", "()Lcom/example/obedient_dog/obedientdog/topologydiscovery/AgeTable;"⟩ : MethodName)) (z := (⟨"com/example/obedient_dog/obedientdog/topologydiscovery/AgeLog", "table", "()Lcom/example/obedient_dog/obedientdog/topologydiscovery/AgeTable;"⟩ : MethodName)) hown (hw _ (List.mem_of_getElem? (i := 104) rfl)) (hw _ (List.mem_of_getElem? (i := 105) rfl)) (notFace_of_selects (args := #[]) (mvT hZ (hw _ (List.mem_of_getElem? (i := 107) rfl)))) (hw _ (List.mem_of_getElem? (i := 107) rfl)) (hw _ (List.mem_of_getElem? (i := 106) rfl)) (hw _ (List.mem_of_getElem? (i := 2) rfl)) (hw _ (List.mem_of_getElem? (i := 108) rfl)) (by decide) E_b1 (own_rmtb l Z a0 hw b1 h5 n0 la ra ga b2 ha kl kr kg kh s1' 0 ag1 cs1 O hSt) (W := 0) (by decide) (by decide) (g := (mkF m 119 #[.val (.int p1), .val (.int p2), .val (.int p3), .val (.int p4), .val (.int p5), .val (.int p6), .val (.int x1), .val (.int x2), .val (.int x3), .val (.int c1), .val (.int c2), .val (.int qq), .val (.int dd'), .val (.ref b1), .val (.int (1 : Int32)), .unset, .unset, .unset, .unset, .unset, .unset, .unset, .unset, .unset] [(.ref b1)])) rfl (by rw [hml]; rfl) (argsL := []) (rest := []) (lenOf own_pd7 rfl) rfl rfl (by show 2 * 0 + _ ≤ _; exact Nat.le_of_eq rfl) (hb hby at_119) e5 (by decide) (by decide)
    obtain ⟨t, rfl, Nq, Kq, hSt⟩ := hQ11
    have O := O.keep Kq (allS g_b1 all0)
    have N11 := Fr.app N5 Nq
    refine own_go (U' := T11.setTop (mkF m 122 #[.val (.int p1), .val (.int p2), .val (.int p3), .val (.int p4), .val (.int p5), .val (.int p6), .val (.int x1), .val (.int x2), .val (.int x3), .val (.int c1), .val (.int c2), .val (.int qq), .val (.int dd'), .val (.ref b1), .val (.int (1 : Int32)), .unset, .unset, .unset, .unset, .unset, .unset, .unset, .unset, .unset] [(.ref t)])) st11 ?_
    have ht : t1' = s1'.2.2.1 := ht1.trans (if_neg hz1)
    rw [← ht] at hSt
    refine own_go (U' := T11.setTop (mkF m 123 #[.val (.int p1), .val (.int p2), .val (.int p3), .val (.int p4), .val (.int p5), .val (.int p6), .val (.int x1), .val (.int x2), .val (.int x3), .val (.int c1), .val (.int c2), .val (.int qq), .val (.int dd'), .val (.ref b1), .val (.int (1 : Int32)), .unset, .unset, .unset, .unset, .unset, .unset, .unset, .unset, .unset] [])) (fun t k => XS.pop X11.here hx rfl (hb hby at_122) rfl rfl k) ?_
    refine own_go (U' := T11.setTop (mkF m 125 #[.val (.int p1), .val (.int p2), .val (.int p3), .val (.int p4), .val (.int p5), .val (.int p6), .val (.int x1), .val (.int x2), .val (.int x3), .val (.int c1), .val (.int c2), .val (.int qq), .val (.int dd'), .val (.ref b1), .val (.int (1 : Int32)), .unset, .unset, .unset, .unset, .unset, .unset, .unset, .unset, .unset] [(.ref b1)])) (fun t k => XS.aload X11.here hx rfl (hb hby at_123) rfl rfl k) ?_
    refine own_go (U' := T11.setTop (mkF m 127 #[.val (.int p1), .val (.int p2), .val (.int p3), .val (.int p4), .val (.int p5), .val (.int p6), .val (.int x1), .val (.int x2), .val (.int x3), .val (.int c1), .val (.int c2), .val (.int qq), .val (.int dd'), .val (.ref b1), .val (.int (1 : Int32)), .unset, .unset, .unset, .unset, .unset, .unset, .unset, .unset, .unset] [(.int x2), (.ref b1)])) (fun t k => XS.iload X11.here hx rfl (hb hby at_125) rfl k) ?_
    refine own_go (U' := T11.setTop (mkF m 128 #[.val (.int p1), .val (.int p2), .val (.int p3), .val (.int p4), .val (.int p5), .val (.int p6), .val (.int x1), .val (.int x2), .val (.int x3), .val (.int c1), .val (.int c2), .val (.int qq), .val (.int dd'), .val (.ref b1), .val (.int (1 : Int32)), .unset, .unset, .unset, .unset, .unset, .unset, .unset, .unset, .unset] [(.int (2 : Int32)), (.int x2), (.ref b1)])) (fun t k => XS.iconst X11.here hx rfl (hb hby at_127) k) ?_
    have E_b1 := hSt.exa
    obtain ⟨v12, T12, h12, L12, e12, X12, hQ12, st12⟩ := own_callV X11 hx hZ (y := (⟨"com/example/obedient_dog/obedientdog/topologydiscovery/AgeLog", "raise", "(II)Z"⟩ : MethodName)) (z := (⟨"com/example/obedient_dog/obedientdog/topologydiscovery/AgeLog", "raise", "(II)Z"⟩ : MethodName)) hown (hw _ (List.mem_of_getElem? (i := 71) rfl)) (hw _ (List.mem_of_getElem? (i := 72) rfl)) (notFace_of_selects (args := #[]) (mvT hZ (hw _ (List.mem_of_getElem? (i := 74) rfl)))) (hw _ (List.mem_of_getElem? (i := 74) rfl)) (hw _ (List.mem_of_getElem? (i := 73) rfl)) (hw _ (List.mem_of_getElem? (i := 2) rfl)) (hw _ (List.mem_of_getElem? (i := 75) rfl)) (by decide) E_b1 (own_rmrz l Z a0 hw b1 x2 2 h11 n0 la ra ga b2 ha kl kr kg kh s1' t1' ag1 (.ref t) cs1 O m2 (by omega) ex2 (by omega) (fun x hx => by
        rcases hag1 x hx with q | q
        · exact Int32.lt_trans q (by decide)
        · rw [q]; decide) (by decide) hSt) (W := 0) (by decide) (by decide) (g := (mkF m 128 #[.val (.int p1), .val (.int p2), .val (.int p3), .val (.int p4), .val (.int p5), .val (.int p6), .val (.int x1), .val (.int x2), .val (.int x3), .val (.int c1), .val (.int c2), .val (.int qq), .val (.int dd'), .val (.ref b1), .val (.int (1 : Int32)), .unset, .unset, .unset, .unset, .unset, .unset, .unset, .unset, .unset] [(.int (2 : Int32)), (.int x2), (.ref b1)])) rfl (by rw [hml]; rfl) (argsL := [(.int x2), (.int (2 : Int32))]) (rest := []) (lenOf own_pd5 rfl) rfl rfl (by show 2 * 0 + _ ≤ _; exact Nat.le_of_eq rfl) (hb hby at_128) e11 (by decide) (by decide)
    obtain ⟨rfl, Nq, Kq, cs2, ag2, hcs2, hag2, hS2⟩ := hQ12
    have O := O.keep Kq hSt.ge
    have hSt := hS2
    obtain ⟨s2', hs2⟩ : ∃ z, z = own_raise s1' t1' m2 := ⟨_, rfl⟩
    rw [← hs2] at hSt
    have hen2 : s2'.2.2.1 ≤ 2 := by have := (own_raise_en s1' t1' m2).2; rw [← hs2] at this; omega
    have N12 := Fr.app N11 Nq
    refine own_go (U' := T12.setTop (mkF m 131 #[.val (.int p1), .val (.int p2), .val (.int p3), .val (.int p4), .val (.int p5), .val (.int p6), .val (.int x1), .val (.int x2), .val (.int x3), .val (.int c1), .val (.int c2), .val (.int qq), .val (.int dd'), .val (.ref b1), .val (.int (1 : Int32)), .unset, .unset, .unset, .unset, .unset, .unset, .unset, .unset, .unset] [(.int (1 : Int32))])) st12 ?_
    refine own_go (U' := T12.setTop (mkF m 133 #[.val (.int p1), .val (.int p2), .val (.int p3), .val (.int p4), .val (.int p5), .val (.int p6), .val (.int x1), .val (.int x2), .val (.int x3), .val (.int c1), .val (.int c2), .val (.int qq), .val (.int dd'), .val (.ref b1), .val (.int (1 : Int32)), .val (.int (1 : Int32)), .unset, .unset, .unset, .unset, .unset, .unset, .unset, .unset] [])) (fun t k => XS.istore X12.here hx rfl (hb hby at_131) rfl (l' := #[.val (.int p1), .val (.int p2), .val (.int p3), .val (.int p4), .val (.int p5), .val (.int p6), .val (.int x1), .val (.int x2), .val (.int x3), .val (.int c1), .val (.int c2), .val (.int qq), .val (.int dd'), .val (.ref b1), .val (.int (1 : Int32)), .val (.int (1 : Int32)), .unset, .unset, .unset, .unset, .unset, .unset, .unset, .unset]) rfl k) ?_
    refine own_go (U' := T12.setTop (mkF m 135 #[.val (.int p1), .val (.int p2), .val (.int p3), .val (.int p4), .val (.int p5), .val (.int p6), .val (.int x1), .val (.int x2), .val (.int x3), .val (.int c1), .val (.int c2), .val (.int qq), .val (.int dd'), .val (.ref b1), .val (.int (1 : Int32)), .val (.int (1 : Int32)), .unset, .unset, .unset, .unset, .unset, .unset, .unset, .unset] [(.int c2)])) (fun t k => XS.iload X12.here hx rfl (hb hby at_133) rfl k) ?_
    obtain ⟨t2', ht2⟩ : ∃ z, z = own_se s2' t1' c2 := ⟨_, rfl⟩
    by_cases hz2 : c2 = (0 : Int32)
    · refine own_go (U' := T12.setTop (mkF m 144 #[.val (.int p1), .val (.int p2), .val (.int p3), .val (.int p4), .val (.int p5), .val (.int p6), .val (.int x1), .val (.int x2), .val (.int x3), .val (.int c1), .val (.int c2), .val (.int qq), .val (.int dd'), .val (.ref b1), .val (.int (1 : Int32)), .val (.int (1 : Int32)), .unset, .unset, .unset, .unset, .unset, .unset, .unset, .unset] [])) (fun t k => XS.ifYes X12.here hx rfl (pc0 := 135) (pc' := 144) rfl (hb hby at_135) rfl ((if0 _ _).trans (teq hz2).1) (by decide) (by decide) k) ?_
      have ht : t2' = t1' := ht2.trans (if_pos hz2)
      rw [← ht] at hSt
      refine own_go (U' := T12.setTop (mkF m 146 #[.val (.int p1), .val (.int p2), .val (.int p3), .val (.int p4), .val (.int p5), .val (.int p6), .val (.int x1), .val (.int x2), .val (.int x3), .val (.int c1), .val (.int c2), .val (.int qq), .val (.int dd'), .val (.ref b1), .val (.int (1 : Int32)), .val (.int (1 : Int32)), .unset, .unset, .unset, .unset, .unset, .unset, .unset, .unset] [(.ref b1)])) (fun t k => XS.aload X12.here hx rfl (hb hby at_144) rfl rfl k) ?_
      refine own_go (U' := T12.setTop (mkF m 148 #[.val (.int p1), .val (.int p2), .val (.int p3), .val (.int p4), .val (.int p5), .val (.int p6), .val (.int x1), .val (.int x2), .val (.int x3), .val (.int c1), .val (.int c2), .val (.int qq), .val (.int dd'), .val (.ref b1), .val (.int (1 : Int32)), .val (.int (1 : Int32)), .unset, .unset, .unset, .unset, .unset, .unset, .unset, .unset] [(.int x3), (.ref b1)])) (fun t k => XS.iload X12.here hx rfl (hb hby at_146) rfl k) ?_
      refine own_go (U' := T12.setTop (mkF m 149 #[.val (.int p1), .val (.int p2), .val (.int p3), .val (.int p4), .val (.int p5), .val (.int p6), .val (.int x1), .val (.int x2), .val (.int x3), .val (.int c1), .val (.int c2), .val (.int qq), .val (.int dd'), .val (.ref b1), .val (.int (1 : Int32)), .val (.int (1 : Int32)), .unset, .unset, .unset, .unset, .unset, .unset, .unset, .unset] [(.int (3 : Int32)), (.int x3), (.ref b1)])) (fun t k => XS.iconst X12.here hx rfl (hb hby at_148) k) ?_
      have E_b1 := hSt.exa
      obtain ⟨v13, T13, h13, L13, e13, X13, hQ13, st13⟩ := own_callV X12 hx hZ (y := (⟨"com/example/obedient_dog/obedientdog/topologydiscovery/AgeLog", "raise", "(II)Z"⟩ : MethodName)) (z := (⟨"com/example/obedient_dog/obedientdog/topologydiscovery/AgeLog", "raise", "(II)Z"⟩ : MethodName)) hown (hw _ (List.mem_of_getElem? (i := 71) rfl)) (hw _ (List.mem_of_getElem? (i := 72) rfl)) (notFace_of_selects (args := #[]) (mvT hZ (hw _ (List.mem_of_getElem? (i := 74) rfl)))) (hw _ (List.mem_of_getElem? (i := 74) rfl)) (hw _ (List.mem_of_getElem? (i := 73) rfl)) (hw _ (List.mem_of_getElem? (i := 2) rfl)) (hw _ (List.mem_of_getElem? (i := 75) rfl)) (by decide) E_b1 (own_rmrz l Z a0 hw b1 x3 3 h12 n0 la ra ga b2 ha kl kr kg kh s2' t2' ag2 .null cs2 O m3 (by omega) ex3 (by omega) (fun x hx => by
          rcases hag2 x hx with q | q
          · exact Int32.lt_trans q (by decide)
          · rw [q]; decide) (by decide) hSt) (W := 0) (by decide) (by decide) (g := (mkF m 149 #[.val (.int p1), .val (.int p2), .val (.int p3), .val (.int p4), .val (.int p5), .val (.int p6), .val (.int x1), .val (.int x2), .val (.int x3), .val (.int c1), .val (.int c2), .val (.int qq), .val (.int dd'), .val (.ref b1), .val (.int (1 : Int32)), .val (.int (1 : Int32)), .unset, .unset, .unset, .unset, .unset, .unset, .unset, .unset] [(.int (3 : Int32)), (.int x3), (.ref b1)])) rfl (by rw [hml]; rfl) (argsL := [(.int x3), (.int (3 : Int32))]) (rest := []) (lenOf own_pd5 rfl) rfl rfl (by show 2 * 0 + _ ≤ _; exact Nat.le_of_eq rfl) (hb hby at_149) e12 (by decide) (by decide)
      obtain ⟨rfl, Nq, Kq, cs3, ag3, hcs3, hag3, hS2⟩ := hQ13
      have O := O.keep Kq hSt.ge
      have hSt := hS2
      obtain ⟨s3', hs3⟩ : ∃ z, z = own_raise s2' t2' m3 := ⟨_, rfl⟩
      rw [← hs3] at hSt
      have hen3 : s3'.2.2.1 ≤ 3 := by have := (own_raise_en s2' t2' m3).2; rw [← hs3] at this; omega
      have N13 := Fr.app N12 Nq
      refine own_go (U' := T13.setTop (mkF m 152 #[.val (.int p1), .val (.int p2), .val (.int p3), .val (.int p4), .val (.int p5), .val (.int p6), .val (.int x1), .val (.int x2), .val (.int x3), .val (.int c1), .val (.int c2), .val (.int qq), .val (.int dd'), .val (.ref b1), .val (.int (1 : Int32)), .val (.int (1 : Int32)), .unset, .unset, .unset, .unset, .unset, .unset, .unset, .unset] [(.int (1 : Int32))])) st13 ?_
      have hfin : s3' = own_fin3 m1 m2 m3 c1 c2 := by
        rw [hs3, ht2, hs2, ht1, hs1]; rfl
      exact tail _ _ _ _ _ _ _ (own_mono X13 (by decide) (by decide)) e13 N13 hSt hfin (by omega)
    · refine own_go (U' := T12.setTop (mkF m 138 #[.val (.int p1), .val (.int p2), .val (.int p3), .val (.int p4), .val (.int p5), .val (.int p6), .val (.int x1), .val (.int x2), .val (.int x3), .val (.int c1), .val (.int c2), .val (.int qq), .val (.int dd'), .val (.ref b1), .val (.int (1 : Int32)), .val (.int (1 : Int32)), .unset, .unset, .unset, .unset, .unset, .unset, .unset, .unset] [])) (fun t k => XS.ifNo X12.here hx rfl (hb hby at_135) rfl ((if0 _ _).trans (feq hz2).1) k) ?_
      refine own_go (U' := T12.setTop (mkF m 140 #[.val (.int p1), .val (.int p2), .val (.int p3), .val (.int p4), .val (.int p5), .val (.int p6), .val (.int x1), .val (.int x2), .val (.int x3), .val (.int c1), .val (.int c2), .val (.int qq), .val (.int dd'), .val (.ref b1), .val (.int (1 : Int32)), .val (.int (1 : Int32)), .unset, .unset, .unset, .unset, .unset, .unset, .unset, .unset] [(.ref b1)])) (fun t k => XS.aload X12.here hx rfl (hb hby at_138) rfl rfl k) ?_
      have E_b1 := hSt.exa
      obtain ⟨v14, T14, h14, L14, e14, X14, hQ14, st14⟩ := own_callV X12 hx hZ (y := (⟨"com/example/obedient_dog/obedientdog/topologydiscovery/AgeLog", "table", "()Lcom/example/obedient_dog/obedientdog/topologydiscovery/AgeTable;"⟩ : MethodName)) (z := (⟨"com/example/obedient_dog/obedientdog/topologydiscovery/AgeLog", "table", "()Lcom/example/obedient_dog/obedientdog/topologydiscovery/AgeTable;"⟩ : MethodName)) hown (hw _ (List.mem_of_getElem? (i := 104) rfl)) (hw _ (List.mem_of_getElem? (i := 105) rfl)) (notFace_of_selects (args := #[]) (mvT hZ (hw _ (List.mem_of_getElem? (i := 107) rfl)))) (hw _ (List.mem_of_getElem? (i := 107) rfl)) (hw _ (List.mem_of_getElem? (i := 106) rfl)) (hw _ (List.mem_of_getElem? (i := 2) rfl)) (hw _ (List.mem_of_getElem? (i := 108) rfl)) (by decide) E_b1 (own_rmtb l Z a0 hw b1 h12 n0 la ra ga b2 ha kl kr kg kh s2' t1' ag2 cs2 O hSt) (W := 0) (by decide) (by decide) (g := (mkF m 140 #[.val (.int p1), .val (.int p2), .val (.int p3), .val (.int p4), .val (.int p5), .val (.int p6), .val (.int x1), .val (.int x2), .val (.int x3), .val (.int c1), .val (.int c2), .val (.int qq), .val (.int dd'), .val (.ref b1), .val (.int (1 : Int32)), .val (.int (1 : Int32)), .unset, .unset, .unset, .unset, .unset, .unset, .unset, .unset] [(.ref b1)])) rfl (by rw [hml]; rfl) (argsL := []) (rest := []) (lenOf own_pd7 rfl) rfl rfl (by show 2 * 0 + _ ≤ _; exact Nat.le_of_eq rfl) (hb hby at_140) e12 (by decide) (by decide)
      obtain ⟨t, rfl, Nq, Kq, hSt⟩ := hQ14
      have O := O.keep Kq (allS g_b1 all0)
      have N14 := Fr.app N12 Nq
      refine own_go (U' := T14.setTop (mkF m 143 #[.val (.int p1), .val (.int p2), .val (.int p3), .val (.int p4), .val (.int p5), .val (.int p6), .val (.int x1), .val (.int x2), .val (.int x3), .val (.int c1), .val (.int c2), .val (.int qq), .val (.int dd'), .val (.ref b1), .val (.int (1 : Int32)), .val (.int (1 : Int32)), .unset, .unset, .unset, .unset, .unset, .unset, .unset, .unset] [(.ref t)])) st14 ?_
      have ht : t2' = s2'.2.2.1 := ht2.trans (if_neg hz2)
      rw [← ht] at hSt
      refine own_go (U' := T14.setTop (mkF m 144 #[.val (.int p1), .val (.int p2), .val (.int p3), .val (.int p4), .val (.int p5), .val (.int p6), .val (.int x1), .val (.int x2), .val (.int x3), .val (.int c1), .val (.int c2), .val (.int qq), .val (.int dd'), .val (.ref b1), .val (.int (1 : Int32)), .val (.int (1 : Int32)), .unset, .unset, .unset, .unset, .unset, .unset, .unset, .unset] [])) (fun t k => XS.pop X14.here hx rfl (hb hby at_143) rfl rfl k) ?_
      refine own_go (U' := T14.setTop (mkF m 146 #[.val (.int p1), .val (.int p2), .val (.int p3), .val (.int p4), .val (.int p5), .val (.int p6), .val (.int x1), .val (.int x2), .val (.int x3), .val (.int c1), .val (.int c2), .val (.int qq), .val (.int dd'), .val (.ref b1), .val (.int (1 : Int32)), .val (.int (1 : Int32)), .unset, .unset, .unset, .unset, .unset, .unset, .unset, .unset] [(.ref b1)])) (fun t k => XS.aload X14.here hx rfl (hb hby at_144) rfl rfl k) ?_
      refine own_go (U' := T14.setTop (mkF m 148 #[.val (.int p1), .val (.int p2), .val (.int p3), .val (.int p4), .val (.int p5), .val (.int p6), .val (.int x1), .val (.int x2), .val (.int x3), .val (.int c1), .val (.int c2), .val (.int qq), .val (.int dd'), .val (.ref b1), .val (.int (1 : Int32)), .val (.int (1 : Int32)), .unset, .unset, .unset, .unset, .unset, .unset, .unset, .unset] [(.int x3), (.ref b1)])) (fun t k => XS.iload X14.here hx rfl (hb hby at_146) rfl k) ?_
      refine own_go (U' := T14.setTop (mkF m 149 #[.val (.int p1), .val (.int p2), .val (.int p3), .val (.int p4), .val (.int p5), .val (.int p6), .val (.int x1), .val (.int x2), .val (.int x3), .val (.int c1), .val (.int c2), .val (.int qq), .val (.int dd'), .val (.ref b1), .val (.int (1 : Int32)), .val (.int (1 : Int32)), .unset, .unset, .unset, .unset, .unset, .unset, .unset, .unset] [(.int (3 : Int32)), (.int x3), (.ref b1)])) (fun t k => XS.iconst X14.here hx rfl (hb hby at_148) k) ?_
      have E_b1 := hSt.exa
      obtain ⟨v15, T15, h15, L15, e15, X15, hQ15, st15⟩ := own_callV X14 hx hZ (y := (⟨"com/example/obedient_dog/obedientdog/topologydiscovery/AgeLog", "raise", "(II)Z"⟩ : MethodName)) (z := (⟨"com/example/obedient_dog/obedientdog/topologydiscovery/AgeLog", "raise", "(II)Z"⟩ : MethodName)) hown (hw _ (List.mem_of_getElem? (i := 71) rfl)) (hw _ (List.mem_of_getElem? (i := 72) rfl)) (notFace_of_selects (args := #[]) (mvT hZ (hw _ (List.mem_of_getElem? (i := 74) rfl)))) (hw _ (List.mem_of_getElem? (i := 74) rfl)) (hw _ (List.mem_of_getElem? (i := 73) rfl)) (hw _ (List.mem_of_getElem? (i := 2) rfl)) (hw _ (List.mem_of_getElem? (i := 75) rfl)) (by decide) E_b1 (own_rmrz l Z a0 hw b1 x3 3 h14 n0 la ra ga b2 ha kl kr kg kh s2' t2' ag2 (.ref t) cs2 O m3 (by omega) ex3 (by omega) (fun x hx => by
          rcases hag2 x hx with q | q
          · exact Int32.lt_trans q (by decide)
          · rw [q]; decide) (by decide) hSt) (W := 0) (by decide) (by decide) (g := (mkF m 149 #[.val (.int p1), .val (.int p2), .val (.int p3), .val (.int p4), .val (.int p5), .val (.int p6), .val (.int x1), .val (.int x2), .val (.int x3), .val (.int c1), .val (.int c2), .val (.int qq), .val (.int dd'), .val (.ref b1), .val (.int (1 : Int32)), .val (.int (1 : Int32)), .unset, .unset, .unset, .unset, .unset, .unset, .unset, .unset] [(.int (3 : Int32)), (.int x3), (.ref b1)])) rfl (by rw [hml]; rfl) (argsL := [(.int x3), (.int (3 : Int32))]) (rest := []) (lenOf own_pd5 rfl) rfl rfl (by show 2 * 0 + _ ≤ _; exact Nat.le_of_eq rfl) (hb hby at_149) e14 (by decide) (by decide)
      obtain ⟨rfl, Nq, Kq, cs3, ag3, hcs3, hag3, hS2⟩ := hQ15
      have O := O.keep Kq hSt.ge
      have hSt := hS2
      obtain ⟨s3', hs3⟩ : ∃ z, z = own_raise s2' t2' m3 := ⟨_, rfl⟩
      rw [← hs3] at hSt
      have hen3 : s3'.2.2.1 ≤ 3 := by have := (own_raise_en s2' t2' m3).2; rw [← hs3] at this; omega
      have N15 := Fr.app N14 Nq
      refine own_go (U' := T15.setTop (mkF m 152 #[.val (.int p1), .val (.int p2), .val (.int p3), .val (.int p4), .val (.int p5), .val (.int p6), .val (.int x1), .val (.int x2), .val (.int x3), .val (.int c1), .val (.int c2), .val (.int qq), .val (.int dd'), .val (.ref b1), .val (.int (1 : Int32)), .val (.int (1 : Int32)), .unset, .unset, .unset, .unset, .unset, .unset, .unset, .unset] [(.int (1 : Int32))])) st15 ?_
      have hfin : s3' = own_fin3 m1 m2 m3 c1 c2 := by
        rw [hs3, ht2, hs2, ht1, hs1]; rfl
      exact tail _ _ _ _ _ _ _ (own_mono X15 (by decide) (by decide)) e15 N15 hSt hfin (by omega)
set_option maxRecDepth 65536 in
set_option maxHeartbeats 40000000 in
theorem comes_1 {Post : Tables → Env → Array Value → State → Outcome → State → Prop} (hpost : ∀ tb e args s v u, (limb_1_1.after args s (.returned v) u = true ∧ limb_1_2.after args s (.returned v) u = true) → FrameEnd s (.returned v) u (Jvm.fieldLocs frame_1_writes args s ++ Jvm.arrayLocs frame_1_arrays args s ++ Jvm.staticLocs frame_1_statics s) 32 256 → Post tb e args s (.returned v) u) :
    ArmFor flags0 classFile x code maxLocals ret World_1 tables_1 room_1 Calls_1 rest_1 Pre_1 Post := by
  intro l hfl _ _ p e ha hc hk s m args below hf hA hF happ hP
  obtain ⟨hcalls, hrest, hpre⟩ := hP
  obtain ⟨-, -, -, hnamed, -, -, -, hat⟩ := (Spec.applies_iff hf).mp happ
  obtain ⟨hg, hn⟩ := and_e (Cond.before_iff.mp (show (Jvm.Cond.and given_1 narrow_1).before args s = true from hpre))
  obtain ⟨hcount, r0⟩ := and_e hg
  obtain ⟨g0, r1⟩ := and_e r0
  obtain ⟨g1, r2⟩ := and_e r1
  obtain ⟨g2, r3⟩ := and_e r2
  obtain ⟨g3, r4⟩ := and_e r3
  obtain ⟨g4, g5⟩ := and_e r4
  obtain ⟨w0, w1, w2, w3, w4, w5, rfl⟩ : ∃ w0 w1 w2 w3 w4 w5 : Value, args = #[w0, w1, w2, w3, w4, w5] := by
    have hs : args.size = 6 := by simpa [Cond.value, given_1] using hcount
    obtain ⟨L⟩ := args
    match L, hs with
    | [w0, w1, w2, w3, w4, w5], _ => exact ⟨w0, w1, w2, w3, w4, w5, rfl⟩
  have hw := fun d (hd : d ∈ tables_1) => atoms_spec (ws := Jvm.Cond.code x code maxLocals ret :: tables_1) hat d (List.mem_cons_of_mem _ hd)
  have hfit : Fit s := fun {y c} hc i hi => by
    obtain ⟨ha, rfl⟩ := Array.getElem?_eq_some_iff.mp hc
    have q := List.all_eq_true.mp ((Array.all_eq_true_iff_forall_mem.mp hF) _ (Array.getElem_mem ha)) i (List.mem_range.mpr hi)
    simpa [Array.getElem?_eq_getElem hi] using q
  obtain ⟨hsets, hown0⟩ := atoms_of _ (rest_1_c_eq ▸ (show rest_1_c.before _ s = true from hrest))
  have hr0 := Cond.before_iff.mp hown0
  obtain ⟨i0, ei0⟩ := is_v g0
  obtain rfl : w0 = (.int i0) := Option.some.inj ei0
  obtain ⟨i1, ei1⟩ := is_v g1
  obtain rfl : w1 = (.int i1) := Option.some.inj ei1
  obtain ⟨i2, ei2⟩ := is_v g2
  obtain rfl : w2 = (.int i2) := Option.some.inj ei2
  obtain ⟨i3, ei3⟩ := is_v g3
  obtain rfl : w3 = (.int i3) := Option.some.inj ei3
  obtain ⟨i4, ei4⟩ := is_v g4
  obtain rfl : w4 = (.int i4) := Option.some.inj ei4
  obtain ⟨i5, ei5⟩ := is_v g5
  obtain rfl : w5 = (.int i5) := Option.some.inj ei5
  obtain ⟨dd, evdd⟩ := exa_v (Cond.before_iff.mp (hsets _ (List.mem_of_getElem? (i := 7) rfl)))
  have S_dd := Sta.start evdd (Or.inr ⟨hw _ (List.mem_of_getElem? (i := 32) rfl), hsets _ (List.mem_of_getElem? (i := 2) rfl)⟩)
  obtain ⟨n, o, h1, h2, h3, _, L, rfl, ⟨rfl, N⟩, hq⟩ := own_rm0 l s _ hw tables_1 i0 i1 i2 i3 i4 i5 s.heap s.heap.size dd (Old.start s) S_dd p e ha hc hk s m _ below hf ((Spec.applies_iff_loose hf).mp happ).1 ⟨rfl, State.Warmed39.refl s, rfl⟩ trivial
  refine ⟨n, _, h1, h2, h3, hpost _ _ _ _ _ _ ⟨Cond.after_iff.mpr rfl, Cond.after_iff.mpr (eq_i res_at (Term.int_eval (1)) rfl)⟩ ⟨hq.1, hq.2.1, (hq.2.2.sift fun y hy => Or.inr (N y hy)).mono (by decide) (by decide)⟩⟩
theorem main_1_1 : Claimed_1_1 := comes_1 fun _ _ _ _ _ _ h hF => ⟨h.1, hF⟩
theorem main_1_2 : Claimed_1_2 := comes_1 fun _ _ _ _ _ _ h hF => ⟨h.2, hF⟩
end Jvm.Pilot.@@N@@
namespace Jvm.Pilot.@@N@@
open Jvm Jvm.ClassFile Sem Op Lib Jvm.Free Jvm.Stand Jvm.Pilot.@@N@@.Jvm.D
/-! MADE BY PROGRAM (witnessworld.py) out of the Statement's table words and the real class files: 23 classes; the members and pool entries that the words name. The judged class is class 1, her method 1. -/
namespace start1
open Jvm.ClassFile
def u (s : String) : CpInfo := .utf8 (stringToUtf16 s)
/-- a pool by its gaps: so many unusable entries, then the entry; so many at the end -/
def gap : Nat → List CpInfo → List CpInfo
  | 0, r => r
  | n + 1, r => .unusable :: gap n r
def poolList (es : List (Nat × CpInfo)) (last : Nat) : List CpInfo := es.foldr (fun e r => gap e.1 (e.2 :: r)) (gap last [])
def pool (es : List (Nat × CpInfo)) (last : Nat) : Array CpInfo := ⟨poolList es last⟩
def fileOf (pool : Array CpInfo) (this : Nat) (attrs : Array Attribute := #[]) (ms : Array MethodInfo := #[]) (fl : Nat := 33) (sup : Nat := 0) (ifs : Array Nat := #[]) (fds : Array FieldInfo := #[]) : ClassFile where
  minorVersion := 0
  majorVersion := 65
  constantPool := pool
  accessFlags := fl
  thisClass := this
  superClass := sup
  interfaces := ifs
  fields := fds
  methods := ms
  attributes := attrs
def plain (name : String) (sup : Option ClassId) : Class where
  name := name
  kind := .ordinary
  loader := none
  accessFlags := 33
  super := sup
  interfaces := #[]
  cf := none
  fields := #[]
  methods := #[]
  instanceTypes := #[]
  staticTypes := #[]
  resolved := #[]
  callSites := []
  init := .initialized
  statics := none
  mirror := none

def pool0 : Array CpInfo := pool [(5, u "<init>"), (0, u "()V"), (1, .class_ 10), (1, u "java/lang/Object")] 113

def k0c0 : Code := { maxStack := 0, maxLocals := 1, code := object_method_1_code, exceptionTable := #[], attributes := #[] }
def k0m0 : Method := { name := "<init>", desc := "()V", sig := { parameters := [], returnType := none }, accessFlags := 1, code := some k0c0 }
/-- java/lang/Object -/
def k0 : Class := { plain "java/lang/Object" none with
  accessFlags := 33
  interfaces := #[]
  cf := some (fileOf pool0 8 #[] #[{ accessFlags := 1, nameIndex := 5, descriptorIndex := 6, attributes := #[] }] 33 0 #[] #[])
  fields := #[]
  methods := #[k0m0]
  instanceTypes := #[]
  staticTypes := #[]
  resolved := Array.replicate 124 none
  statics := none }

def pool1 : Array CpInfo := pool [(2, .class_ 4), (0, .nameAndType 5 6), (0, u "java/lang/Object"), (0, u "<init>"), (0, u "()V"), (0, .class_ 8), (0, u "com/example/obedient_dog/obedientdog/topologydiscovery/AgeLog"), (0, .class_ 10), (0, u "com/example/obedient_dog/obedientdog/topologydiscovery/LinkNumbers"), (0, .methodref 9 3), (0, .methodref 7 13), (0, .nameAndType 5 14), (0, u "(Lcom/example/obedient_dog/obedientdog/topologydiscovery/LinkNumbers;)V"), (0, .methodref 7 16), (0, .nameAndType 17 18), (0, u "raise"), (0, u "(II)Z"), (0, .methodref 7 20), (0, .nameAndType 21 22), (0, u "table"), (0, u "()Lcom/example/obedient_dog/obedientdog/topologydiscovery/AgeTable;"), (0, .methodref 7 24), (0, .nameAndType 25 26), (0, u "lastEntry"), (0, u "(II)I"), (0, .class_ 28), (0, u "com/example/obedient_dog/obedientdog/topologydiscovery/AgeLogLastEntryPinLaw"), (2, u "law"), (0, u "(IIIIII)Z")] 3

def k1m0 : Method := { name := "<init>", desc := "()V", sig := { parameters := [], returnType := none }, accessFlags := 1, code := none }
def k1c1 : Code := { maxStack := 4, maxLocals := 24, code := code, exceptionTable := #[], attributes := #[] }
def k1m1 : Method := { name := "law", desc := "(IIIIII)Z", sig := { parameters := [.int, .int, .int, .int, .int, .int], returnType := some .boolean }, accessFlags := 9, code := some k1c1 }
/-- com/example/obedient_dog/obedientdog/topologydiscovery/AgeLogLastEntryPinLaw -/
def k1 : Class := { plain "com/example/obedient_dog/obedientdog/topologydiscovery/AgeLogLastEntryPinLaw" (some 0) with
  accessFlags := 49
  interfaces := #[]
  cf := some (fileOf pool1 27 #[] #[{ accessFlags := 1, nameIndex := 5, descriptorIndex := 6, attributes := #[] }, { accessFlags := 9, nameIndex := 31, descriptorIndex := 32, attributes := #[] }] 49 2 #[] #[])
  fields := #[]
  methods := #[k1m0, k1m1]
  instanceTypes := #[]
  staticTypes := #[]
  resolved := Array.replicate 36 none
  statics := none }

def pool2 : Array CpInfo := pool [(1, .methodref 2 3), (0, .class_ 4), (0, .nameAndType 5 6), (0, u "java/lang/Object"), (0, u "<init>"), (0, u "()V"), (0, .class_ 8), (0, u "com/example/obedient_dog/obedientdog/topologydiscovery/AgeLog"), (0, .fieldref 7 10), (0, .nameAndType 11 12), (0, u "latest"), (0, u "[I"), (0, .fieldref 7 14), (0, .nameAndType 15 12), (0, u "raised"), (0, .fieldref 7 17), (0, .nameAndType 18 12), (0, u "ages"), (0, .fieldref 7 20), (0, .nameAndType 21 22), (0, u "numbers"), (0, u "Lcom/example/obedient_dog/obedientdog/topologydiscovery/LinkNumbers;"), (2, u "(Lcom/example/obedient_dog/obedientdog/topologydiscovery/LinkNumbers;)V"), (11, .class_ 39), (1, u "com/example/obedient_dog/obedientdog/topologydiscovery/AgeTable"), (7, u "(II)I"), (1, .class_ 51), (1, u "com/example/obedient_dog/obedientdog/topologydiscovery/LinkNumbers"), (0, u "size"), (7, .methodref 7 61), (0, .nameAndType 62 47), (0, u "append"), (0, .fieldref 7 64), (0, .nameAndType 52 65), (0, u "I"), (0, .methodref 7 67), (0, .nameAndType 68 69), (0, u "count"), (0, u "(III)V"), (0, .fieldref 7 71), (0, .nameAndType 72 73), (0, u "table"), (0, u "Lcom/example/obedient_dog/obedientdog/topologydiscovery/AgeTable;"), (0, .methodref 7 75), (0, .nameAndType 76 77), (0, u "add"), (0, u "(II)V"), (0, .fieldref 7 79), (0, .nameAndType 80 65), (0, u "sealed"), (0, .methodref 7 82), (0, .nameAndType 83 77), (0, u "chain"), (0, .fieldref 7 85), (0, .nameAndType 86 65), (0, u "entries"), (0, .fieldref 7 88), (0, .nameAndType 89 65), (0, u "present"), (0, .fieldref 7 91), (0, .nameAndType 92 65), (0, u "hash"), (0, .methodref 37 94), (0, .nameAndType 5 95), (0, u "(Lcom/example/obedient_dog/obedientdog/topologydiscovery/AgeLog;IIII)V"), (0, .fieldref 7 97), (0, .nameAndType 98 12), (0, u "earlier"), (0, .fieldref 7 100), (0, .nameAndType 101 12), (0, u "later"), (0, .methodref 49 103), (0, .nameAndType 92 104), (0, u "(I)I"), (0, u "FIRST_CAPACITY"), (8, u "raise"), (0, u "(II)Z"), (0, u "()Lcom/example/obedient_dog/obedientdog/topologydiscovery/AgeTable;"), (2, u "lastEntry")] 24

def k2c0 : Code := { maxStack := 2, maxLocals := 2, code := prog_39_method_1_code, exceptionTable := #[], attributes := #[] }
def k2m0 : Method := { name := "<init>", desc := "(Lcom/example/obedient_dog/obedientdog/topologydiscovery/LinkNumbers;)V", sig := { parameters := [(.object "com/example/obedient_dog/obedientdog/topologydiscovery/LinkNumbers")], returnType := none }, accessFlags := 0, code := some k2c0 }
def k2c1 : Code := { maxStack := 5, maxLocals := 3, code := prog_39_method_5_code, exceptionTable := #[], attributes := #[] }
def k2m1 : Method := { name := "add", desc := "(II)V", sig := { parameters := [.int, .int], returnType := none }, accessFlags := 0, code := some k2c1 }
def k2c2 : Code := { maxStack := 4, maxLocals := 6, code := prog_39_method_6_code, exceptionTable := #[], attributes := #[] }
def k2m2 : Method := { name := "raise", desc := "(II)Z", sig := { parameters := [.int, .int], returnType := some .boolean }, accessFlags := 0, code := some k2c2 }
def k2c3 : Code := { maxStack := 8, maxLocals := 1, code := prog_39_method_7_code, exceptionTable := #[], attributes := #[] }
def k2m3 : Method := { name := "table", desc := "()Lcom/example/obedient_dog/obedientdog/topologydiscovery/AgeTable;", sig := { parameters := [], returnType := some (.object "com/example/obedient_dog/obedientdog/topologydiscovery/AgeTable") }, accessFlags := 0, code := some k2c3 }
def k2c4 : Code := { maxStack := 2, maxLocals := 4, code := prog_39_method_9_code, exceptionTable := #[], attributes := #[] }
def k2m4 : Method := { name := "lastEntry", desc := "(II)I", sig := { parameters := [.int, .int], returnType := some .int }, accessFlags := 0, code := some k2c4 }
def k2c5 : Code := { maxStack := 3, maxLocals := 4, code := prog_39_method_13_code, exceptionTable := #[], attributes := #[] }
def k2m5 : Method := { name := "append", desc := "(II)I", sig := { parameters := [.int, .int], returnType := some .int }, accessFlags := 2, code := some k2c5 }
def k2c6 : Code := { maxStack := 4, maxLocals := 3, code := prog_39_method_14_code, exceptionTable := #[], attributes := #[] }
def k2m6 : Method := { name := "chain", desc := "(II)V", sig := { parameters := [.int, .int], returnType := none }, accessFlags := 2, code := some k2c6 }
def k2c7 : Code := { maxStack := 5, maxLocals := 4, code := prog_39_method_15_code, exceptionTable := #[], attributes := #[] }
def k2m7 : Method := { name := "count", desc := "(III)V", sig := { parameters := [.int, .int, .int], returnType := none }, accessFlags := 2, code := some k2c7 }
/-- com/example/obedient_dog/obedientdog/topologydiscovery/AgeLog -/
def k2 : Class := { plain "com/example/obedient_dog/obedientdog/topologydiscovery/AgeLog" (some 0) with
  accessFlags := 48
  interfaces := #[]
  cf := some (fileOf pool2 7 #[] #[{ accessFlags := 0, nameIndex := 5, descriptorIndex := 25, attributes := #[] }, { accessFlags := 0, nameIndex := 76, descriptorIndex := 77, attributes := #[] }, { accessFlags := 0, nameIndex := 114, descriptorIndex := 115, attributes := #[] }, { accessFlags := 0, nameIndex := 72, descriptorIndex := 116, attributes := #[] }, { accessFlags := 0, nameIndex := 119, descriptorIndex := 47, attributes := #[] }, { accessFlags := 2, nameIndex := 62, descriptorIndex := 47, attributes := #[] }, { accessFlags := 2, nameIndex := 83, descriptorIndex := 77, attributes := #[] }, { accessFlags := 2, nameIndex := 68, descriptorIndex := 69, attributes := #[] }] 48 2 #[] #[{ accessFlags := 26, nameIndex := 105, descriptorIndex := 65, attributes := #[] }, { accessFlags := 18, nameIndex := 21, descriptorIndex := 22, attributes := #[] }, { accessFlags := 2, nameIndex := 11, descriptorIndex := 12, attributes := #[] }, { accessFlags := 2, nameIndex := 15, descriptorIndex := 12, attributes := #[] }, { accessFlags := 2, nameIndex := 18, descriptorIndex := 12, attributes := #[] }, { accessFlags := 2, nameIndex := 98, descriptorIndex := 12, attributes := #[] }, { accessFlags := 2, nameIndex := 101, descriptorIndex := 12, attributes := #[] }, { accessFlags := 2, nameIndex := 86, descriptorIndex := 65, attributes := #[] }, { accessFlags := 2, nameIndex := 80, descriptorIndex := 65, attributes := #[] }, { accessFlags := 2, nameIndex := 52, descriptorIndex := 65, attributes := #[] }, { accessFlags := 2, nameIndex := 89, descriptorIndex := 65, attributes := #[] }, { accessFlags := 2, nameIndex := 92, descriptorIndex := 65, attributes := #[] }, { accessFlags := 2, nameIndex := 72, descriptorIndex := 73, attributes := #[] }])
  fields := #[{ name := "FIRST_CAPACITY", type := .int, accessFlags := 26, slot := 0, constantValue := 0 }, { name := "numbers", type := (.object "com/example/obedient_dog/obedientdog/topologydiscovery/LinkNumbers"), accessFlags := 18, slot := 0, constantValue := 0 }, { name := "latest", type := (.array .int), accessFlags := 2, slot := 1, constantValue := 0 }, { name := "raised", type := (.array .int), accessFlags := 2, slot := 2, constantValue := 0 }, { name := "ages", type := (.array .int), accessFlags := 2, slot := 3, constantValue := 0 }, { name := "earlier", type := (.array .int), accessFlags := 2, slot := 4, constantValue := 0 }, { name := "later", type := (.array .int), accessFlags := 2, slot := 5, constantValue := 0 }, { name := "entries", type := .int, accessFlags := 2, slot := 6, constantValue := 0 }, { name := "sealed", type := .int, accessFlags := 2, slot := 7, constantValue := 0 }, { name := "size", type := .int, accessFlags := 2, slot := 8, constantValue := 0 }, { name := "present", type := .int, accessFlags := 2, slot := 9, constantValue := 0 }, { name := "hash", type := .int, accessFlags := 2, slot := 10, constantValue := 0 }, { name := "table", type := (.object "com/example/obedient_dog/obedientdog/topologydiscovery/AgeTable"), accessFlags := 2, slot := 11, constantValue := 0 }]
  methods := #[k2m0, k2m1, k2m2, k2m3, k2m4, k2m5, k2m6, k2m7]
  instanceTypes := #[(.object "com/example/obedient_dog/obedientdog/topologydiscovery/LinkNumbers"), (.array .int), (.array .int), (.array .int), (.array .int), (.array .int), .int, .int, .int, .int, .int, (.object "com/example/obedient_dog/obedientdog/topologydiscovery/AgeTable")]
  staticTypes := #[.int]
  resolved := Array.replicate 144 none
  statics := none }

def pool3 : Array CpInfo := pool [(1, .methodref 2 3), (0, .class_ 4), (0, .nameAndType 5 6), (0, u "java/lang/Object"), (0, u "<init>"), (0, u "()V"), (0, .class_ 8), (0, u "java/util/HashMap"), (0, .methodref 7 3), (0, .fieldref 11 12), (0, .class_ 13), (0, .nameAndType 14 15), (0, u "com/example/obedient_dog/obedientdog/topologydiscovery/LinkNumbers"), (0, u "numbers"), (0, u "Ljava/util/Map;"), (0, .class_ 17), (0, u "java/util/ArrayList"), (0, .methodref 16 3), (0, .fieldref 11 20), (0, .nameAndType 21 22), (0, u "links"), (0, u "Ljava/util/List;"), (0, .fieldref 11 24), (0, .nameAndType 25 26), (0, u "hashes"), (0, u "[I"), (75, u "hash"), (0, u "(I)I")] 7

def k3c0 : Code := { maxStack := 3, maxLocals := 1, code := prog_46_method_1_code, exceptionTable := #[], attributes := #[] }
def k3m0 : Method := { name := "<init>", desc := "()V", sig := { parameters := [], returnType := none }, accessFlags := 0, code := some k3c0 }
def k3c1 : Code := { maxStack := 2, maxLocals := 2, code := prog_46_method_5_code, exceptionTable := #[], attributes := #[] }
def k3m1 : Method := { name := "hash", desc := "(I)I", sig := { parameters := [.int], returnType := some .int }, accessFlags := 0, code := some k3c1 }
/-- com/example/obedient_dog/obedientdog/topologydiscovery/LinkNumbers -/
def k3 : Class := { plain "com/example/obedient_dog/obedientdog/topologydiscovery/LinkNumbers" (some 0) with
  accessFlags := 48
  interfaces := #[]
  cf := some (fileOf pool3 11 #[] #[{ accessFlags := 0, nameIndex := 5, descriptorIndex := 6, attributes := #[] }, { accessFlags := 0, nameIndex := 102, descriptorIndex := 103, attributes := #[] }] 48 2 #[] #[{ accessFlags := 18, nameIndex := 14, descriptorIndex := 15, attributes := #[] }, { accessFlags := 18, nameIndex := 21, descriptorIndex := 22, attributes := #[] }, { accessFlags := 2, nameIndex := 25, descriptorIndex := 26, attributes := #[] }])
  fields := #[{ name := "numbers", type := (.object "java/util/Map"), accessFlags := 18, slot := 0, constantValue := 0 }, { name := "links", type := (.object "java/util/List"), accessFlags := 18, slot := 1, constantValue := 0 }, { name := "hashes", type := (.array .int), accessFlags := 2, slot := 2, constantValue := 0 }]
  methods := #[k3m0, k3m1]
  instanceTypes := #[(.object "java/util/Map"), (.object "java/util/List"), (.array .int)]
  staticTypes := #[]
  resolved := Array.replicate 111 none
  statics := none }

def pool4 : Array CpInfo := pool [(2, .class_ 4), (1, u "java/util/Map"), (31, .class_ 37), (0, u "java/util/Map$Entry"), (55, .class_ 94), (0, u "java/lang/Object")] 168

/-- java/util/Map -/
def k4 : Class := { plain "java/util/Map" (some 0) with
  accessFlags := 1537
  interfaces := #[]
  cf := some (fileOf pool4 2 #[.nestMembers #[36]] #[] 1537 93 #[] #[])
  fields := #[]
  methods := #[]
  instanceTypes := #[]
  staticTypes := #[]
  resolved := Array.replicate 263 none
  statics := none }

def pool5 : Array CpInfo := pool [(1, .methodref 2 3), (0, .class_ 4), (0, .nameAndType 5 6), (0, u "java/lang/Object"), (0, u "<init>"), (0, u "()V"), (1, .class_ 10), (1, u "java/util/AbstractMap"), (42, .class_ 54), (0, u "java/util/Map"), (9, u "keySet"), (0, u "Ljava/util/Set;"), (0, .class_ 67), (0, u "java/util/AbstractMap$1"), (5, u "values"), (0, u "Ljava/util/Collection;"), (0, .class_ 76), (0, u "java/util/AbstractMap$2"), (104, .class_ 182), (0, u "java/util/AbstractMap$ViewCollection"), (0, .class_ 184), (0, u "java/util/AbstractMap$SimpleImmutableEntry"), (0, .class_ 186), (0, u "java/util/AbstractMap$SimpleEntry"), (0, .class_ 188), (0, u "java/util/AbstractMap$2$1"), (0, .class_ 190), (0, u "java/util/AbstractMap$1$1")] 5

def k5c0 : Code := { maxStack := 1, maxLocals := 1, code := jdk_71_method_1_code, exceptionTable := #[], attributes := #[] }
def k5m0 : Method := { name := "<init>", desc := "()V", sig := { parameters := [], returnType := none }, accessFlags := 4, code := some k5c0 }
/-- java/util/AbstractMap -/
def k5 : Class := { plain "java/util/AbstractMap" (some 0) with
  accessFlags := 1057
  interfaces := #[4]
  cf := some (fileOf pool5 8 #[.nestMembers #[181, 183, 185, 75, 187, 66, 189]] #[{ accessFlags := 4, nameIndex := 5, descriptorIndex := 6, attributes := #[] }] 1057 2 #[53] #[{ accessFlags := 128, nameIndex := 64, descriptorIndex := 65, attributes := #[] }, { accessFlags := 128, nameIndex := 73, descriptorIndex := 74, attributes := #[] }])
  fields := #[{ name := "keySet", type := (.object "java/util/Set"), accessFlags := 128, slot := 0, constantValue := 0 }, { name := "values", type := (.object "java/util/Collection"), accessFlags := 128, slot := 1, constantValue := 0 }]
  methods := #[k5m0]
  instanceTypes := #[(.object "java/util/Set"), (.object "java/util/Collection")]
  staticTypes := #[]
  resolved := Array.replicate 196 none
  statics := none }

def pool6 : Array CpInfo := pool [(1, .class_ 2), (0, u "java/lang/Cloneable"), (0, .class_ 4), (0, u "java/lang/Object")] 2

/-- java/lang/Cloneable -/
def k6 : Class := { plain "java/lang/Cloneable" (some 0) with
  accessFlags := 1537
  interfaces := #[]
  cf := some (fileOf pool6 1 #[] #[] 1537 3 #[] #[])
  fields := #[]
  methods := #[]
  instanceTypes := #[]
  staticTypes := #[]
  resolved := Array.replicate 7 none
  statics := none }

def pool7 : Array CpInfo := pool [(1, .class_ 2), (0, u "java/io/Serializable"), (0, .class_ 4), (0, u "java/lang/Object")] 2

/-- java/io/Serializable -/
def k7 : Class := { plain "java/io/Serializable" (some 0) with
  accessFlags := 1537
  interfaces := #[]
  cf := some (fileOf pool7 1 #[] #[] 1537 3 #[] #[])
  fields := #[]
  methods := #[]
  instanceTypes := #[]
  staticTypes := #[]
  resolved := Array.replicate 7 none
  statics := none }

def pool8 : Array CpInfo := pool [(40, .class_ 41), (0, u "java/util/HashMap"), (1, .methodref 44 45), (0, .class_ 46), (0, .nameAndType 47 48), (0, u "java/util/AbstractMap"), (0, u "<init>"), (0, u "()V"), (32, .fieldref 40 82), (0, .nameAndType 83 84), (0, u "loadFactor"), (0, u "F"), (5, u "threshold"), (0, u "I"), (0, .float 1061158912), (8, .class_ 103), (1, u "java/util/Map"), (0, u "size"), (2, u "table"), (0, u "[Ljava/util/HashMap$Node;"), (14, u "entrySet"), (39, .class_ 165), (1, u "java/util/HashMap$Node"), (14, .class_ 181), (0, u "java/util/HashMap$TreeNode"), (22, u "modCount"), (37, u "Ljava/util/Set;"), (0, .class_ 244), (0, u "java/util/HashMap$KeySet"), (18, .class_ 264), (0, u "java/util/HashMap$Values"), (3, .class_ 269), (0, u "java/util/HashMap$EntrySet"), (76, .class_ 348), (1, u "java/util/HashMap$UnsafeHolder"), (43, .class_ 393), (0, u "java/lang/Cloneable"), (0, .class_ 395), (0, u "java/io/Serializable"), (0, u "serialVersionUID"), (0, u "J"), (3, u "DEFAULT_INITIAL_CAPACITY"), (1, u "MAXIMUM_CAPACITY"), (0, u "DEFAULT_LOAD_FACTOR"), (0, u "TREEIFY_THRESHOLD"), (1, u "UNTREEIFY_THRESHOLD"), (1, u "MIN_TREEIFY_CAPACITY"), (186, .class_ 597), (0, u "java/util/HashMap$EntrySpliterator"), (0, .class_ 599), (0, u "java/util/HashMap$ValueSpliterator"), (0, .class_ 601), (0, u "java/util/HashMap$KeySpliterator"), (0, .class_ 603), (0, u "java/util/HashMap$HashMapSpliterator"), (0, .class_ 605), (0, u "java/util/HashMap$EntryIterator"), (0, .class_ 607), (0, u "java/util/HashMap$ValueIterator"), (0, .class_ 609), (0, u "java/util/HashMap$KeyIterator"), (0, .class_ 611), (0, u "java/util/HashMap$HashIterator")] 17

def k8c0 : Code := { maxStack := 2, maxLocals := 1, code := jdk_69_method_7_code, exceptionTable := #[], attributes := #[] }
def k8m0 : Method := { name := "<init>", desc := "()V", sig := { parameters := [], returnType := none }, accessFlags := 1, code := some k8c0 }
/-- java/util/HashMap -/
def k8 : Class := { plain "java/util/HashMap" (some 5) with
  accessFlags := 33
  interfaces := #[4, 6, 7]
  cf := some (fileOf pool8 40 #[.nestMembers #[180, 596, 598, 600, 602, 604, 606, 608, 610, 346, 268, 263, 243, 163]] #[{ accessFlags := 1, nameIndex := 47, descriptorIndex := 48, attributes := #[] }] 33 44 #[101, 392, 394] #[{ accessFlags := 26, nameIndex := 396, descriptorIndex := 397, attributes := #[] }, { accessFlags := 24, nameIndex := 401, descriptorIndex := 91, attributes := #[] }, { accessFlags := 24, nameIndex := 403, descriptorIndex := 91, attributes := #[] }, { accessFlags := 24, nameIndex := 404, descriptorIndex := 84, attributes := #[] }, { accessFlags := 24, nameIndex := 405, descriptorIndex := 91, attributes := #[] }, { accessFlags := 24, nameIndex := 407, descriptorIndex := 91, attributes := #[] }, { accessFlags := 24, nameIndex := 409, descriptorIndex := 91, attributes := #[] }, { accessFlags := 128, nameIndex := 107, descriptorIndex := 108, attributes := #[] }, { accessFlags := 128, nameIndex := 123, descriptorIndex := 242, attributes := #[] }, { accessFlags := 128, nameIndex := 104, descriptorIndex := 91, attributes := #[] }, { accessFlags := 128, nameIndex := 204, descriptorIndex := 91, attributes := #[] }, { accessFlags := 0, nameIndex := 90, descriptorIndex := 91, attributes := #[] }, { accessFlags := 16, nameIndex := 83, descriptorIndex := 84, attributes := #[] }])
  fields := #[{ name := "serialVersionUID", type := .long, accessFlags := 26, slot := 0, constantValue := 0 }, { name := "DEFAULT_INITIAL_CAPACITY", type := .int, accessFlags := 24, slot := 1, constantValue := 0 }, { name := "MAXIMUM_CAPACITY", type := .int, accessFlags := 24, slot := 2, constantValue := 0 }, { name := "DEFAULT_LOAD_FACTOR", type := .float, accessFlags := 24, slot := 3, constantValue := 0 }, { name := "TREEIFY_THRESHOLD", type := .int, accessFlags := 24, slot := 4, constantValue := 0 }, { name := "UNTREEIFY_THRESHOLD", type := .int, accessFlags := 24, slot := 5, constantValue := 0 }, { name := "MIN_TREEIFY_CAPACITY", type := .int, accessFlags := 24, slot := 6, constantValue := 0 }, { name := "table", type := (.array (.object "java/util/HashMap$Node")), accessFlags := 128, slot := 2, constantValue := 0 }, { name := "entrySet", type := (.object "java/util/Set"), accessFlags := 128, slot := 3, constantValue := 0 }, { name := "size", type := .int, accessFlags := 128, slot := 4, constantValue := 0 }, { name := "modCount", type := .int, accessFlags := 128, slot := 5, constantValue := 0 }, { name := "threshold", type := .int, accessFlags := 0, slot := 6, constantValue := 0 }, { name := "loadFactor", type := .float, accessFlags := 16, slot := 7, constantValue := 0 }]
  methods := #[k8m0]
  instanceTypes := #[(.object "java/util/Set"), (.object "java/util/Collection"), (.array (.object "java/util/HashMap$Node")), (.object "java/util/Set"), .int, .int, .int, .float]
  staticTypes := #[.long, .int, .int, .float, .int, .int, .int]
  resolved := Array.replicate 629 none
  statics := none }

def pool9 : Array CpInfo := pool [(8, .class_ 10), (1, u "java/lang/Iterable"), (24, .class_ 36), (0, u "java/lang/Object")] 25

/-- java/lang/Iterable -/
def k9 : Class := { plain "java/lang/Iterable" (some 0) with
  accessFlags := 1537
  interfaces := #[]
  cf := some (fileOf pool9 8 #[] #[] 1537 35 #[] #[])
  fields := #[]
  methods := #[]
  instanceTypes := #[]
  staticTypes := #[]
  resolved := Array.replicate 62 none
  statics := none }

def pool10 : Array CpInfo := pool [(10, .class_ 12), (1, u "java/util/Collection"), (47, .class_ 61), (0, u "java/lang/Object"), (0, .class_ 63), (0, u "java/lang/Iterable")] 51

/-- java/util/Collection -/
def k10 : Class := { plain "java/util/Collection" (some 0) with
  accessFlags := 1537
  interfaces := #[9]
  cf := some (fileOf pool10 10 #[] #[] 1537 60 #[62] #[])
  fields := #[]
  methods := #[]
  instanceTypes := #[]
  staticTypes := #[]
  resolved := Array.replicate 115 none
  statics := none }

def pool11 : Array CpInfo := pool [(1, .methodref 2 3), (0, .class_ 4), (0, .nameAndType 5 6), (0, u "java/lang/Object"), (0, u "<init>"), (0, u "()V"), (1, .class_ 10), (1, u "java/util/AbstractCollection"), (66, .class_ 78), (0, u "java/util/Collection")] 81

def k11c0 : Code := { maxStack := 1, maxLocals := 1, code := jdk_22_method_1_code, exceptionTable := #[], attributes := #[] }
def k11m0 : Method := { name := "<init>", desc := "()V", sig := { parameters := [], returnType := none }, accessFlags := 4, code := some k11c0 }
/-- java/util/AbstractCollection -/
def k11 : Class := { plain "java/util/AbstractCollection" (some 0) with
  accessFlags := 1057
  interfaces := #[10]
  cf := some (fileOf pool11 8 #[] #[{ accessFlags := 4, nameIndex := 5, descriptorIndex := 6, attributes := #[] }] 1057 2 #[77] #[])
  fields := #[]
  methods := #[k11m0]
  instanceTypes := #[]
  staticTypes := #[]
  resolved := Array.replicate 160 none
  statics := none }

def pool12 : Array CpInfo := pool [(8, .class_ 10), (1, u "java/util/SequencedCollection"), (15, .class_ 27), (0, u "java/lang/Object"), (0, .class_ 29), (0, u "java/util/Collection")] 27

/-- java/util/SequencedCollection -/
def k12 : Class := { plain "java/util/SequencedCollection" (some 0) with
  accessFlags := 1537
  interfaces := #[10]
  cf := some (fileOf pool12 8 #[] #[] 1537 26 #[28] #[])
  fields := #[]
  methods := #[]
  instanceTypes := #[]
  staticTypes := #[]
  resolved := Array.replicate 57 none
  statics := none }

def pool13 : Array CpInfo := pool [(8, .class_ 10), (1, u "java/util/List"), (92, .class_ 104), (0, u "java/lang/Object"), (15, .class_ 121), (0, u "java/util/SequencedCollection")] 129

/-- java/util/List -/
def k13 : Class := { plain "java/util/List" (some 0) with
  accessFlags := 1537
  interfaces := #[12]
  cf := some (fileOf pool13 8 #[] #[] 1537 103 #[120] #[])
  fields := #[]
  methods := #[]
  instanceTypes := #[]
  staticTypes := #[]
  resolved := Array.replicate 251 none
  statics := none }

def pool14 : Array CpInfo := pool [(1, .methodref 2 3), (0, .class_ 4), (0, .nameAndType 5 6), (0, u "java/util/AbstractCollection"), (0, u "<init>"), (0, u "()V"), (0, .fieldref 8 9), (0, .class_ 10), (0, .nameAndType 11 12), (0, u "java/util/AbstractList"), (0, u "modCount"), (0, u "I"), (64, .class_ 78), (0, u "java/util/AbstractList$Itr"), (3, .class_ 83), (0, u "java/util/AbstractList$ListItr"), (9, .class_ 94), (0, u "java/util/AbstractList$RandomAccessSubList"), (3, .class_ 99), (0, u "java/util/AbstractList$SubList"), (33, .class_ 134), (0, u "java/util/List"), (73, .class_ 209), (0, u "java/util/AbstractList$SubList$1"), (0, .class_ 211), (0, u "java/util/AbstractList$RandomAccessSpliterator")] 6

def k14c0 : Code := { maxStack := 2, maxLocals := 1, code := jdk_39_method_1_code, exceptionTable := #[], attributes := #[] }
def k14m0 : Method := { name := "<init>", desc := "()V", sig := { parameters := [], returnType := none }, accessFlags := 4, code := some k14c0 }
/-- java/util/AbstractList -/
def k14 : Class := { plain "java/util/AbstractList" (some 11) with
  accessFlags := 1057
  interfaces := #[13]
  cf := some (fileOf pool14 8 #[.nestMembers #[93, 98, 208, 210, 82, 77]] #[{ accessFlags := 4, nameIndex := 5, descriptorIndex := 6, attributes := #[] }] 1057 2 #[133] #[{ accessFlags := 132, nameIndex := 11, descriptorIndex := 12, attributes := #[] }])
  fields := #[{ name := "modCount", type := .int, accessFlags := 132, slot := 0, constantValue := 0 }]
  methods := #[k14m0]
  instanceTypes := #[.int]
  staticTypes := #[]
  resolved := Array.replicate 218 none
  statics := none }

def pool15 : Array CpInfo := pool [(1, .class_ 2), (0, u "java/util/RandomAccess"), (0, .class_ 4), (0, u "java/lang/Object")] 2

/-- java/util/RandomAccess -/
def k15 : Class := { plain "java/util/RandomAccess" (some 0) with
  accessFlags := 1537
  interfaces := #[]
  cf := some (fileOf pool15 1 #[] #[] 1537 3 #[] #[])
  fields := #[]
  methods := #[]
  instanceTypes := #[]
  staticTypes := #[]
  resolved := Array.replicate 7 none
  statics := none }

def pool16 : Array CpInfo := pool [(1, .methodref 2 3), (0, .class_ 4), (0, .nameAndType 5 6), (0, u "java/util/AbstractList"), (0, u "<init>"), (0, u "()V"), (2, .fieldref 10 11), (0, .class_ 12), (0, .nameAndType 13 14), (0, u "java/util/ArrayList"), (0, u "elementData"), (0, u "[Ljava/lang/Object;"), (2, u "EMPTY_ELEMENTDATA"), (21, .fieldref 10 40), (0, .nameAndType 41 14), (0, u "DEFAULTCAPACITY_EMPTY_ELEMENTDATA"), (8, u "size"), (0, u "I"), (96, .class_ 149), (0, u "java/util/List"), (112, .class_ 263), (0, u "java/util/ArrayList$ListItr"), (3, .class_ 268), (0, u "java/util/ArrayList$Itr"), (7, .class_ 277), (0, u "java/util/ArrayList$SubList"), (12, .class_ 291), (0, u "java/util/ArrayList$ArrayListSpliterator"), (37, .class_ 330), (0, u "java/util/RandomAccess"), (0, .class_ 332), (0, u "java/lang/Cloneable"), (0, .class_ 334), (0, u "java/io/Serializable"), (0, u "serialVersionUID"), (0, u "J"), (3, u "DEFAULT_CAPACITY"), (159, .class_ 501), (0, u "java/util/ArrayList$SubList$2"), (0, .class_ 503), (0, u "java/util/ArrayList$SubList$1")] 5

def k16c0 : Code := { maxStack := 2, maxLocals := 1, code := jdk_38_method_2_code, exceptionTable := #[], attributes := #[] }
def k16m0 : Method := { name := "<init>", desc := "()V", sig := { parameters := [], returnType := none }, accessFlags := 1, code := some k16c0 }
/-- java/util/ArrayList -/
def k16 : Class := { plain "java/util/ArrayList" (some 14) with
  accessFlags := 33
  interfaces := #[13, 15, 6, 7]
  cf := some (fileOf pool16 10 #[.nestMembers #[290, 276, 500, 502, 262, 267]] #[{ accessFlags := 1, nameIndex := 5, descriptorIndex := 6, attributes := #[] }] 33 2 #[148, 329, 331, 333] #[{ accessFlags := 26, nameIndex := 335, descriptorIndex := 336, attributes := #[] }, { accessFlags := 26, nameIndex := 340, descriptorIndex := 51, attributes := #[] }, { accessFlags := 26, nameIndex := 17, descriptorIndex := 14, attributes := #[] }, { accessFlags := 26, nameIndex := 41, descriptorIndex := 14, attributes := #[] }, { accessFlags := 128, nameIndex := 13, descriptorIndex := 14, attributes := #[] }, { accessFlags := 2, nameIndex := 50, descriptorIndex := 51, attributes := #[] }])
  fields := #[{ name := "serialVersionUID", type := .long, accessFlags := 26, slot := 0, constantValue := 0 }, { name := "DEFAULT_CAPACITY", type := .int, accessFlags := 26, slot := 1, constantValue := 0 }, { name := "EMPTY_ELEMENTDATA", type := (.array (.object "java/lang/Object")), accessFlags := 26, slot := 2, constantValue := 0 }, { name := "DEFAULTCAPACITY_EMPTY_ELEMENTDATA", type := (.array (.object "java/lang/Object")), accessFlags := 26, slot := 3, constantValue := 0 }, { name := "elementData", type := (.array (.object "java/lang/Object")), accessFlags := 128, slot := 1, constantValue := 0 }, { name := "size", type := .int, accessFlags := 2, slot := 2, constantValue := 0 }]
  methods := #[k16m0]
  instanceTypes := #[.int, (.array (.object "java/lang/Object")), .int]
  staticTypes := #[.long, .int, (.array (.object "java/lang/Object")), (.array (.object "java/lang/Object"))]
  resolved := Array.replicate 509 none
  statics := some 0 }

def pool17 : Array CpInfo := pool [(1, .methodref 2 3), (0, .class_ 4), (0, .nameAndType 5 6), (0, u "java/util/AbstractMap"), (0, u "<init>"), (0, u "()V"), (0, .fieldref 8 9), (0, .class_ 10), (0, .nameAndType 11 12), (0, u "com/example/obedient_dog/obedientdog/topologydiscovery/AgeTable"), (0, u "log"), (0, u "Lcom/example/obedient_dog/obedientdog/topologydiscovery/AgeLog;"), (0, .fieldref 8 14), (0, .nameAndType 15 16), (0, u "end"), (0, u "I"), (0, .fieldref 8 18), (0, .nameAndType 19 16), (0, u "size"), (0, .fieldref 8 21), (0, .nameAndType 22 16), (0, u "present"), (0, .fieldref 8 24), (0, .nameAndType 25 16), (0, u "hash"), (101, .class_ 129), (1, u "com/example/obedient_dog/obedientdog/topologydiscovery/AgeTable$Visitor"), (10, .class_ 142), (1, u "com/example/obedient_dog/obedientdog/topologydiscovery/AgeTable$Condition"), (11, .class_ 155), (0, u "com/example/obedient_dog/obedientdog/topologydiscovery/AgeTable$1"), (26, u "(Lcom/example/obedient_dog/obedientdog/topologydiscovery/AgeLog;IIII)V"), (27, .class_ 211), (0, u "com/example/obedient_dog/obedientdog/topologydiscovery/AgeTable$Entries")] 31

def k17c0 : Code := { maxStack := 2, maxLocals := 6, code := prog_41_method_1_code, exceptionTable := #[], attributes := #[] }
def k17m0 : Method := { name := "<init>", desc := "(Lcom/example/obedient_dog/obedientdog/topologydiscovery/AgeLog;IIII)V", sig := { parameters := [(.object "com/example/obedient_dog/obedientdog/topologydiscovery/AgeLog"), .int, .int, .int, .int], returnType := none }, accessFlags := 0, code := some k17c0 }
/-- com/example/obedient_dog/obedientdog/topologydiscovery/AgeTable -/
def k17 : Class := { plain "com/example/obedient_dog/obedientdog/topologydiscovery/AgeTable" (some 5) with
  accessFlags := 48
  interfaces := #[]
  cf := some (fileOf pool17 8 #[.nestMembers #[210, 140, 127, 154]] #[{ accessFlags := 0, nameIndex := 5, descriptorIndex := 182, attributes := #[] }] 48 2 #[] #[{ accessFlags := 18, nameIndex := 11, descriptorIndex := 12, attributes := #[] }, { accessFlags := 18, nameIndex := 15, descriptorIndex := 16, attributes := #[] }, { accessFlags := 18, nameIndex := 19, descriptorIndex := 16, attributes := #[] }, { accessFlags := 18, nameIndex := 22, descriptorIndex := 16, attributes := #[] }, { accessFlags := 18, nameIndex := 25, descriptorIndex := 16, attributes := #[] }])
  fields := #[{ name := "log", type := (.object "com/example/obedient_dog/obedientdog/topologydiscovery/AgeLog"), accessFlags := 18, slot := 2, constantValue := 0 }, { name := "end", type := .int, accessFlags := 18, slot := 3, constantValue := 0 }, { name := "size", type := .int, accessFlags := 18, slot := 4, constantValue := 0 }, { name := "present", type := .int, accessFlags := 18, slot := 5, constantValue := 0 }, { name := "hash", type := .int, accessFlags := 18, slot := 6, constantValue := 0 }]
  methods := #[k17m0]
  instanceTypes := #[(.object "java/util/Set"), (.object "java/util/Collection"), (.object "com/example/obedient_dog/obedientdog/topologydiscovery/AgeLog"), .int, .int, .int, .int]
  staticTypes := #[]
  resolved := Array.replicate 243 none
  statics := none }

/-- the primitive byte -/
def k18 : Class := { plain "byte" none with kind := .primitive 'B', accessFlags := 0x411 }
/-- [B -/
def k19 : Class := { plain "[B" (some 0) with kind := .array 18 .byte, interfaces := #[6, 7], accessFlags := 1041 }

/-- the primitive int -/
def k20 : Class := { plain "int" none with kind := .primitive 'I', accessFlags := 0x411 }
/-- [I -/
def k21 : Class := { plain "[I" (some 0) with kind := .array 20 .int, interfaces := #[6, 7], accessFlags := 1041 }

/-- [Ljava/lang/Object; -/
def k22 : Class := { plain "[Ljava/lang/Object;" (some 0) with kind := .array 0 (.object "java/lang/Object"), interfaces := #[6, 7], accessFlags := 1041 }

def heap : Heap := #[{ cls := 16, slots := #[.long 0, .int 0, .ref 1, .ref 2], vm := .statics 16 },
  { cls := 22, slots := #[], vm := .none },
  { cls := 22, slots := #[], vm := .none }]
def classes : Array Class := #[k0, k1, k2, k3, k4, k5, k6, k7, k8, k9, k10, k11, k12, k13, k14, k15, k16, k17, k18, k19, k20, k21, k22]
def interned : List (Array UInt16 × Addr) := []
def slotsUsed : Nat := 4
def theMethod : MethodId := ⟨1, 1⟩
def args0 : Array Value := #[.int 1, .int 2, .int 1, .int 1, .int 2, .int 4]
def aboutOver (below : List Frame) : State where
  vm := { classes := classes, interned := interned.toArray }
  heap := heap
  slotsUsed := slotsUsed
  threads := #[{ frames := .invoking theMethod args0 :: below }]
def below0 : List Frame := [.native { method := ⟨0, 0⟩, args := #[] }]
def about1 : State := aboutOver below0
def p0 : Program := .bare "" "" ""
def e0 : Env := launch0.env 0 0 0
theorem w_frames : about1.frames = Frame.invoking theMethod args0 :: below0 := rfl
set_option maxRecDepth 65536 in
theorem w_args : argsFit about1.vm theMethod args0 = true := by decide +kernel
set_option maxRecDepth 65536 in
theorem w_heap : heapFits about1 = true := by decide +kernel
set_option maxRecDepth 65536 in
theorem w_runnable : about1.curStatus? = some .runnable := by decide +kernel
set_option maxRecDepth 65536 in
theorem w_alone : about1.alone = true := by decide +kernel
set_option maxRecDepth 65536 in
theorem w_named : about1.methodNamed? x = some theMethod := by decide +kernel
set_option maxRecDepth 65536 in
theorem w_hears : about1.hears theMethod below0 = true := by decide +kernel
set_option maxRecDepth 65536 in
theorem w_ripe : about1.ripe theMethod args0 below0 = true := by decide +kernel
theorem w_running : about1.status = .running := rfl
set_option maxRecDepth 65536 in
theorem w_room : about1.hasRoom e0.platform room_1 = true :=
  launch0.hasRoom_least _ room_1 (by decide +kernel) (by decide +kernel) (by decide +kernel) (by decide +kernel) (by decide +kernel) (by decide +kernel)
theorem allAtoms_all (ts : List Jvm.Cond) (a : Array Jvm.Value) (st : Jvm.State) : (allAtoms ts).before a st = ts.all (fun c => c.before a st) := by
  induction ts with
  | nil => rfl
  | cons c t ih =>
    show (Jvm.Cond.and c (allAtoms t)).before a st = _
    rw [Jvm.Cond.before_and, ih, List.all_cons]
def words1 : List Jvm.Cond := Jvm.Cond.code x code maxLocals ret :: tables_1
/-- a 'code' word, met by the world's own term for the bytes: nothing is compared byte by byte -/
theorem code_word {y : MethodName} {bytes : ByteArray} {mx : Nat} {rt : Option FieldType} {a : Array Value} {s : State} {m : MethodId} {meth : Method} {c : Code} (h1 : s.methodNamed? y = some m) (h2 : s.vm.method? m = some meth) (h3 : meth.code = some c) (h4 : c.code = bytes)
    (h5 : (c.maxLocals == mx && c.exceptionTable.isEmpty && decide (c.maxStack ≤ mostOperands) && decide (meth.sig.returnType = rt) && !meth.locks && decide (parseMethodDescriptor y.desc = some meth.sig)) = true) : (Jvm.Cond.code y bytes mx rt).before a s = true := by
  simp only [Bool.and_eq_true, beq_iff_eq, Bool.not_eq_true', decide_eq_true_eq] at h5
  obtain ⟨⟨⟨⟨⟨g1, g2⟩, g3⟩, g4⟩, g5⟩, g6⟩ := h5
  simp [Cond.before, Cond.holds, Cond.value, h1, h2, h3, h4, g1, g2, g3, g4, g5, g6]
def isCode : Jvm.Cond → Bool
  | .code _ _ _ _ => true
  | _ => false
theorem all_split {L : List Jvm.Cond} {P : Jvm.Cond → Bool} (h1 : L.all (fun c => isCode c || P c) = true) (h2 : ∀ c ∈ L.filter isCode, P c = true) : L.all P = true := by
  refine List.all_eq_true.mpr fun c hc => ?_
  have h := List.all_eq_true.mp h1 c hc
  rcases Bool.eq_false_or_eq_true (isCode c) with hi | hi
  · exact h2 c (List.mem_filter.mpr ⟨hc, hi⟩)
  · simpa [hi] using h
set_option maxRecDepth 65536 in
theorem w_c0 : (Jvm.Cond.code x code maxLocals ret).before args0 about1 = true := code_word (m := ⟨1, 1⟩) (meth := k1m1) (c := k1c1) (by decide +kernel) rfl rfl rfl (by decide +kernel)
set_option maxRecDepth 65536 in
theorem w_c1 : (Jvm.Cond.code ({ cls := "com/example/obedient_dog/obedientdog/topologydiscovery/LinkNumbers", name := "<init>", desc := "()V" } : Jvm.MethodName) prog_46_method_1_code (1 : Nat) (Option.none : Option Jvm.ClassFile.FieldType)).before args0 about1 = true := code_word (m := ⟨3, 0⟩) (meth := k3m0) (c := k3c0) (by decide +kernel) rfl rfl rfl (by decide +kernel)
set_option maxRecDepth 65536 in
theorem w_c2 : (Jvm.Cond.code ({ cls := "java/lang/Object", name := "<init>", desc := "()V" } : Jvm.MethodName) object_method_1_code (1 : Nat) (Option.none : Option Jvm.ClassFile.FieldType)).before args0 about1 = true := code_word (m := ⟨0, 0⟩) (meth := k0m0) (c := k0c0) (by decide +kernel) rfl rfl rfl (by decide +kernel)
set_option maxRecDepth 65536 in
theorem w_c3 : (Jvm.Cond.code ({ cls := "java/util/HashMap", name := "<init>", desc := "()V" } : Jvm.MethodName) jdk_69_method_7_code (1 : Nat) (Option.none : Option Jvm.ClassFile.FieldType)).before args0 about1 = true := code_word (m := ⟨8, 0⟩) (meth := k8m0) (c := k8c0) (by decide +kernel) rfl rfl rfl (by decide +kernel)
set_option maxRecDepth 65536 in
theorem w_c4 : (Jvm.Cond.code ({ cls := "java/util/AbstractMap", name := "<init>", desc := "()V" } : Jvm.MethodName) jdk_71_method_1_code (1 : Nat) (Option.none : Option Jvm.ClassFile.FieldType)).before args0 about1 = true := code_word (m := ⟨5, 0⟩) (meth := k5m0) (c := k5c0) (by decide +kernel) rfl rfl rfl (by decide +kernel)
set_option maxRecDepth 65536 in
theorem w_c5 : (Jvm.Cond.code ({ cls := "java/util/ArrayList", name := "<init>", desc := "()V" } : Jvm.MethodName) jdk_38_method_2_code (1 : Nat) (Option.none : Option Jvm.ClassFile.FieldType)).before args0 about1 = true := code_word (m := ⟨16, 0⟩) (meth := k16m0) (c := k16c0) (by decide +kernel) rfl rfl rfl (by decide +kernel)
set_option maxRecDepth 65536 in
theorem w_c6 : (Jvm.Cond.code ({ cls := "java/util/AbstractList", name := "<init>", desc := "()V" } : Jvm.MethodName) jdk_39_method_1_code (1 : Nat) (Option.none : Option Jvm.ClassFile.FieldType)).before args0 about1 = true := code_word (m := ⟨14, 0⟩) (meth := k14m0) (c := k14c0) (by decide +kernel) rfl rfl rfl (by decide +kernel)
set_option maxRecDepth 65536 in
theorem w_c7 : (Jvm.Cond.code ({ cls := "java/util/AbstractCollection", name := "<init>", desc := "()V" } : Jvm.MethodName) jdk_22_method_1_code (1 : Nat) (Option.none : Option Jvm.ClassFile.FieldType)).before args0 about1 = true := code_word (m := ⟨11, 0⟩) (meth := k11m0) (c := k11c0) (by decide +kernel) rfl rfl rfl (by decide +kernel)
set_option maxRecDepth 65536 in
theorem w_c8 : (Jvm.Cond.code ({ cls := "com/example/obedient_dog/obedientdog/topologydiscovery/AgeLog", name := "<init>", desc := "(Lcom/example/obedient_dog/obedientdog/topologydiscovery/LinkNumbers;)V" } : Jvm.MethodName) prog_39_method_1_code (2 : Nat) (Option.none : Option Jvm.ClassFile.FieldType)).before args0 about1 = true := code_word (m := ⟨2, 0⟩) (meth := k2m0) (c := k2c0) (by decide +kernel) rfl rfl rfl (by decide +kernel)
set_option maxRecDepth 65536 in
theorem w_c9 : (Jvm.Cond.code ({ cls := "com/example/obedient_dog/obedientdog/topologydiscovery/AgeLog", name := "raise", desc := "(II)Z" } : Jvm.MethodName) prog_39_method_6_code (6 : Nat) (Option.some Jvm.ClassFile.FieldType.boolean)).before args0 about1 = true := code_word (m := ⟨2, 2⟩) (meth := k2m2) (c := k2c2) (by decide +kernel) rfl rfl rfl (by decide +kernel)
set_option maxRecDepth 65536 in
theorem w_c10 : (Jvm.Cond.code ({ cls := "com/example/obedient_dog/obedientdog/topologydiscovery/AgeLog", name := "add", desc := "(II)V" } : Jvm.MethodName) prog_39_method_5_code (3 : Nat) (Option.none : Option Jvm.ClassFile.FieldType)).before args0 about1 = true := code_word (m := ⟨2, 1⟩) (meth := k2m1) (c := k2c1) (by decide +kernel) rfl rfl rfl (by decide +kernel)
set_option maxRecDepth 65536 in
theorem w_c11 : (Jvm.Cond.code ({ cls := "com/example/obedient_dog/obedientdog/topologydiscovery/AgeLog", name := "append", desc := "(II)I" } : Jvm.MethodName) prog_39_method_13_code (4 : Nat) (Option.some Jvm.ClassFile.FieldType.int)).before args0 about1 = true := code_word (m := ⟨2, 5⟩) (meth := k2m5) (c := k2c5) (by decide +kernel) rfl rfl rfl (by decide +kernel)
set_option maxRecDepth 65536 in
theorem w_c12 : (Jvm.Cond.code ({ cls := "com/example/obedient_dog/obedientdog/topologydiscovery/AgeLog", name := "count", desc := "(III)V" } : Jvm.MethodName) prog_39_method_15_code (4 : Nat) (Option.none : Option Jvm.ClassFile.FieldType)).before args0 about1 = true := code_word (m := ⟨2, 7⟩) (meth := k2m7) (c := k2c7) (by decide +kernel) rfl rfl rfl (by decide +kernel)
set_option maxRecDepth 65536 in
theorem w_c13 : (Jvm.Cond.code ({ cls := "com/example/obedient_dog/obedientdog/topologydiscovery/LinkNumbers", name := "hash", desc := "(I)I" } : Jvm.MethodName) prog_46_method_5_code (2 : Nat) (Option.some Jvm.ClassFile.FieldType.int)).before args0 about1 = true := code_word (m := ⟨3, 1⟩) (meth := k3m1) (c := k3c1) (by decide +kernel) rfl rfl rfl (by decide +kernel)
set_option maxRecDepth 65536 in
theorem w_c14 : (Jvm.Cond.code ({ cls := "com/example/obedient_dog/obedientdog/topologydiscovery/AgeLog", name := "table", desc := "()Lcom/example/obedient_dog/obedientdog/topologydiscovery/AgeTable;" } : Jvm.MethodName) prog_39_method_7_code (1 : Nat) (Option.some (Jvm.ClassFile.FieldType.object "com/example/obedient_dog/obedientdog/topologydiscovery/AgeTable"))).before args0 about1 = true := code_word (m := ⟨2, 3⟩) (meth := k2m3) (c := k2c3) (by decide +kernel) rfl rfl rfl (by decide +kernel)
set_option maxRecDepth 65536 in
theorem w_c15 : (Jvm.Cond.code ({ cls := "com/example/obedient_dog/obedientdog/topologydiscovery/AgeTable", name := "<init>", desc := "(Lcom/example/obedient_dog/obedientdog/topologydiscovery/AgeLog;IIII)V" } : Jvm.MethodName) prog_41_method_1_code (6 : Nat) (Option.none : Option Jvm.ClassFile.FieldType)).before args0 about1 = true := code_word (m := ⟨17, 0⟩) (meth := k17m0) (c := k17c0) (by decide +kernel) rfl rfl rfl (by decide +kernel)
set_option maxRecDepth 65536 in
theorem w_c16 : (Jvm.Cond.code ({ cls := "com/example/obedient_dog/obedientdog/topologydiscovery/AgeLog", name := "lastEntry", desc := "(II)I" } : Jvm.MethodName) prog_39_method_9_code (4 : Nat) (Option.some Jvm.ClassFile.FieldType.int)).before args0 about1 = true := code_word (m := ⟨2, 4⟩) (meth := k2m4) (c := k2c4) (by decide +kernel) rfl rfl rfl (by decide +kernel)
set_option maxRecDepth 65536 in
theorem w_c17 : (Jvm.Cond.code ({ cls := "com/example/obedient_dog/obedientdog/topologydiscovery/AgeLog", name := "chain", desc := "(II)V" } : Jvm.MethodName) prog_39_method_14_code (3 : Nat) (Option.none : Option Jvm.ClassFile.FieldType)).before args0 about1 = true := code_word (m := ⟨2, 6⟩) (meth := k2m6) (c := k2c6) (by decide +kernel) rfl rfl rfl (by decide +kernel)
def codes1 : List Jvm.Cond := [Jvm.Cond.code x code maxLocals ret, Jvm.Cond.code ({ cls := "com/example/obedient_dog/obedientdog/topologydiscovery/LinkNumbers", name := "<init>", desc := "()V" } : Jvm.MethodName) prog_46_method_1_code (1 : Nat) (Option.none : Option Jvm.ClassFile.FieldType), Jvm.Cond.code ({ cls := "java/lang/Object", name := "<init>", desc := "()V" } : Jvm.MethodName) object_method_1_code (1 : Nat) (Option.none : Option Jvm.ClassFile.FieldType), Jvm.Cond.code ({ cls := "java/util/HashMap", name := "<init>", desc := "()V" } : Jvm.MethodName) jdk_69_method_7_code (1 : Nat) (Option.none : Option Jvm.ClassFile.FieldType), Jvm.Cond.code ({ cls := "java/util/AbstractMap", name := "<init>", desc := "()V" } : Jvm.MethodName) jdk_71_method_1_code (1 : Nat) (Option.none : Option Jvm.ClassFile.FieldType), Jvm.Cond.code ({ cls := "java/util/ArrayList", name := "<init>", desc := "()V" } : Jvm.MethodName) jdk_38_method_2_code (1 : Nat) (Option.none : Option Jvm.ClassFile.FieldType), Jvm.Cond.code ({ cls := "java/util/AbstractList", name := "<init>", desc := "()V" } : Jvm.MethodName) jdk_39_method_1_code (1 : Nat) (Option.none : Option Jvm.ClassFile.FieldType), Jvm.Cond.code ({ cls := "java/util/AbstractCollection", name := "<init>", desc := "()V" } : Jvm.MethodName) jdk_22_method_1_code (1 : Nat) (Option.none : Option Jvm.ClassFile.FieldType), Jvm.Cond.code ({ cls := "com/example/obedient_dog/obedientdog/topologydiscovery/AgeLog", name := "<init>", desc := "(Lcom/example/obedient_dog/obedientdog/topologydiscovery/LinkNumbers;)V" } : Jvm.MethodName) prog_39_method_1_code (2 : Nat) (Option.none : Option Jvm.ClassFile.FieldType), Jvm.Cond.code ({ cls := "com/example/obedient_dog/obedientdog/topologydiscovery/AgeLog", name := "raise", desc := "(II)Z" } : Jvm.MethodName) prog_39_method_6_code (6 : Nat) (Option.some Jvm.ClassFile.FieldType.boolean), Jvm.Cond.code ({ cls := "com/example/obedient_dog/obedientdog/topologydiscovery/AgeLog", name := "add", desc := "(II)V" } : Jvm.MethodName) prog_39_method_5_code (3 : Nat) (Option.none : Option Jvm.ClassFile.FieldType), Jvm.Cond.code ({ cls := "com/example/obedient_dog/obedientdog/topologydiscovery/AgeLog", name := "append", desc := "(II)I" } : Jvm.MethodName) prog_39_method_13_code (4 : Nat) (Option.some Jvm.ClassFile.FieldType.int), Jvm.Cond.code ({ cls := "com/example/obedient_dog/obedientdog/topologydiscovery/AgeLog", name := "count", desc := "(III)V" } : Jvm.MethodName) prog_39_method_15_code (4 : Nat) (Option.none : Option Jvm.ClassFile.FieldType), Jvm.Cond.code ({ cls := "com/example/obedient_dog/obedientdog/topologydiscovery/LinkNumbers", name := "hash", desc := "(I)I" } : Jvm.MethodName) prog_46_method_5_code (2 : Nat) (Option.some Jvm.ClassFile.FieldType.int), Jvm.Cond.code ({ cls := "com/example/obedient_dog/obedientdog/topologydiscovery/AgeLog", name := "table", desc := "()Lcom/example/obedient_dog/obedientdog/topologydiscovery/AgeTable;" } : Jvm.MethodName) prog_39_method_7_code (1 : Nat) (Option.some (Jvm.ClassFile.FieldType.object "com/example/obedient_dog/obedientdog/topologydiscovery/AgeTable")), Jvm.Cond.code ({ cls := "com/example/obedient_dog/obedientdog/topologydiscovery/AgeTable", name := "<init>", desc := "(Lcom/example/obedient_dog/obedientdog/topologydiscovery/AgeLog;IIII)V" } : Jvm.MethodName) prog_41_method_1_code (6 : Nat) (Option.none : Option Jvm.ClassFile.FieldType), Jvm.Cond.code ({ cls := "com/example/obedient_dog/obedientdog/topologydiscovery/AgeLog", name := "lastEntry", desc := "(II)I" } : Jvm.MethodName) prog_39_method_9_code (4 : Nat) (Option.some Jvm.ClassFile.FieldType.int), Jvm.Cond.code ({ cls := "com/example/obedient_dog/obedientdog/topologydiscovery/AgeLog", name := "chain", desc := "(II)V" } : Jvm.MethodName) prog_39_method_14_code (3 : Nat) (Option.none : Option Jvm.ClassFile.FieldType)]
set_option maxRecDepth 65536 in
theorem codes_eq : words1.filter isCode = codes1 := rfl
theorem w_codes : ∀ c ∈ words1.filter isCode, c.before args0 about1 = true := by
  rw [codes_eq]
  intro c hc
  simp only [codes1, List.mem_cons, List.not_mem_nil, or_false] at hc
  rcases hc with rfl | rfl | rfl | rfl | rfl | rfl | rfl | rfl | rfl | rfl | rfl | rfl | rfl | rfl | rfl | rfl | rfl | rfl
  · exact w_c0
  · exact w_c1
  · exact w_c2
  · exact w_c3
  · exact w_c4
  · exact w_c5
  · exact w_c6
  · exact w_c7
  · exact w_c8
  · exact w_c9
  · exact w_c10
  · exact w_c11
  · exact w_c12
  · exact w_c13
  · exact w_c14
  · exact w_c15
  · exact w_c16
  · exact w_c17
set_option maxRecDepth 65536 in
theorem w_t1 : (words1.take 24).all (fun c => isCode c || c.before args0 about1) = true := by decide +kernel
set_option maxRecDepth 65536 in
theorem w_t2 : ((words1.drop 24).take 24).all (fun c => isCode c || c.before args0 about1) = true := by decide +kernel
set_option maxRecDepth 65536 in
theorem w_t3 : (((words1.drop 24).drop 24).take 24).all (fun c => isCode c || c.before args0 about1) = true := by decide +kernel
set_option maxRecDepth 65536 in
theorem w_t4 : ((((words1.drop 24).drop 24).drop 24).take 24).all (fun c => isCode c || c.before args0 about1) = true := by decide +kernel
set_option maxRecDepth 65536 in
theorem w_t5 : (((((words1.drop 24).drop 24).drop 24).drop 24).take 24).all (fun c => isCode c || c.before args0 about1) = true := by decide +kernel
set_option maxRecDepth 65536 in
theorem w_t6 : (((((words1.drop 24).drop 24).drop 24).drop 24).drop 24).all (fun c => isCode c || c.before args0 about1) = true := by decide +kernel
theorem w_tables : (allAtoms (Jvm.Cond.code x code maxLocals ret :: tables_1)).before args0 about1 = true := by
  rw [allAtoms_all]
  show words1.all (fun c => c.before args0 about1) = true
  refine all_split ?_ w_codes
  rw [← List.take_append_drop 24 words1, List.all_append, w_t1, ← List.take_append_drop 24 (words1.drop 24), List.all_append, w_t2, ← List.take_append_drop 24 ((words1.drop 24).drop 24), List.all_append, w_t3, ← List.take_append_drop 24 (((words1.drop 24).drop 24).drop 24), List.all_append, w_t4, ← List.take_append_drop 24 ((((words1.drop 24).drop 24).drop 24).drop 24), List.all_append, w_t5, w_t6]
  rfl
set_option maxRecDepth 65536 in
theorem w_rest : rest_1_c.before args0 about1 = true := by decide +kernel
set_option maxRecDepth 65536 in
theorem w_case : (Jvm.Cond.and given_1 narrow_1).before args0 about1 = true := by decide +kernel
theorem w_applies : (headSpec (Jvm.Cond.code x code maxLocals ret :: tables_1) room_1).applies x e0.platform about1 = true :=
  (Spec.applies_iff w_frames).mpr ⟨w_running, w_runnable, w_alone, w_named, w_hears, w_ripe, w_room, w_tables⟩
theorem atStart : AtStart classFile x code maxLocals ret World_1 tables_1 room_1 Calls_1 rest_1 Pre_1 launch0 p0 e0 about1 theMethod args0 below0 :=
  ⟨lists_1, trivial, launch0.admits_env _ _ _, launch0.least_env, fairChoices_fair.cas, fairChoices_fair.clock, w_frames, w_args, w_heap, w_applies, trivial, w_rest, w_case⟩
end start1
theorem witness_1 : WitnessClaimed_1 := ⟨start1.p0, start1.e0, start1.about1, start1.theMethod, start1.args0, start1.below0, start1.atStart⟩
end Jvm.Pilot.@@N@@
