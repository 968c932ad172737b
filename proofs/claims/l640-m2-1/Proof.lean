import JvmDerived
import JvmDerived.Pilot.@@N@@Statement
import JvmDerived.Pilot.@@N@@Code
set_option linter.unusedVariables false
set_option linter.unusedSimpArgs false
namespace Jvm.Pilot.@@N@@
open Jvm Jvm.ClassFile Sem Op Lib Jvm.Free Jvm.Stand Jvm.LawKit Jvm.RoadKit Bundle Jvm.Pilot.@@N@@.Jvm.D
/-! own_: the walk's goal in one piece (from this state on the body returns, and what it leaves says Q), its steps, its ends, its calls -/
theorem own_succ (k : Nat) : Int32.ofNat (k + 1) = Int32.ofNat k + 1 := (Int32.ofNat_succ k).symm
theorem own_catR {v : Value} (h : v.isRef = true) : v.category = 1 := by rcases ref_cases h with rfl | ⟨a, rfl⟩ <;> rfl
theorem own_narR {v : Value} {t : FieldType} (h : v.isRef = true) : narrow t v = v := by rcases ref_cases h with rfl | ⟨a, rfl⟩ <;> cases t <;> rfl
theorem own_fitR {v : Value} {t : FieldType} (h : v.isRef = true) (ht : t.isReference = true) : fits t v = true := by rcases ref_cases h with rfl | ⟨a, rfl⟩ <;> cases t <;> first | rfl | cases ht
section OwnKit
variable {p : Program} {l : Launch} {e : Env} {R : Room} {s : State} {m : MethodId} {args : Array Value} {below : List Frame} {meth : Method} {c : Code} {T : State} {locs : List Loc} {cells slots : Nat} {Z : State} {a0 : Array Value} {h : Heap}
def own_Fin (p : Program) (e : Env) (below : List Frame) (s : State) (Q : Option Value → Heap → List Loc → Prop) (k n : Nat) (U : State) : Prop :=
  ∃ (s₂ : State) (o : Outcome), Steps p.tables e below U s₂ ∧ s₂.status = .running ∧ Ended s₂ below o ∧ ∃ v L, o = .returned v ∧ Q v s₂.heap L ∧ FrameEnd s o s₂ L k n
variable {Q : Option Value → Heap → List Loc → Prop} {k n : Nat}
theorem own_go {U U' : State} (st : ∀ t, Steps p.tables e below U' t → Steps p.tables e below U t) (F : own_Fin p e below s Q k n U') : own_Fin p e below s Q k n U := by
  obtain ⟨s2, o, h1, h2⟩ := F
  exact ⟨s2, o, st _ h1, h2⟩
theorem own_ret (X : Stand p l e R s m args below meth c T locs cells slots) (hx : p.tables.exec = Jvm.exec) {t : FieldType} (hret : meth.sig.returnType = some t) (hlk : meth.locks = false) {pc : Nat} {Ls : Array Slot} {w : Value} {i : Instr} {rest : List Value} (hn : narrow t w = w)
    (hi : (i = .ireturn ∧ (t = .int ∨ t = .boolean ∨ t = .byte ∨ t = .char ∨ t = .short) ∧ ∃ z, w = .int z) ∨ (i = .lreturn ∧ t = .long ∧ ∃ z, w = .long z) ∨ (i = .dreturn ∧ t = .double ∧ ∃ z, w = .double z) ∨ (i = .freturn ∧ t = .float ∧ ∃ z, w = .float z) ∨ (i = .areturn ∧ t.isReference = true ∧ w.isRef = true))
    (hd : decode c.code pc = .ok (i, 1)) (hQ : Q (some w) T.heap locs) (hc : cells ≤ k) (hs : slots ≤ n) : own_Fin p e below s Q k n (T.setTop (mkF m pc Ls (w :: rest))) := by
  obtain ⟨fs, hr, hrun, hended, hW, hsame⟩ := X.leave (v := some w) (fun h => by rw [hret] at h; cases h) hlk
  exact ⟨_, _, retOut X hx hret hn hi hd hr, hrun, hended, _, _, rfl, hQ, ⟨_, rfl⟩, hW, hsame.mono hc hs⟩
theorem own_retI (X : Stand p l e R s m args below meth c T locs cells slots) (hx : p.tables.exec = Jvm.exec) (hret : meth.sig.returnType = some .int) (hlk : meth.locks = false) {pc : Nat} {Ls : Array Slot} {z : Int32} {rest : List Value}
    (hd : decode c.code pc = .ok (.ireturn, 1)) (hQ : Q (some (.int z)) T.heap locs) (hc : cells ≤ k) (hs : slots ≤ n) : own_Fin p e below s Q k n (T.setTop (mkF m pc Ls (.int z :: rest))) :=
  own_ret X hx hret hlk rfl (Or.inl ⟨rfl, Or.inl rfl, z, rfl⟩) hd hQ hc hs
theorem own_retN (X : Stand p l e R s m args below meth c T locs cells slots) (hx : p.tables.exec = Jvm.exec) {t : FieldType} (hret : meth.sig.returnType = some t) (ht : t = .boolean ∨ t = .byte ∨ t = .char ∨ t = .short) (hlk : meth.locks = false) {pc : Nat} {Ls : Array Slot} {z : Int32} {rest : List Value}
    (hd : decode c.code pc = .ok (.ireturn, 1)) (hQ : Q (some (.int (nar t z))) T.heap locs) (hc : cells ≤ k) (hs : slots ≤ n) : own_Fin p e below s Q k n (T.setTop (mkF m pc Ls (.int z :: rest))) := by
  obtain ⟨fs, hr, hrun, hended, hW, hsame⟩ := X.leave (v := some (.int (nar t z))) (fun h => by rw [hret] at h; cases h) hlk
  exact ⟨_, _, retN X hx hret ht hd hr, hrun, hended, _, _, rfl, hQ, ⟨_, rfl⟩, hW, hsame.mono hc hs⟩
theorem own_retL (X : Stand p l e R s m args below meth c T locs cells slots) (hx : p.tables.exec = Jvm.exec) (hret : meth.sig.returnType = some .long) (hlk : meth.locks = false) {pc : Nat} {Ls : Array Slot} {z : Int64} {rest : List Value}
    (hd : decode c.code pc = .ok (.lreturn, 1)) (hQ : Q (some (.long z)) T.heap locs) (hc : cells ≤ k) (hs : slots ≤ n) : own_Fin p e below s Q k n (T.setTop (mkF m pc Ls (.long z :: rest))) :=
  own_ret X hx hret hlk rfl (Or.inr (Or.inl ⟨rfl, rfl, z, rfl⟩)) hd hQ hc hs
theorem own_retA (X : Stand p l e R s m args below meth c T locs cells slots) (hx : p.tables.exec = Jvm.exec) {t : FieldType} (hret : meth.sig.returnType = some t) (ht : t.isReference = true) (hlk : meth.locks = false) {pc : Nat} {Ls : Array Slot} {w : Value} {rest : List Value} (hw : w.isRef = true)
    (hd : decode c.code pc = .ok (.areturn, 1)) (hQ : Q (some w) T.heap locs) (hc : cells ≤ k) (hs : slots ≤ n) : own_Fin p e below s Q k n (T.setTop (mkF m pc Ls (w :: rest))) :=
  own_ret X hx hret hlk (by rcases ref_cases hw with rfl | ⟨z, rfl⟩ <;> cases t <;> rfl) (Or.inr (Or.inr (Or.inr (Or.inr ⟨rfl, ht, hw⟩)))) hd hQ hc hs
theorem own_retV (X : Stand p l e R s m args below meth c T locs cells slots) (hx : p.tables.exec = Jvm.exec) (hret : meth.sig.returnType = none) (hlk : meth.locks = false) {pc : Nat} {Ls : Array Slot}
    (hd : decode c.code pc = .ok (.return_, 1)) (hQ : Q none T.heap locs) (hc : cells ≤ k) (hs : slots ≤ n) : own_Fin p e below s Q k n (T.setTop (mkF m pc Ls [])) := by
  obtain ⟨fs, hr, hrun, hended, hW, hsame⟩ := X.leave (v := none) (fun _ => rfl) hlk
  exact ⟨_, _, X.returnOut hx hret hd hr, hrun, hended, _, _, rfl, hQ, ⟨_, rfl⟩, hW, hsame.mono hc hs⟩
/-- a body's contract: called with these arguments at this heap it returns, and what it leaves says Q -/
abbrev own_C (l : Launch) (Z : State) (y : MethodName) (bytes : ByteArray) (maxL : Nat) (ret : Option FieldType) (ws : List Jvm.Cond) (rm : Room) (as' : Array Value) (h0 : Heap) (Q : Option Value → Heap → List Loc → Prop) : Prop :=
  MetFree l y (head1 (Jvm.Cond.code y bytes maxL ret :: ws) rm) (fun a U => a = as' ∧ Z.Warmed39 U.vm ∧ U.heap = h0) (fun _ _ _ _ _ => True) (fun _ U o U' => ∃ v L, o = .returned v ∧ Q v U'.heap L ∧ FrameEnd U o U' L rm.cells rm.slots)
theorem own_body {y : MethodName} {bytes : ByteArray} {maxL : Nat} {ret : Option FieldType} {ws : List Jvm.Cond} {rm : Room} {as' : Array Value} {h0 : Heap} (hpn : plainFor y = true)
    (body : ∀ (p : Program) (e : Env) (s : State) (m : MethodId) (below : List Frame) (meth : Method) (c : Code) (s₁ : State), p.tables.exec = Jvm.exec → c.code = bytes → c.maxLocals = maxL → meth.sig.returnType = ret → meth.locks = false → s.vm.findClass y.cls = some m.cls → meth.name = y.name → Z.Warmed39 s.vm →
      Stand p l e rm s m as' below meth c s₁ [] 0 0 → s₁.heap = h0 → own_Fin p e below s Q rm.cells rm.slots (s₁.setTop (entryFrame m as' maxL))) : own_C l Z y bytes maxL ret ws rm as' h0 Q := by
  refine MetFree.of_bodySF hpn hisR ?_
  intro p e s m args below meth c s₁ Bd hml0 hP hK
  obtain ⟨rfl, hZ, hh⟩ := hP
  exact body p e s m below meth c s₁ Bd.exec Bd.bytes hml0 Bd.returns Bd.notSynchronized (findClass_of_methodNamed Bd.named) (name_of_methodNamed Bd.named Bd.method).1 hZ (Stand.of_body Bd) (by rw [← hh, Bd.state]; rfl)
theorem own_callS (X : Stand p l e R s m args below meth c T locs cells slots) (hx : p.tables.exec = Jvm.exec) (hZ : Z.Warmed39 s.vm) {own : String} {index : Nat} {y : MethodName} {bytes : ByteArray} {maxL : Nat} {ret : Option FieldType} (hown : s.vm.findClass own = some m.cls)
    (w1 : (Cond.methodLink own index y).before a0 Z = true) (w2 : (Cond.static y).before a0 Z = true) (w3 : (Cond.initialized y.cls).before a0 Z = true) (w4 : (Cond.code y bytes maxL ret).before a0 Z = true) (hy : y.cls ≠ "java/lang/invoke/MethodHandle" ∧ y.cls ≠ "java/lang/invoke/VarHandle")
    {rm : Room} {argsL rest : List Value} {as' : Array Value} (hM : own_C l Z y bytes maxL ret [] rm as' h Q) {W : Nat} (hf : rm.frames + 1 ≤ R.frames) (hl : W + (maxL + 11) + rm.locals ≤ R.locals) {g : JFrame} (hg : g.method = m) (hsize : g.locals.size = c.maxLocals)
    (hlen : ∀ sig, parseMethodDescriptor y.desc = some sig → argsL.length = sig.parameters.length) (hstack : g.stack = argsL.reverse ++ rest) (has : argsL.toArray = as') (hW : 2 * g.monitorRoom + (rest.map fun v => v.category).sum ≤ W) (hdg : decode c.code g.pc = .ok (.invokestatic index, 3)) (eT : T.heap = h)
    (hc : cells + rm.cells ≤ R.cells) (hs : slots + rm.slots ≤ R.slots) :
    ∃ (v : Option Value) (T' : State) (h' : Heap) (L : List Loc), T'.heap = h' ∧ Stand p l e R s m args below meth c T' (locs ++ L) (cells + rm.cells) (slots + rm.slots) ∧ Q v h' L ∧ ∀ target, Steps p.tables e below (T'.setTop { g with pc := g.pc + 3, stack := v.toList ++ rest }) target → Steps p.tables e below (T.setTop g) target := by
  obtain ⟨v, vm, ⟨T', L', k', n'⟩, -, X', ⟨Lc, hQ, l1, y1, z1⟩, st⟩ := Jvm.LawKit.callS X hx (y := y) hown (mvT hZ w1) (mvT hZ w2) (mvT hZ w3) (mvT hZ w4) hy (backOf (W := W) hM hZ w4 w3 hf hl) hg hsize hlen hstack hW hdg (fun _ _ => ⟨has, eT, hc, hs⟩)
  dsimp only [Pt.U, Pt.locs, Pt.cells, Pt.slots] at X' l1 y1 z1 st hQ
  subst l1 y1 z1
  exact ⟨v, T', _, Lc, rfl, X', hQ, st⟩
theorem own_callC (X : Stand p l e R s m args below meth c T locs cells slots) (hx : p.tables.exec = Jvm.exec) (hZ : Z.Warmed39 s.vm) {own : String} {index : Nat} {y : MethodName} {bytes : ByteArray} {maxL : Nat} (hy1 : y.name = "<init>") (hown : s.vm.findClass own = some m.cls)
    (w1 : (Cond.methodLink own index y).before a0 Z = true) (w2 : (Cond.instanceMethod y).before a0 Z = true) (w3 : (Cond.initialized y.cls).before a0 Z = true) (w4 : (Cond.code y bytes maxL none).before a0 Z = true) (hy : y.cls ≠ "java/lang/invoke/MethodHandle" ∧ y.cls ≠ "java/lang/invoke/VarHandle")
    {rm : Room} {a : Addr} {argsL rest : List Value} {as' : Array Value} (hM : own_C l Z y bytes maxL none [] rm as' h Q) {W : Nat} (hf : rm.frames + 1 ≤ R.frames) (hl : W + (maxL + 11) + rm.locals ≤ R.locals) {g : JFrame} (hg : g.method = m) (hsize : g.locals.size = c.maxLocals)
    (hlen : ∀ sig, parseMethodDescriptor y.desc = some sig → argsL.length = sig.parameters.length) (hstack : g.stack = argsL.reverse ++ .ref a :: rest) (has : (.ref a :: argsL).toArray = as') (hW : 2 * g.monitorRoom + (rest.map fun v => v.category).sum ≤ W) (hdg : decode c.code g.pc = .ok (.invokespecial index, 3)) (eT : T.heap = h)
    (hc : cells + rm.cells ≤ R.cells) (hs : slots + rm.slots ≤ R.slots) :
    ∃ (v : Option Value) (T' : State) (h' : Heap) (L : List Loc), T'.heap = h' ∧ Stand p l e R s m args below meth c T' (locs ++ L) (cells + rm.cells) (slots + rm.slots) ∧ Q v h' L ∧ ∀ target, Steps p.tables e below (T'.setTop { g with pc := g.pc + 3, stack := v.toList ++ rest }) target → Steps p.tables e below (T.setTop g) target := by
  obtain ⟨v, vm, ⟨T', L', k', n'⟩, -, X', ⟨Lc, hQ, l1, y1, z1⟩, st⟩ := X.specialBack hx (y := y) hy1 hown (mvT hZ w1) (mvT hZ w2) (mvT hZ w4) hy (backOf (W := W) hM hZ w4 w3 hf hl) hg hsize (Steps.refl _) hlen hstack hW hdg (fun _ _ => ⟨has, eT, hc, hs⟩)
  dsimp only [Pt.U, Pt.locs, Pt.cells, Pt.slots] at X' l1 y1 z1 st hQ
  subst l1 y1 z1
  exact ⟨v, T', _, Lc, rfl, X', hQ, fun _ k => st.trans k⟩
theorem own_callV (X : Stand p l e R s m args below meth c T locs cells slots) (hx : p.tables.exec = Jvm.exec) (hZ : Z.Warmed39 s.vm) {own C : String} {index : Nat} {y z : MethodName} {bytes : ByteArray} {maxL : Nat} {ret : Option FieldType} (hown : s.vm.findClass own = some m.cls)
    (w1 : (Cond.methodLink own index y).before a0 Z = true) (w2 : (Cond.declares y).before a0 Z = true) (hnf : NotFace s y) (w5 : (Cond.selects C y z).before a0 Z = true) (w6 : (Cond.instanceMethod z).before a0 Z = true) (w3 : (Cond.initialized z.cls).before a0 Z = true) (w4 : (Cond.code z bytes maxL ret).before a0 Z = true) (hy : y.cls ≠ "java/lang/invoke/MethodHandle" ∧ y.cls ≠ "java/lang/invoke/VarHandle")
    {rm : Room} {a : Addr} (E : Exa Z h a C) {argsL rest : List Value} {as' : Array Value} (hM : own_C l Z z bytes maxL ret [] rm as' h Q) {W : Nat} (hf : rm.frames + 1 ≤ R.frames) (hl : W + (maxL + 11) + rm.locals ≤ R.locals) {g : JFrame} (hg : g.method = m) (hsize : g.locals.size = c.maxLocals)
    (hlen : ∀ sig, parseMethodDescriptor y.desc = some sig → argsL.length = sig.parameters.length) (hstack : g.stack = argsL.reverse ++ .ref a :: rest) (has : (.ref a :: argsL).toArray = as') (hW : 2 * g.monitorRoom + (rest.map fun v => v.category).sum ≤ W) (hdg : decode c.code g.pc = .ok (.invokevirtual index, 3)) (eT : T.heap = h)
    (hc : cells + rm.cells ≤ R.cells) (hs : slots + rm.slots ≤ R.slots) :
    ∃ (v : Option Value) (T' : State) (h' : Heap) (L : List Loc), T'.heap = h' ∧ Stand p l e R s m args below meth c T' (locs ++ L) (cells + rm.cells) (slots + rm.slots) ∧ Q v h' L ∧ ∀ target, Steps p.tables e below (T'.setTop { g with pc := g.pc + 3, stack := v.toList ++ rest }) target → Steps p.tables e below (T.setTop g) target := by
  obtain ⟨cq, kq, qa, qb, qc⟩ := isOf hZ eT E
  obtain ⟨v, vm, ⟨T', L', k', n'⟩, -, X', ⟨Lc, hQ, l1, y1, z1⟩, st⟩ := X.virtualBack hx (y := y) (z := z) hown (mvT hZ w1) (mvT hZ w2) hnf (mvT hZ w5) (mvT hZ w6) hy (backOf (W := W) hM hZ w4 w3 hf hl) qa qc hg hsize (Steps.refl _) hlen hstack hW hdg (fun _ _ => ⟨has, eT, hc, hs⟩)
  dsimp only [Pt.U, Pt.locs, Pt.cells, Pt.slots] at X' l1 y1 z1 st hQ
  subst l1 y1 z1
  exact ⟨v, T', _, Lc, rfl, X', hQ, fun _ k => st.trans k⟩
theorem own_callI (X : Stand p l e R s m args below meth c T locs cells slots) (hx : p.tables.exec = Jvm.exec) (hZ : Z.Warmed39 s.vm) {own C : String} {index count : Nat} {y z : MethodName} {bytes : ByteArray} {maxL : Nat} {ret : Option FieldType} (hown : s.vm.findClass own = some m.cls)
    (w1 : (Cond.methodLink own index y).before a0 Z = true) (w2 : (Cond.declares y).before a0 Z = true) (w7 : (Cond.interfaceMethod y.cls y.cls y.name y.desc).before args s = true) (w5 : (Cond.selects C y z).before a0 Z = true) (w6 : (Cond.instanceMethod z).before a0 Z = true) (w8 : (Cond.publicMethod z).before a0 Z = true)
    (w9 : (Cond.unhidden C y.name y.desc).before a0 Z = true) (w10 : (Cond.castable C y.cls).before a0 Z = true) (w3 : (Cond.initialized z.cls).before a0 Z = true) (w4 : (Cond.code z bytes maxL ret).before a0 Z = true) (hy : y.cls ≠ "java/lang/invoke/MethodHandle" ∧ y.cls ≠ "java/lang/invoke/VarHandle")
    {rm : Room} {a : Addr} (E : Exa Z h a C) {argsL rest : List Value} {as' : Array Value} (hM : own_C l Z z bytes maxL ret [] rm as' h Q) {W : Nat} (hf : rm.frames + 1 ≤ R.frames) (hl : W + (maxL + 11) + rm.locals ≤ R.locals) {g : JFrame} (hg : g.method = m) (hsize : g.locals.size = c.maxLocals)
    (hlen : ∀ sig, parseMethodDescriptor y.desc = some sig → argsL.length = sig.parameters.length) (hstack : g.stack = argsL.reverse ++ .ref a :: rest) (has : (.ref a :: argsL).toArray = as') (hW : 2 * g.monitorRoom + (rest.map fun v => v.category).sum ≤ W) (hdg : decode c.code g.pc = .ok (.invokeinterface index count, 5)) (eT : T.heap = h)
    (hc : cells + rm.cells ≤ R.cells) (hs : slots + rm.slots ≤ R.slots) :
    ∃ (v : Option Value) (T' : State) (h' : Heap) (L : List Loc), T'.heap = h' ∧ Stand p l e R s m args below meth c T' (locs ++ L) (cells + rm.cells) (slots + rm.slots) ∧ Q v h' L ∧ ∀ target, Steps p.tables e below (T'.setTop { g with pc := g.pc + 5, stack := v.toList ++ rest }) target → Steps p.tables e below (T.setTop g) target := by
  obtain ⟨cq, kq, qa, qb, qc⟩ := isOf hZ eT E
  obtain ⟨v, vm, ⟨T', L', k', n'⟩, -, X', ⟨Lc, hQ, l1, y1, z1⟩, st⟩ := X.interfaceBack hx (xi := y) (y := z) hown (mvT hZ w1) (mvT hZ w2) w7 (mvT hZ w5) (mvT hZ w6) (mvT hZ w8) (mvT hZ w9) (mvT hZ w10) hy (backOf (W := W) hM hZ w4 w3 hf hl) qa qb qc hg hsize (Steps.refl _) hlen hstack hW hdg (fun _ _ => ⟨has, eT, hc, hs⟩)
  dsimp only [Pt.U, Pt.locs, Pt.cells, Pt.slots] at X' l1 y1 z1 st hQ
  subst l1 y1 z1
  exact ⟨v, T', _, Lc, rfl, X', hQ, fun _ k => st.trans k⟩
theorem own_callP (X : Stand p l e R s m args below meth c T locs cells slots) (hx : p.tables.exec = Jvm.exec) (hZ : Z.Warmed39 s.vm) {own C : String} {index : Nat} {y : MethodName} {bytes : ByteArray} {maxL : Nat} {ret : Option FieldType} (hown : s.vm.findClass own = some m.cls)
    (w1 : (Cond.methodLink own index y).before a0 Z = true) (w6 : (Cond.instanceMethod y).before a0 Z = true) (w5 : (Cond.selects y.cls y y).before a0 Z = true) (w7 : (Cond.privateMethod y).before a0 Z = true) (w3 : (Cond.initialized y.cls).before a0 Z = true) (w4 : (Cond.code y bytes maxL ret).before a0 Z = true) (hy : y.cls ≠ "java/lang/invoke/MethodHandle" ∧ y.cls ≠ "java/lang/invoke/VarHandle")
    {rm : Room} {a : Addr} (E : Exa Z h a C) {argsL rest : List Value} {as' : Array Value} (hM : own_C l Z y bytes maxL ret [] rm as' h Q) {W : Nat} (hf : rm.frames + 1 ≤ R.frames) (hl : W + (maxL + 11) + rm.locals ≤ R.locals) {g : JFrame} (hg : g.method = m) (hsize : g.locals.size = c.maxLocals)
    (hlen : ∀ sig, parseMethodDescriptor y.desc = some sig → argsL.length = sig.parameters.length) (hstack : g.stack = argsL.reverse ++ .ref a :: rest) (has : (.ref a :: argsL).toArray = as') (hW : 2 * g.monitorRoom + (rest.map fun v => v.category).sum ≤ W) (hdg : decode c.code g.pc = .ok (.invokevirtual index, 3)) (eT : T.heap = h)
    (hc : cells + rm.cells ≤ R.cells) (hs : slots + rm.slots ≤ R.slots) :
    ∃ (v : Option Value) (T' : State) (h' : Heap) (L : List Loc), T'.heap = h' ∧ Stand p l e R s m args below meth c T' (locs ++ L) (cells + rm.cells) (slots + rm.slots) ∧ Q v h' L ∧ ∀ target, Steps p.tables e below (T'.setTop { g with pc := g.pc + 3, stack := v.toList ++ rest }) target → Steps p.tables e below (T.setTop g) target := by
  obtain ⟨cq, q, q'⟩ := E.cell
  obtain ⟨v, vm, ⟨T', L', k', n'⟩, -, X', ⟨Lc, hQ, l1, y1, z1⟩, st⟩ := X.privateBack hx (y := y) hown (mvT hZ w1) (mvT hZ w6) (mvT hZ w5) (Cond.privateMethod_at (mvP hZ w7 (args := #[]))) (mvT hZ w4) hy (backOf (W := W) hM hZ w4 w3 hf hl) hg hsize (Steps.refl _) (a := a) (by rw [eT]; exact q) q' hlen hstack hW hdg (fun _ _ => ⟨has, eT, hc, hs⟩)
  dsimp only [Pt.U, Pt.locs, Pt.cells, Pt.slots] at X' l1 y1 z1 st hQ
  subst l1 y1 z1
  exact ⟨v, T', _, Lc, rfl, X', hQ, fun _ k => st.trans k⟩
theorem own_lremM {g : JFrame} {target : State} (X : Stand p l e R s m args below meth c T locs cells slots) (hx : p.tables.exec = Jvm.exec) (hg : g.method = m) {x y : Int64} {rest : List Value} (hd : decode c.code g.pc = .ok (.lrem, 1)) (hs : g.stack = .long y :: .long x :: rest) (hy : y ≠ 0)
    (hr : Steps p.tables e below (T.setTop { g with pc := g.pc + 1, stack := .long (x % y) :: rest }) target) : Steps p.tables e below (T.setTop g) target :=
  XS.lrem X.here hx hg hd hs hy (by rw [lrem_mod]; exact hr)
theorem own_mono (X : Stand p l e R s m args below meth c T locs cells slots) {cells' slots' : Nat} (hc : cells ≤ cells') (hs : slots ≤ slots') : Stand p l e R s m args below meth c T locs cells' slots' :=
  ⟨X.admits, X.cas, X.clock, X.frames, X.room, X.hears, X.method, X.code, X.here, X.tail, X.warmed, X.limits, X.bytes, X.same.mono hc hs⟩
end OwnKit
section OwnRef
variable {p : Program} {l : Launch} {e : Env} {R : Room} {s : State} {m : MethodId} {args : Array Value} {below : List Frame} {meth : Method} {c : Code} {T : State} {locs : List Loc} {cells slots : Nat} {Z : State} {a0 : Array Value} {h : Heap} {Q : Option Value → Heap → List Loc → Prop}
/-- a constructor whose pool entry stands resolved ('methodRef'), by its contract -/
theorem own_callR (X : Stand p l e R s m args below meth c T locs cells slots) (hx : p.tables.exec = Jvm.exec) (hZ : Z.Warmed39 s.vm) {own : String} {index : Nat} {y : MethodName} {bytes : ByteArray} {maxL : Nat} (hy1 : y.name = "<init>") (hown : s.vm.findClass own = some m.cls)
    (w1 : (Cond.methodRef own index y).before a0 Z = true) (w2 : (Cond.instanceMethod y).before a0 Z = true) (w3 : (Cond.initialized y.cls).before a0 Z = true) (w4 : (Cond.code y bytes maxL none).before a0 Z = true) (hy : y.cls ≠ "java/lang/invoke/MethodHandle" ∧ y.cls ≠ "java/lang/invoke/VarHandle")
    {rm : Room} {a : Addr} {argsL rest : List Value} {as' : Array Value} (hM : own_C l Z y bytes maxL none [] rm as' h Q) {W : Nat} (hf : rm.frames + 1 ≤ R.frames) (hl : W + (maxL + 11) + rm.locals ≤ R.locals) {g : JFrame} (hg : g.method = m) (hsize : g.locals.size = c.maxLocals)
    (hlen : ∀ sig, parseMethodDescriptor y.desc = some sig → argsL.length = sig.parameters.length) (hstack : g.stack = argsL.reverse ++ .ref a :: rest) (has : (.ref a :: argsL).toArray = as') (hW : 2 * g.monitorRoom + (rest.map fun v => v.category).sum ≤ W) (hdg : decode c.code g.pc = .ok (.invokespecial index, 3)) (eT : T.heap = h)
    (hc : cells + rm.cells ≤ R.cells) (hs : slots + rm.slots ≤ R.slots) :
    ∃ (v : Option Value) (T' : State) (h' : Heap) (L : List Loc), T'.heap = h' ∧ Stand p l e R s m args below meth c T' (locs ++ L) (cells + rm.cells) (slots + rm.slots) ∧ Q v h' L ∧ ∀ target, Steps p.tables e below (T'.setTop { g with pc := g.pc + 3, stack := v.toList ++ rest }) target → Steps p.tables e below (T.setTop g) target := by
  have hT : Z.Warmed39 T.vm := wtrans hZ X.warmed
  obtain ⟨mk, methM, hnamed, hmethM, hstM, habM⟩ := Cond.instanceMethod_spec (mvT hZ w2 : (Cond.instanceMethod y).before args s = true)
  obtain ⟨methM', cM, hmethM', -, -, -, -, -, -, hsigM⟩ := Cond.code_spec hnamed (mvT hZ w4 : (Cond.code y bytes maxL none).before args s = true)
  cases hmethM.symm.trans hmethM'
  have hnT : T.methodNamed? y = some mk := X.named hnamed
  have hnZT : (Z.setVm T.vm).methodNamed? y = some mk := by rw [State.methodNamed?_of_vm (U := Z.setVm T.vm) (V := T) rfl]; exact hnT
  have hnZ : Z.methodNamed? y = some mk := by rw [State.methodNamed?_setVm hT.alike] at hnZT; exact hnZT
  have hw : (Cond.methodRef own index y).before a0 (Z.setVm T.vm) = true := Cond.methodRef_warmed39 hT hnZ hy w1
  have hcur : (Z.setVm T.vm).vm.findClass own = some m.cls := by
    show T.vm.findClass own = some m.cls
    rw [X.warmed.alike.findClass]; exact hown
  obtain ⟨m', c', hm', hready, hfind, hnr⟩ := Cond.methodRef_named e (s := Z.setVm T.vm) hcur hw
  cases (State.methodFound?_of_named hnZT hy).symm.trans hm'
  cases (findClass_of_methodNamed hnZT).symm.trans hfind
  obtain ⟨kO, hkO, hnameO⟩ := className_of_methodNamed hnT
  have hmT : T.vm.method? mk = some methM := by rw [X.warmed.alike.method?]; exact hmethM
  obtain ⟨hnameMO, hdescO⟩ := name_of_methodNamed hnT hmT
  have hfound : lookupSpecial T.vm mk.cls "<init>" methM.desc = .method mk := by
    rw [hdescO, ← hy1]; exact lookupSpecial_of_named hnT hmT hstM
  obtain ⟨v, ⟨T', L', k', n'⟩, X', ⟨Lc, hQ, l1, y1, z1⟩, hsteps⟩ := backOf (W := W) (len := 3) hM hZ w4 w3 hf hl m meth c ⟨T, locs, cells, slots⟩ { g with stack := rest } (.invokespecial index) mk (.ref a :: argsL).toArray X hg hsize hdg hW hnT ⟨has, eT, hc, hs⟩
  dsimp only [Pt.U, Pt.locs, Pt.cells, Pt.slots] at X' l1 y1 z1 hsteps hQ
  subst l1 y1 z1
  refine ⟨v, T', _, Lc, rfl, X', hQ, fun target k => ?_⟩
  subst hg
  jvm_step X.here [X.here.top, hx, hdg, invokespecial.wp_init (e := e) (s := T) (f := g) (k := kO) (meth := methM) (m := mk) (a := a) (args := argsL) (rest := rest) X.here.top hnr hready hkO hmT (hnameMO.trans hy1) hstM habM hfound (hlen _ hsigM) hstack]
  first | (intro acts; rw [doInvoke_state]; exact hsteps.trans k) | (rw [doInvoke_state]; exact hsteps.trans k)
/-- a private method's own 'selects' word, out of another one of its class -/
theorem own_selP {C : String} {y y0 : MethodName} (w : (Cond.selects C y0 y0).before a0 Z = true) (h0 : y0.cls = y.cls) (wp : (Cond.privateMethod y).before a0 Z = true) (wi : (Cond.instanceMethod y).before a0 Z = true) (hy : y.cls ≠ "java/lang/invoke/MethodHandle" ∧ y.cls ≠ "java/lang/invoke/VarHandle") : (Cond.selects y.cls y y).before a0 Z = true := by
  obtain ⟨c, r, m, -, -, hm, -, k, hk, hi⟩ := Cond.selects_spec w
  exact Jvm.Stand.selects_self_of_private (h0 ▸ findClass_of_methodNamed hm) hk hi (Cond.privateMethod_at wp) wi hy
end OwnRef
section OwnArr
variable {Z : State} {h h' : Heap} {a b : Addr} {k : ClassId} {ty : FieldType} {vs : List Value} {v : Value} {sl : Nat} {wl : List Addr}
/-- the array at a holds just these values -/
def own_Ar (Z : State) (h : Heap) (a : Addr) (k : ClassId) (ty : FieldType) (vs : List Value) : Prop := ∃ c : Cell, Arr Z h a c ty ∧ c.cls = k ∧ c.slots = vs.toArray ∧ vs.length < 2 ^ 31 ∧ ∀ v ∈ vs, fits ty v = true
theorem own_Ar.lt (F : own_Ar Z h a k ty vs) : a < h.size := by obtain ⟨c, A, -⟩ := F; exact A.lt
theorem own_Ar.ext (F : own_Ar Z h a k ty vs) (E : Ext h h') : own_Ar Z h' a k ty vs := by obtain ⟨c, A, r⟩ := F; exact ⟨c, A.ext E, r⟩
theorem own_Ar.other (F : own_Ar Z h b k ty vs) (W : Wr h h' a sl v) (q : b ≠ a) : own_Ar Z h' b k ty vs := by obtain ⟨c, A, r⟩ := F; exact ⟨c, A.other W q, r⟩
theorem own_Ar.keep (F : own_Ar Z h a k ty vs) (K : Keep h h' wl) (q : a ∉ wl) : own_Ar Z h' a k ty vs := by obtain ⟨c, A, r⟩ := F; exact ⟨c, ⟨K.2.1 _ _ A.1 q, A.2⟩, r⟩
theorem own_Ar.new {z : Int32} (A : Arr Z h a (newA k ty z) ty) (hf : fits ty (defaultValue ty) = true) : own_Ar Z h a k ty (List.replicate z.toNatClampNeg (defaultValue ty)) := by
  refine ⟨_, A, rfl, by simp [newA], ?_, fun v hv => by rw [List.eq_of_mem_replicate hv]; exact hf⟩
  rw [List.length_replicate]
  have := z.toInt_lt
  rw [Int32.toNatClampNeg]
  omega
theorem own_Ar.set {j : Nat} (F : own_Ar Z h a k ty vs) (W : Wr h h' a j v) (hv : fits ty v = true) : own_Ar Z h' a k ty (vs.set j v) := by
  obtain ⟨c, A, q, s, l, f⟩ := F
  refine ⟨_, A.same W, q, ?_, by rw [List.length_set]; exact l, fun w hw => ?_⟩
  · show c.slots.setIfInBounds j v = _
    rw [s]; simp
  · rcases List.mem_or_eq_of_mem_set hw with hw | rfl
    · exact f w hw
    · exact hv
theorem own_Ar.arv (F : own_Ar Z h a k ty vs) (d : Value) : Arv Z h a k ty (Int32.ofNat vs.length) vs d := by
  obtain ⟨c, A, q, s, l, f⟩ := F
  have hl : (Int32.ofNat vs.length).toNatClampNeg = vs.length := by
    rw [Int32.toNatClampNeg, Int32.toInt_ofNat_of_lt (by omega)]; rfl
  have h0 : ¬ Int32.ofNat vs.length < 0 := by
    rw [Int32.lt_iff_toInt_lt, Int32.toInt_ofNat_of_lt (by omega)]; simp
  refine ⟨c, A, q, by rw [s, hl]; simp, h0, fun i hi => ?_, fun i hi => ?_⟩
  · rw [s] at hi ⊢
    simp only [List.size_toArray] at hi
    simp [List.getD, List.getElem?_eq_getElem hi]
  · rw [s] at hi
    simp only [List.size_toArray] at hi
    simp only [List.getD, List.getElem?_eq_getElem hi, Option.getD_some]
    exact f _ (List.getElem_mem hi)
theorem own_Ar.of_arv {z : Int32} {d : Value} (F : Arv Z h a k ty z vs d) (hl : z.toNatClampNeg = vs.length) : own_Ar Z h a k ty vs := by
  obtain ⟨c, A, q, s, l, H, f⟩ := F
  have hs : c.slots.size = vs.length := s.trans hl
  have e : c.slots = vs.toArray := by
    apply Array.ext_getElem?
    intro i
    by_cases hi : i < c.slots.size
    · rw [H i hi]
      have hi' : i < vs.length := hs ▸ hi
      simp [List.getD, List.getElem?_eq_getElem hi']
    · rw [Array.getElem?_eq_none (Nat.le_of_not_lt hi), Array.getElem?_eq_none (by simpa [← hs] using Nat.le_of_not_lt hi)]
  refine ⟨c, A, q, e, ?_, fun v hv => ?_⟩
  · rw [← hl]; have := z.toInt_lt; rw [Int32.toNatClampNeg]; omega
  · obtain ⟨i, hi, rfl⟩ := List.mem_iff_getElem.mp hv
    have := f i (hs ▸ hi)
    simpa [List.getD, List.getElem?_eq_getElem hi] using this
end OwnArr
section OwnArrSteps
variable {p : Program} {l : Launch} {e : Env} {R : Room} {s : State} {m : MethodId} {args : Array Value} {below : List Frame} {meth : Method} {c : Code} {T : State} {locs : List Loc} {cells slots : Nat} {Z : State} {a0 : Array Value} {h : Heap} {a : Addr} {k : ClassId} {ty : FieldType} {vs : List Value} {v : Value}
theorem own_inb {c : Cell} {vs : List Value} {j : Int32} (hs : c.slots = vs.toArray) (h0 : ¬ j < 0) (hj : j.toNatClampNeg < vs.length) : ¬ (j < 0 ∨ c.slots.size ≤ j.toNatClampNeg) := by
  rw [hs]; rintro (q | q)
  · exact h0 q
  · simp only [List.size_toArray] at q; omega
theorem own_arrlen (X : Stand p l e R s m args below meth c T locs cells slots) (hx : p.tables.exec = Jvm.exec) (hZ : Z.Warmed39 s.vm) (eT : T.heap = h) (F : own_Ar Z h a k ty vs) {n : Int32} (hn : Int32.ofNat vs.length = n) {g : JFrame} (hg : g.method = m) {rest : List Value} (hs : g.stack = .ref a :: rest) (hd : decode c.code g.pc = .ok (.arraylength, 1)) :
    ∀ target, Steps p.tables e below (T.setTop { g with pc := g.pc + 1, stack := .int n :: rest }) target → Steps p.tables e below (T.setTop g) target := by
  obtain ⟨cl, A, q, sz, ln, f⟩ := F
  intro t kk
  refine X.arraylength hx (by rw [eT]; exact A.1) (State.isArrayOf_alike hZ.alike A.2.1) hg hs hd t ?_
  have : cl.slots.size.toInt32 = n := by rw [sz, ← hn]; rfl
  rw [this]; exact kk
theorem own_iaload (X : Stand p l e R s m args below meth c T locs cells slots) (hx : p.tables.exec = Jvm.exec) (hZ : Z.Warmed39 s.vm) (eT : T.heap = h) (F : own_Ar Z h a k .int vs) {j : Int32} (h0 : ¬ j < 0) {i : Nat} (hj : j.toNatClampNeg = i) (hv : vs[i]? = some v) {g : JFrame} (hg : g.method = m) {rest : List Value} (hs : g.stack = .int j :: .ref a :: rest) (hd : decode c.code g.pc = .ok (.iaload, 1)) :
    ∀ target, Steps p.tables e below (T.setTop { g with pc := g.pc + 1, stack := v :: rest }) target → Steps p.tables e below (T.setTop g) target := by
  obtain ⟨cl, A, q, sz, ln, f⟩ := F
  subst hj
  exact X.iaload hx (by rw [eT]; exact A.1) (State.isArrayOf_alike hZ.alike A.2.1) A.2.2 (own_inb sz h0 (List.getElem?_eq_some_iff.mp hv).1) (by rw [sz]; simpa using hv) hg hs hd
theorem own_laload (X : Stand p l e R s m args below meth c T locs cells slots) (hx : p.tables.exec = Jvm.exec) (hZ : Z.Warmed39 s.vm) (eT : T.heap = h) (F : own_Ar Z h a k .long vs) {j : Int32} (h0 : ¬ j < 0) {i : Nat} (hj : j.toNatClampNeg = i) (hv : vs[i]? = some v) {g : JFrame} (hg : g.method = m) {rest : List Value} (hs : g.stack = .int j :: .ref a :: rest) (hd : decode c.code g.pc = .ok (.laload, 1)) :
    ∀ target, Steps p.tables e below (T.setTop { g with pc := g.pc + 1, stack := v :: rest }) target → Steps p.tables e below (T.setTop g) target := by
  obtain ⟨cl, A, q, sz, ln, f⟩ := F
  subst hj
  exact X.laload hx (by rw [eT]; exact A.1) (State.isArrayOf_alike hZ.alike A.2.1) A.2.2 (own_inb sz h0 (List.getElem?_eq_some_iff.mp hv).1) (by rw [sz]; simpa using hv) hg hs hd
theorem own_baload (X : Stand p l e R s m args below meth c T locs cells slots) (hx : p.tables.exec = Jvm.exec) (hZ : Z.Warmed39 s.vm) (eT : T.heap = h) (F : own_Ar Z h a k .byte vs) {j : Int32} (h0 : ¬ j < 0) {i : Nat} (hj : j.toNatClampNeg = i) (hv : vs[i]? = some v) {g : JFrame} (hg : g.method = m) {rest : List Value} (hs : g.stack = .int j :: .ref a :: rest) (hd : decode c.code g.pc = .ok (.baload, 1)) :
    ∀ target, Steps p.tables e below (T.setTop { g with pc := g.pc + 1, stack := v :: rest }) target → Steps p.tables e below (T.setTop g) target := by
  obtain ⟨cl, A, q, sz, ln, f⟩ := F
  subst hj
  exact X.baloadBytes hx (by rw [eT]; exact A.1) (State.isArrayOf_alike hZ.alike A.2.1) A.2.2 (own_inb sz h0 (List.getElem?_eq_some_iff.mp hv).1) (by rw [sz]; simpa using hv) hg hs hd
theorem own_aaload (X : Stand p l e R s m args below meth c T locs cells slots) (hx : p.tables.exec = Jvm.exec) (hZ : Z.Warmed39 s.vm) (eT : T.heap = h) (F : own_Ar Z h a k ty vs) (hty : ty.isReference = true) {j : Int32} (h0 : ¬ j < 0) {i : Nat} (hj : j.toNatClampNeg = i) (hv : vs[i]? = some v) {g : JFrame} (hg : g.method = m) {rest : List Value} (hs : g.stack = .int j :: .ref a :: rest) (hd : decode c.code g.pc = .ok (.aaload, 1)) :
    ∀ target, Steps p.tables e below (T.setTop { g with pc := g.pc + 1, stack := v :: rest }) target → Steps p.tables e below (T.setTop g) target := by
  obtain ⟨cl, A, q, sz, ln, f⟩ := F
  subst hj
  exact X.aaload hx (by rw [eT]; exact A.1) (State.isArrayOf_alike hZ.alike A.2.1) hty A.2.2 (own_inb sz h0 (List.getElem?_eq_some_iff.mp hv).1) (by rw [sz]; simpa using hv) hg hs hd
theorem own_iastore (X : Stand p l e R s m args below meth c T locs cells slots) (hx : p.tables.exec = Jvm.exec) (hZ : Z.Warmed39 s.vm) (eT : T.heap = h) (F : own_Ar Z h a k .int vs) {j x : Int32} (h0 : ¬ j < 0) {i : Nat} (hj : j.toNatClampNeg = i) (hi : i < vs.length) {g : JFrame} (hg : g.method = m) {rest : List Value} (hs : g.stack = .int x :: .int j :: .ref a :: rest) (hd : decode c.code g.pc = .ok (.iastore, 1)) :
    ∃ T' h', Stand p l e R s m args below meth c T' (locs ++ [⟨a, i⟩]) cells slots ∧ T'.heap = h' ∧ Wr h h' a i (.int x) ∧ own_Ar Z h' a k .int (vs.set i (.int x)) ∧ ∀ target, Steps p.tables e below (T'.setTop { g with pc := g.pc + 1, stack := rest }) target → Steps p.tables e below (T.setTop g) target := by
  have F' := F
  obtain ⟨cl, A, q, sz, ln, f⟩ := F
  subst hj
  obtain ⟨T', h', X', e', W, st⟩ := stI X hx hZ eT A (own_inb sz h0 hi) hg hs hd
  exact ⟨T', h', X', e', W, F'.set W rfl, st⟩
theorem own_lastore (X : Stand p l e R s m args below meth c T locs cells slots) (hx : p.tables.exec = Jvm.exec) (hZ : Z.Warmed39 s.vm) (eT : T.heap = h) (F : own_Ar Z h a k .long vs) {j : Int32} {x : Int64} (h0 : ¬ j < 0) {i : Nat} (hj : j.toNatClampNeg = i) (hi : i < vs.length) {g : JFrame} (hg : g.method = m) {rest : List Value} (hs : g.stack = .long x :: .int j :: .ref a :: rest) (hd : decode c.code g.pc = .ok (.lastore, 1)) :
    ∃ T' h', Stand p l e R s m args below meth c T' (locs ++ [⟨a, i⟩]) cells slots ∧ T'.heap = h' ∧ Wr h h' a i (.long x) ∧ own_Ar Z h' a k .long (vs.set i (.long x)) ∧ ∀ target, Steps p.tables e below (T'.setTop { g with pc := g.pc + 1, stack := rest }) target → Steps p.tables e below (T.setTop g) target := by
  have F' := F
  obtain ⟨cl, A, q, sz, ln, f⟩ := F
  subst hj
  obtain ⟨T', h', X', e', W, st⟩ := stJ X hx hZ eT A (own_inb sz h0 hi) hg hs hd
  exact ⟨T', h', X', e', W, F'.set W rfl, st⟩
theorem own_bastore (X : Stand p l e R s m args below meth c T locs cells slots) (hx : p.tables.exec = Jvm.exec) (hZ : Z.Warmed39 s.vm) (eT : T.heap = h) (F : own_Ar Z h a k .byte vs) {j x : Int32} (h0 : ¬ j < 0) {i : Nat} (hj : j.toNatClampNeg = i) (hi : i < vs.length) {g : JFrame} (hg : g.method = m) {rest : List Value} (hs : g.stack = .int x :: .int j :: .ref a :: rest) (hd : decode c.code g.pc = .ok (.bastore, 1)) :
    ∃ T' h', Stand p l e R s m args below meth c T' (locs ++ [⟨a, i⟩]) cells slots ∧ T'.heap = h' ∧ Wr h h' a i (.int x.toInt8.toInt32) ∧ own_Ar Z h' a k .byte (vs.set i (.int x.toInt8.toInt32)) ∧ ∀ target, Steps p.tables e below (T'.setTop { g with pc := g.pc + 1, stack := rest }) target → Steps p.tables e below (T.setTop g) target := by
  have F' := F
  obtain ⟨cl, A, q, sz, ln, f⟩ := F
  subst hj
  obtain ⟨T', h', X', e', W, st⟩ := stB X hx hZ eT A (own_inb sz h0 hi) hg hs hd
  exact ⟨T', h', X', e', W, F'.set W (fits_nar_byte _), st⟩
theorem own_aastore (X : Stand p l e R s m args below meth c T locs cells slots) (hx : p.tables.exec = Jvm.exec) (hZ : Z.Warmed39 s.vm) (eT : T.heap = h) (F : own_Ar Z h a k ty vs) (hty : ty.isReference = true) (hfv : fits ty v = true) (S : Sto Z h a v) {j : Int32} (h0 : ¬ j < 0) {i : Nat} (hj : j.toNatClampNeg = i) (hi : i < vs.length) {g : JFrame} (hg : g.method = m) {rest : List Value} (hs : g.stack = v :: .int j :: .ref a :: rest) (hd : decode c.code g.pc = .ok (.aastore, 1)) :
    ∃ T' h', Stand p l e R s m args below meth c T' (locs ++ [⟨a, i⟩]) cells slots ∧ T'.heap = h' ∧ Wr h h' a i v ∧ own_Ar Z h' a k ty (vs.set i v) ∧ ∀ target, Steps p.tables e below (T'.setTop { g with pc := g.pc + 1, stack := rest }) target → Steps p.tables e below (T.setTop g) target := by
  have F' := F
  obtain ⟨cl, A, q, sz, ln, f⟩ := F
  subst hj
  obtain ⟨T', h', X', e', W, st⟩ := stR X hx hZ eT A (own_inb sz h0 hi) hty S hg hs hd
  exact ⟨T', h', X', e', W, F'.set W hfv, st⟩
theorem own_newarr (X : Stand p l e R s m args below meth c T locs cells slots) (hx : p.tables.exec = Jvm.exec) (hZ : Z.Warmed39 s.vm) {aty : ArrayType} (w : (Cond.arrayClass (newarray.typeOf aty)).before a0 Z = true) (eT : T.heap = h) {g : JFrame} (hg : g.method = m) (hd : decode c.code g.pc = .ok (.newarray aty, 2)) {n : Int32} {rest : List Value} (hs : g.stack = .int n :: rest)
    (hn : ¬ n < 0) {cap : Nat} (hcap : n.toNatClampNeg ≤ cap) (hb : cap * 8 ≤ 536870912) (hc : cells + 1 ≤ R.cells) (hl : slots + cap ≤ R.slots) {ad : String} (had : "[" ++ (newarray.typeOf aty).toString = ad) (hf : fits (newarray.typeOf aty) (defaultValue (newarray.typeOf aty)) = true) (hvs : List.replicate n.toNatClampNeg (defaultValue (newarray.typeOf aty)) = vs) :
    ∃ T' h' cA, Stand p l e R s m args below meth c T' locs (cells + 1) (slots + cap) ∧ T'.heap = h' ∧ Ext h h' ∧ own_Ar Z h' h.size cA (newarray.typeOf aty) vs ∧ Exa Z h' h.size ad ∧
      ∀ target, Steps p.tables e below (T'.setTop { g with pc := g.pc + 2, stack := .ref h.size :: rest }) target → Steps p.tables e below (T.setTop g) target := by
  obtain ⟨T', h', cA, X', e', E, A, Ex, st⟩ := newPE X hx hZ w eT hg hd hs hn hcap hb hc hl had
  exact ⟨T', h', cA, X', e', E, hvs ▸ own_Ar.new A hf, Ex, st⟩
theorem own_anewarr (X : Stand p l e R s m args below meth c T locs cells slots) (hx : p.tables.exec = Jvm.exec) (hZ : Z.Warmed39 s.vm) {own C : String} {index : Nat} (hown : s.vm.findClass own = some m.cls) (w1 : (Cond.classLink own index C).before a0 Z = true) (w2 : (Cond.arrayOver (.object C)).before a0 Z = true) (eT : T.heap = h) {g : JFrame} (hg : g.method = m) (hd : decode c.code g.pc = .ok (.anewarray index, 3)) {n : Int32} {rest : List Value} (hs : g.stack = .int n :: rest)
    (hn : ¬ n < 0) {cap : Nat} (hcap : n.toNatClampNeg ≤ cap) (hb : cap * 8 ≤ 536870912) (hc : cells + 1 ≤ R.cells) (hl : slots + cap ≤ R.slots) (hvs : List.replicate n.toNatClampNeg Value.null = vs) :
    ∃ T' h' cA, Stand p l e R s m args below meth c T' locs (cells + 1) (slots + cap) ∧ T'.heap = h' ∧ Ext h h' ∧ own_Ar Z h' h.size cA (.object C) vs ∧ Ovr Z cA C ∧
      ∀ target, Steps p.tables e below (T'.setTop { g with pc := g.pc + 3, stack := .ref h.size :: rest }) target → Steps p.tables e below (T.setTop g) target := by
  obtain ⟨T', h', cA, X', e', E, A, O, st⟩ := newR X hx hZ hown w1 w2 eT hg hd hs hn hcap hb hc hl
  exact ⟨T', h', cA, X', e', E, hvs ▸ own_Ar.new A rfl, O, st⟩
theorem own_arrlenA (X : Stand p l e R s m args below meth c T locs cells slots) (hx : p.tables.exec = Jvm.exec) (hZ : Z.Warmed39 s.vm) (eT : T.heap = h) {cl : Cell} (A : Arr Z h a cl ty) {n : Int32} (hn : cl.slots.size.toInt32 = n) {g : JFrame} (hg : g.method = m) {rest : List Value} (hs : g.stack = .ref a :: rest) (hd : decode c.code g.pc = .ok (.arraylength, 1)) :
    ∀ target, Steps p.tables e below (T.setTop { g with pc := g.pc + 1, stack := .int n :: rest }) target → Steps p.tables e below (T.setTop g) target := by
  subst hn
  exact X.arraylength hx (by rw [eT]; exact A.1) (State.isArrayOf_alike hZ.alike A.2.1) hg hs hd
theorem own_len0 {args : Array Value} {s : State} {t : Term} {a : Addr} {n : Int32} {ty : FieldType} (ev : t.eval args s none [] s = some (.ref a)) (h6 : (Cond.arrayOf t ty).before args s = true) (h8 : (Cond.eq (.length t) (.int n)).before args s = true) : ∃ c : Cell, Arr s s.heap a c ty ∧ c.slots.size.toInt32 = n := by
  obtain ⟨c, A⟩ := Arr.start ev (Cond.before_iff.mp h6)
  have h8 := Cond.before_iff.mp h8
  obtain ⟨x, y, e1, -⟩ := cmp_v (Or.inl h8)
  obtain ⟨b, cell, q1, q2, rfl⟩ := Term.length_spec e1
  cases ev.symm.trans q1
  cases (Arr.fin (State.Warmed39.refl s).alike A).symm.trans q2
  exact ⟨_, A, gotT (Cond.eq_ints e1 (Term.int_eval n)) h8⟩
end OwnArrSteps
theorem own_ofn {i : Nat} (h : i < 100) : ¬ Int32.ofNat i < 0 ∧ (Int32.ofNat i).toNatClampNeg = i ∧ (Int32.ofNat i).toInt = i := by
  have e : (Int32.ofNat i).toInt = i := Int32.toInt_ofNat_of_lt (by omega)
  refine ⟨fun q => ?_, by rw [Int32.toNatClampNeg, e]; rfl, e⟩
  rw [Int32.lt_iff_toInt_lt, e] at q
  have : (0 : Int32).toInt = 0 := rfl
  omega
theorem own_lt {i j : Nat} (hi : i < 100) (hj : j < 100) : Int32.ofNat i < Int32.ofNat j ↔ i < j := by
  rw [Int32.lt_iff_toInt_lt, (own_ofn hi).2.2, (own_ofn hj).2.2]; omega
theorem own_eqn {i j : Nat} (hi : i < 100) (hj : j < 100) : Int32.ofNat i = Int32.ofNat j ↔ i = j := by
  rw [← Int32.toInt_inj, (own_ofn hi).2.2, (own_ofn hj).2.2]; omega
theorem own_up1 (k : Nat) : Int32.ofNat (k + 1) - (1 : Int32) = Int32.ofNat k := by
  rw [own_succ, Int32.add_sub_cancel]
theorem own_ldcF {p : Program} {l : Launch} {e : Env} {R : Room} {s : State} {m : MethodId} {args : Array Value} {below : List Frame} {meth : Method} {c : Code} {T : State} {locs : List Loc} {cells slots : Nat} {Z : State} {a0 : Array Value} (X : Stand p l e R s m args below meth c T locs cells slots) (hx : p.tables.exec = Jvm.exec) (hZ : Z.Warmed39 s.vm) {own : String} {index : Nat} {b : UInt32} (hown : s.vm.findClass own = some m.cls)
    (w : (Cond.constantFloat own index b).before a0 Z = true) {g : JFrame} (hg : g.method = m) (hdg : decode c.code g.pc = .ok (.ldc index, 2)) :
    ∀ target, Steps p.tables e below (T.setTop { g with pc := g.pc + 2, stack := .float b :: g.stack }) target → Steps p.tables e below (T.setTop g) target := by
  obtain ⟨k, cf, hk, hcf, hc⟩ := Cond.constantFloat_spec hown (mvT hZ w : (Cond.constantFloat own index b).before args s = true)
  exact X.ldcFloat hx hk hcf hc hg hdg
/-- the log's own fields -/
def own_F (Z : State) (h : Heap) (a la ra ga nu : Addr) (en sz se pr hs : Int32) (tb ea lr : Value) : Prop := Exa Z h a "com/example/obedient_dog/obedientdog/topologydiscovery/AgeLog" ∧ Fld Z h a "com/example/obedient_dog/obedientdog/topologydiscovery/AgeLog" "latest" "[I" (.ref la) ∧ Fld Z h a "com/example/obedient_dog/obedientdog/topologydiscovery/AgeLog" "raised" "[I" (.ref ra) ∧ Fld Z h a "com/example/obedient_dog/obedientdog/topologydiscovery/AgeLog" "ages" "[I" (.ref ga) ∧ Fld Z h a "com/example/obedient_dog/obedientdog/topologydiscovery/AgeLog" "numbers" "Lcom/example/obedient_dog/obedientdog/topologydiscovery/LinkNumbers;" (.ref nu) ∧ Fld Z h a "com/example/obedient_dog/obedientdog/topologydiscovery/AgeLog" "entries" "I" (.int en) ∧ Fld Z h a "com/example/obedient_dog/obedientdog/topologydiscovery/AgeLog" "size" "I" (.int sz) ∧ Fld Z h a "com/example/obedient_dog/obedientdog/topologydiscovery/AgeLog" "sealed" "I" (.int se) ∧ Fld Z h a "com/example/obedient_dog/obedientdog/topologydiscovery/AgeLog" "present" "I" (.int pr) ∧ Fld Z h a "com/example/obedient_dog/obedientdog/topologydiscovery/AgeLog" "hash" "I" (.int hs) ∧ Fld Z h a "com/example/obedient_dog/obedientdog/topologydiscovery/AgeLog" "table" "Lcom/example/obedient_dog/obedientdog/topologydiscovery/AgeTable;" tb ∧ Fld Z h a "com/example/obedient_dog/obedientdog/topologydiscovery/AgeLog" "earlier" "[I" ea ∧ Fld Z h a "com/example/obedient_dog/obedientdog/topologydiscovery/AgeLog" "later" "[I" lr
/-- .. of a new one -/
def own_F0 (Z : State) (h : Heap) (a : Addr) : Prop := Exa Z h a "com/example/obedient_dog/obedientdog/topologydiscovery/AgeLog" ∧ Fld Z h a "com/example/obedient_dog/obedientdog/topologydiscovery/AgeLog" "latest" "[I" .null ∧ Fld Z h a "com/example/obedient_dog/obedientdog/topologydiscovery/AgeLog" "raised" "[I" .null ∧ Fld Z h a "com/example/obedient_dog/obedientdog/topologydiscovery/AgeLog" "ages" "[I" .null ∧ Fld Z h a "com/example/obedient_dog/obedientdog/topologydiscovery/AgeLog" "numbers" "Lcom/example/obedient_dog/obedientdog/topologydiscovery/LinkNumbers;" .null ∧ Fld Z h a "com/example/obedient_dog/obedientdog/topologydiscovery/AgeLog" "entries" "I" (.int 0) ∧ Fld Z h a "com/example/obedient_dog/obedientdog/topologydiscovery/AgeLog" "size" "I" (.int 0) ∧ Fld Z h a "com/example/obedient_dog/obedientdog/topologydiscovery/AgeLog" "sealed" "I" (.int 0) ∧ Fld Z h a "com/example/obedient_dog/obedientdog/topologydiscovery/AgeLog" "present" "I" (.int 0) ∧ Fld Z h a "com/example/obedient_dog/obedientdog/topologydiscovery/AgeLog" "hash" "I" (.int 0) ∧ Fld Z h a "com/example/obedient_dog/obedientdog/topologydiscovery/AgeLog" "table" "Lcom/example/obedient_dog/obedientdog/topologydiscovery/AgeTable;" .null ∧ Fld Z h a "com/example/obedient_dog/obedientdog/topologydiscovery/AgeLog" "earlier" "[I" .null ∧ Fld Z h a "com/example/obedient_dog/obedientdog/topologydiscovery/AgeLog" "later" "[I" .null
abbrev own_is (l : List Nat) : List Value := l.map fun n => Value.int (Int32.ofNat n)
abbrev own_zs : List Value := List.replicate 16 (.int 0)
theorem own_is_at {l : List Nat} {i : Nat} (h : i < l.length) : (own_is l)[i]? = some (.int (Int32.ofNat (l.getD i 0))) := by simp [own_is, List.getD, List.getElem?_eq_getElem h]
theorem own_is_set (l : List Nat) (i v : Nat) : (own_is l).set i (.int (Int32.ofNat v)) = own_is (l.set i v) := by simp [own_is, List.map_set]
theorem own_pd0 : parseMethodDescriptor "(I)I" = some ⟨[.int], some .int⟩ := by decide +kernel
theorem own_pd1 : parseMethodDescriptor "(III)V" = some ⟨[.int, .int, .int], none⟩ := by decide +kernel
theorem own_pd2 : parseMethodDescriptor "(II)I" = some ⟨[.int, .int], some .int⟩ := by decide +kernel
theorem own_pd3 : parseMethodDescriptor "(II)V" = some ⟨[.int, .int], none⟩ := by decide +kernel
theorem own_pd4 : parseMethodDescriptor "()V" = some ⟨[], none⟩ := by decide +kernel
theorem own_pd5 : parseMethodDescriptor "(II)Z" = some ⟨[.int, .int], some .boolean⟩ := by decide +kernel
theorem dha_0 : decode prog_46_method_5_code 0 = .ok (.aload_n 0, 1) := by decide +kernel
theorem dha_1 : decode prog_46_method_5_code 1 = .ok (.getfield 23, 3) := by decide +kernel
theorem dha_4 : decode prog_46_method_5_code 4 = .ok (.iload_n 1, 1) := by decide +kernel
theorem dha_5 : decode prog_46_method_5_code 5 = .ok (.iaload, 1) := by decide +kernel
theorem dha_6 : decode prog_46_method_5_code 6 = .ok (.ireturn, 1) := by decide +kernel
theorem own_pn0 : plainName "com/example/obedient_dog/obedientdog/topologydiscovery/LinkNumbers" = true := by first | (simp [plainName, overriddenIn]; done) | decide +kernel
theorem own_efha (m : MethodId) (nu : Addr) (p1 : Int32) : entryFrame m #[(.ref nu), (.int p1)] 2 = mkF m 0 #[.val (.ref nu), .val (.int p1)] [] := by first | (simp [entryFrame, mkF, argsToLocals, Value.category]; done) | rfl
set_option maxRecDepth 65536 in
set_option maxHeartbeats 40000000 in
theorem own_rmha (l : Launch) (Z : State) (a0 : Array Value) (hw : ∀ d ∈ tables_1, d.before a0 Z = true) (nu : Addr) (p1 : Int32) (h0 : Heap) (i : Nat) (hi : i < 16) (hp : p1 = Int32.ofNat i) (ha : Addr) (kh : ClassId) (E_nu : Exa Z h0 nu "com/example/obedient_dog/obedientdog/topologydiscovery/LinkNumbers") (F_hashes_nu : Fld Z h0 nu "com/example/obedient_dog/obedientdog/topologydiscovery/LinkNumbers" "hashes" "[I" (.ref ha)) (V_ha : own_Ar Z h0 ha kh .int own_zs) :
    own_C l Z (⟨"com/example/obedient_dog/obedientdog/topologydiscovery/LinkNumbers", "hash", "(I)I"⟩ : MethodName) prog_46_method_5_code 2 (some .int) [] ({ frames := 0, cells := 0, slots := 0, locals := 0 } : Room) #[(.ref nu), (.int p1)] h0 (fun v h L => v = some (.int 0) ∧ L = [] ∧ h = h0) := by
  refine own_body (plainFor_of_name own_pn0) fun p e s m below meth c s₁ hx hby hml hret hlk hown hnm hZ X0 e0 => ?_
  rw [own_efha m nu p1]
  subst hp
  have oi := own_ofn (i := i) (by omega)
  refine own_go (U' := s₁.setTop (mkF m 1 #[.val (.ref nu), .val (.int (Int32.ofNat i))] [(.ref nu)])) (fun t k => XS.aloadN X0.here hx rfl (hb hby dha_0) rfl rfl k) ?_
  obtain ⟨T1, X1, e1, st1⟩ := getF X0 hx hZ hown (host := "") (Or.inl (hw _ (List.mem_of_getElem? (i := 57) rfl))) Via.refl e0 F_hashes_nu (g := (mkF m 1 #[.val (.ref nu), .val (.int (Int32.ofNat i))] [(.ref nu)])) rfl rfl (hb hby dha_1)
  refine own_go (U' := T1.setTop (mkF m 4 #[.val (.ref nu), .val (.int (Int32.ofNat i))] [(.ref ha)])) st1 ?_
  refine own_go (U' := T1.setTop (mkF m 5 #[.val (.ref nu), .val (.int (Int32.ofNat i))] [(.int (Int32.ofNat i)), (.ref ha)])) (fun t k => XS.iloadN X1.here hx rfl (hb hby dha_4) rfl k) ?_
  refine own_go (U' := T1.setTop (mkF m 6 #[.val (.ref nu), .val (.int (Int32.ofNat i))] [(.int (0 : Int32))])) (own_iaload X1 hx hZ e1 V_ha (j := (Int32.ofNat i)) oi.1 (i := i) oi.2.1 (v := (.int (0 : Int32))) (by rw [List.getElem?_replicate, if_pos hi]) (g := (mkF m 5 #[.val (.ref nu), .val (.int (Int32.ofNat i))] [(.int (Int32.ofNat i)), (.ref ha)])) rfl rfl (hb hby dha_5)) ?_
  refine own_retI X1 hx hret hlk (hb hby dha_6) ?_ (by decide) (by decide)
  exact ⟨rfl, rfl, e1⟩
theorem dct_0 : decode prog_39_method_15_code 0 = .ok (.aload_n 0, 1) := by decide +kernel
theorem dct_1 : decode prog_39_method_15_code 1 = .ok (.dup, 1) := by decide +kernel
theorem dct_2 : decode prog_39_method_15_code 2 = .ok (.getfield 87, 3) := by decide +kernel
theorem dct_5 : decode prog_39_method_15_code 5 = .ok (.iload_n 2, 1) := by decide +kernel
theorem dct_6 : decode prog_39_method_15_code 6 = .ok (.iconst 2, 1) := by decide +kernel
theorem dct_7 : decode prog_39_method_15_code 7 = .ok (.irem, 1) := by decide +kernel
theorem dct_8 : decode prog_39_method_15_code 8 = .ok (.ifCond .ne 7, 3) := by decide +kernel
theorem dct_11 : decode prog_39_method_15_code 11 = .ok (.iload_n 3, 1) := by decide +kernel
theorem dct_12 : decode prog_39_method_15_code 12 = .ok (.goto 4, 3) := by decide +kernel
theorem dct_15 : decode prog_39_method_15_code 15 = .ok (.iconst 0, 1) := by decide +kernel
theorem dct_16 : decode prog_39_method_15_code 16 = .ok (.iadd, 1) := by decide +kernel
theorem dct_17 : decode prog_39_method_15_code 17 = .ok (.putfield 87, 3) := by decide +kernel
theorem dct_20 : decode prog_39_method_15_code 20 = .ok (.aload_n 0, 1) := by decide +kernel
theorem dct_21 : decode prog_39_method_15_code 21 = .ok (.dup, 1) := by decide +kernel
theorem dct_22 : decode prog_39_method_15_code 22 = .ok (.getfield 90, 3) := by decide +kernel
theorem dct_25 : decode prog_39_method_15_code 25 = .ok (.iload_n 3, 1) := by decide +kernel
theorem dct_26 : decode prog_39_method_15_code 26 = .ok (.aload_n 0, 1) := by decide +kernel
theorem dct_27 : decode prog_39_method_15_code 27 = .ok (.getfield 19, 3) := by decide +kernel
theorem dct_30 : decode prog_39_method_15_code 30 = .ok (.iload_n 1, 1) := by decide +kernel
theorem dct_31 : decode prog_39_method_15_code 31 = .ok (.invokevirtual 102, 3) := by decide +kernel
theorem dct_34 : decode prog_39_method_15_code 34 = .ok (.iload_n 2, 1) := by decide +kernel
theorem dct_35 : decode prog_39_method_15_code 35 = .ok (.ixor, 1) := by decide +kernel
theorem dct_36 : decode prog_39_method_15_code 36 = .ok (.imul, 1) := by decide +kernel
theorem dct_37 : decode prog_39_method_15_code 37 = .ok (.iadd, 1) := by decide +kernel
theorem dct_38 : decode prog_39_method_15_code 38 = .ok (.putfield 90, 3) := by decide +kernel
theorem dct_41 : decode prog_39_method_15_code 41 = .ok (.return_, 1) := by decide +kernel
theorem own_pn1 : plainName "com/example/obedient_dog/obedientdog/topologydiscovery/AgeLog" = true := by first | (simp [plainName, overriddenIn]; done) | decide +kernel
theorem own_efct (m : MethodId) (a : Addr) (p1 p2 p3 : Int32) : entryFrame m #[(.ref a), (.int p1), (.int p2), (.int p3)] 4 = mkF m 0 #[.val (.ref a), .val (.int p1), .val (.int p2), .val (.int p3)] [] := by first | (simp [entryFrame, mkF, argsToLocals, Value.category]; done) | rfl
set_option maxRecDepth 65536 in
set_option maxHeartbeats 40000000 in
theorem own_rmct (l : Launch) (Z : State) (a0 : Array Value) (hw : ∀ d ∈ tables_1, d.before a0 Z = true) (a : Addr) (p1 p2 p3 : Int32) (h0 : Heap) (n0 : Nat) (g_a : n0 ≤ a) (la ra ga nu ha : Addr) (kh : ClassId) (en sz se pr hs : Int32) (tb ea lr : Value) (htb : tb.isRef = true) (hea : ea.isRef = true) (hlr : lr.isRef = true) (i : Nat) (hi : i < 16) (hp : p1 = Int32.ofNat i) (F_a : own_F Z h0 a la ra ga nu en sz se pr hs tb ea lr) (E_nu : Exa Z h0 nu "com/example/obedient_dog/obedientdog/topologydiscovery/LinkNumbers") (F_hashes_nu : Fld Z h0 nu "com/example/obedient_dog/obedientdog/topologydiscovery/LinkNumbers" "hashes" "[I" (.ref ha)) (V_ha : own_Ar Z h0 ha kh .int own_zs) :
    own_C l Z (⟨"com/example/obedient_dog/obedientdog/topologydiscovery/AgeLog", "count", "(III)V"⟩ : MethodName) prog_39_method_15_code 4 none [] ({ frames := 1, cells := 0, slots := 0, locals := 17 } : Room) #[(.ref a), (.int p1), (.int p2), (.int p3)] h0 (fun v h L => v = none ∧ Fr n0 L ∧ Keep h0 h [a] ∧ ∃ pr hs, own_F Z h a la ra ga nu en sz se pr hs tb ea lr) := by
  refine own_body (plainFor_of_name own_pn1) fun p e s m below meth c s₁ hx hby hml hret hlk hown hnm hZ X0 e0 => ?_
  rw [own_efct m a p1 p2 p3]
  have N0 := Fr.nil n0
  have K := Keep.refl h0 [a]
  obtain ⟨E_a, F_latest_a, F_raised_a, F_ages_a, F_numbers_a, F_entries_a, F_size_a, F_sealed_a, F_present_a, F_hash_a, F_table_a, F_earlier_a, F_later_a⟩ := F_a
  have ne_a_ha : a ≠ ha := by
    obtain ⟨cb, Ab, -⟩ := V_ha
    exact ne_arr E_a (hw _ (List.mem_of_getElem? (i := 1) rfl)) Ab
  have ne_nu_ha : nu ≠ ha := by
    obtain ⟨cb, Ab, -⟩ := V_ha
    exact ne_arr E_nu (hw _ (List.mem_of_getElem? (i := 4) rfl)) Ab
  have ne_a_nu : a ≠ nu := ne_exa E_a E_nu (by decide)
  refine own_go (U' := s₁.setTop (mkF m 1 #[.val (.ref a), .val (.int p1), .val (.int p2), .val (.int p3)] [(.ref a)])) (fun t k => XS.aloadN X0.here hx rfl (hb hby dct_0) rfl rfl k) ?_
  refine own_go (U' := s₁.setTop (mkF m 2 #[.val (.ref a), .val (.int p1), .val (.int p2), .val (.int p3)] [(.ref a), (.ref a)])) (fun t k => XS.dup X0.here hx rfl (hb hby dct_1) rfl rfl k) ?_
  obtain ⟨T1, X1, e1, st1⟩ := getF X0 hx hZ hown (host := "") (Or.inl (hw _ (List.mem_of_getElem? (i := 93) rfl))) Via.refl e0 F_present_a (g := (mkF m 2 #[.val (.ref a), .val (.int p1), .val (.int p2), .val (.int p3)] [(.ref a), (.ref a)])) rfl rfl (hb hby dct_2)
  refine own_go (U' := T1.setTop (mkF m 5 #[.val (.ref a), .val (.int p1), .val (.int p2), .val (.int p3)] [(.int pr), (.ref a)])) st1 ?_
  refine own_go (U' := T1.setTop (mkF m 6 #[.val (.ref a), .val (.int p1), .val (.int p2), .val (.int p3)] [(.int p2), (.int pr), (.ref a)])) (fun t k => XS.iloadN X1.here hx rfl (hb hby dct_5) rfl k) ?_
  refine own_go (U' := T1.setTop (mkF m 7 #[.val (.ref a), .val (.int p1), .val (.int p2), .val (.int p3)] [(.int (2 : Int32)), (.int p2), (.int pr), (.ref a)])) (fun t k => XS.iconst X1.here hx rfl (hb hby dct_6) k) ?_
  refine own_go (U' := T1.setTop (mkF m 8 #[.val (.ref a), .val (.int p1), .val (.int p2), .val (.int p3)] [(.int (p2 % (2 : Int32))), (.int pr), (.ref a)])) (fun t k => iremM X1 hx rfl (hb hby dct_7) rfl (by decide) k) ?_
  refine own_go (U' := T1.setTop (mkF m 16 #[.val (.ref a), .val (.int p1), .val (.int p2), .val (.int p3)] [(.int (if (p2 % (2 : Int32)) = (0 : Int32) then p3 else (0 : Int32))), (.int pr), (.ref a)])) (fun t k => ?_) ?_
  · show Steps p.tables e below (T1.setTop (mkF m 8 #[.val (.ref a), .val (.int p1), .val (.int p2), .val (.int p3)] [(.int (p2 % (2 : Int32))), (.int pr), (.ref a)])) _
    by_cases hd8 : (p2 % (2 : Int32)) = (0 : Int32)
    · simp only [if_pos hd8] at k
      refine XS.ifNo X1.here hx rfl (hb hby dct_8) rfl ((if0 _ _).trans (teq hd8).2) ?_
      show Steps p.tables e below (T1.setTop (mkF m 11 #[.val (.ref a), .val (.int p1), .val (.int p2), .val (.int p3)] [(.int pr), (.ref a)])) _
      refine XS.iloadN X1.here hx rfl (hb hby dct_11) rfl ?_
      show Steps p.tables e below (T1.setTop (mkF m 12 #[.val (.ref a), .val (.int p1), .val (.int p2), .val (.int p3)] [(.int p3), (.int pr), (.ref a)])) _
      refine XS.goto X1.here hx rfl (pc0 := 12) (pc' := 16) rfl (hb hby dct_12) (by decide) (by decide) ?_
      show Steps p.tables e below (T1.setTop (mkF m 16 #[.val (.ref a), .val (.int p1), .val (.int p2), .val (.int p3)] [(.int p3), (.int pr), (.ref a)])) _
      exact k
    · simp only [if_neg hd8] at k
      refine XS.ifYes X1.here hx rfl (pc0 := 8) (pc' := 15) rfl (hb hby dct_8) rfl ((if0 _ _).trans (feq hd8).2) (by decide) (by decide) ?_
      show Steps p.tables e below (T1.setTop (mkF m 15 #[.val (.ref a), .val (.int p1), .val (.int p2), .val (.int p3)] [(.int pr), (.ref a)])) _
      refine XS.iconst X1.here hx rfl (hb hby dct_15) ?_
      show Steps p.tables e below (T1.setTop (mkF m 16 #[.val (.ref a), .val (.int p1), .val (.int p2), .val (.int p3)] [(.int (0 : Int32)), (.int pr), (.ref a)])) _
      exact k
  refine own_go (U' := T1.setTop (mkF m 17 #[.val (.ref a), .val (.int p1), .val (.int p2), .val (.int p3)] [(.int (pr + (if (p2 % (2 : Int32)) = (0 : Int32) then p3 else (0 : Int32)))), (.ref a)])) (fun t k => XS.iadd X1.here hx rfl (hb hby dct_16) rfl k) ?_
  obtain ⟨T2, h2, X2, e2, W2, st2⟩ := putF X1 hx hZ hown (host := "") (Or.inl (hw _ (List.mem_of_getElem? (i := 93) rfl))) Via.refl e1 F_present_a E_a (Or.inl (hw _ (List.mem_of_getElem? (i := 94) rfl))) (hw _ (List.mem_of_getElem? (i := 1) rfl)) (ty := .int) (by decide) rfl rfl (g := (mkF m 17 #[.val (.ref a), .val (.int p1), .val (.int p2), .val (.int p3)] [(.int (pr + (if (p2 % (2 : Int32)) = (0 : Int32) then p3 else (0 : Int32)))), (.ref a)])) rfl rfl (hb hby dct_17)
  have K := K.wr W2 (Or.inl (List.mem_of_getElem? (i := 0) rfl))
  have E_a := E_a.wr W2
  have F_latest_a := F_latest_a.other W2 (Or.inr (slot_ne (Or.inl (hw _ (List.mem_of_getElem? (i := 64) rfl))) (Or.inl (hw _ (List.mem_of_getElem? (i := 94) rfl))) (by decide) (t := (.array .int)) (t' := .int) (by decide) (by decide)))
  have F_raised_a := F_raised_a.other W2 (Or.inr (slot_ne (Or.inl (hw _ (List.mem_of_getElem? (i := 66) rfl))) (Or.inl (hw _ (List.mem_of_getElem? (i := 94) rfl))) (by decide) (t := (.array .int)) (t' := .int) (by decide) (by decide)))
  have F_ages_a := F_ages_a.other W2 (Or.inr (slot_ne (Or.inl (hw _ (List.mem_of_getElem? (i := 68) rfl))) (Or.inl (hw _ (List.mem_of_getElem? (i := 94) rfl))) (by decide) (t := (.array .int)) (t' := .int) (by decide) (by decide)))
  have F_numbers_a := F_numbers_a.other W2 (Or.inr (slot_ne (Or.inr (hw _ (List.mem_of_getElem? (i := 70) rfl))) (Or.inl (hw _ (List.mem_of_getElem? (i := 94) rfl))) (by decide) (t := (.object "com/example/obedient_dog/obedientdog/topologydiscovery/LinkNumbers")) (t' := .int) (by decide) (by decide)))
  have F_entries_a := F_entries_a.other W2 (Or.inr (slot_ne (Or.inl (hw _ (List.mem_of_getElem? (i := 86) rfl))) (Or.inl (hw _ (List.mem_of_getElem? (i := 94) rfl))) (by decide) (t := .int) (t' := .int) (by decide) (by decide)))
  have F_size_a := F_size_a.other W2 (Or.inr (slot_ne (Or.inl (hw _ (List.mem_of_getElem? (i := 88) rfl))) (Or.inl (hw _ (List.mem_of_getElem? (i := 94) rfl))) (by decide) (t := .int) (t' := .int) (by decide) (by decide)))
  have F_sealed_a := F_sealed_a.other W2 (Or.inr (slot_ne (Or.inl (hw _ (List.mem_of_getElem? (i := 110) rfl))) (Or.inl (hw _ (List.mem_of_getElem? (i := 94) rfl))) (by decide) (t := .int) (t' := .int) (by decide) (by decide)))
  have F_hash_a := F_hash_a.other W2 (Or.inr (slot_ne (Or.inl (hw _ (List.mem_of_getElem? (i := 96) rfl))) (Or.inl (hw _ (List.mem_of_getElem? (i := 94) rfl))) (by decide) (t := .int) (t' := .int) (by decide) (by decide)))
  have F_table_a := F_table_a.other W2 (Or.inr (slot_ne (Or.inl (hw _ (List.mem_of_getElem? (i := 103) rfl))) (Or.inl (hw _ (List.mem_of_getElem? (i := 94) rfl))) (by decide) (t := (.object "com/example/obedient_dog/obedientdog/topologydiscovery/AgeTable")) (t' := .int) (by decide) (by decide)))
  have F_earlier_a := F_earlier_a.other W2 (Or.inr (slot_ne (Or.inl (hw _ (List.mem_of_getElem? (i := 170) rfl))) (Or.inl (hw _ (List.mem_of_getElem? (i := 94) rfl))) (by decide) (t := (.array .int)) (t' := .int) (by decide) (by decide)))
  have F_later_a := F_later_a.other W2 (Or.inr (slot_ne (Or.inl (hw _ (List.mem_of_getElem? (i := 172) rfl))) (Or.inl (hw _ (List.mem_of_getElem? (i := 94) rfl))) (by decide) (t := (.array .int)) (t' := .int) (by decide) (by decide)))
  have E_nu := E_nu.wr W2
  have F_hashes_nu := F_hashes_nu.other W2 (Or.inl (Ne.symm ne_a_nu))
  have V_ha := V_ha.other W2 (Ne.symm ne_a_ha)
  have F_present_a := F_present_a.same W2
  have N2 := Fr.snoc X2 N0 g_a
  refine own_go (U' := T2.setTop (mkF m 20 #[.val (.ref a), .val (.int p1), .val (.int p2), .val (.int p3)] [])) st2 ?_
  refine own_go (U' := T2.setTop (mkF m 21 #[.val (.ref a), .val (.int p1), .val (.int p2), .val (.int p3)] [(.ref a)])) (fun t k => XS.aloadN X2.here hx rfl (hb hby dct_20) rfl rfl k) ?_
  refine own_go (U' := T2.setTop (mkF m 22 #[.val (.ref a), .val (.int p1), .val (.int p2), .val (.int p3)] [(.ref a), (.ref a)])) (fun t k => XS.dup X2.here hx rfl (hb hby dct_21) rfl rfl k) ?_
  obtain ⟨T3, X3, e3, st3⟩ := getF X2 hx hZ hown (host := "") (Or.inl (hw _ (List.mem_of_getElem? (i := 95) rfl))) Via.refl e2 F_hash_a (g := (mkF m 22 #[.val (.ref a), .val (.int p1), .val (.int p2), .val (.int p3)] [(.ref a), (.ref a)])) rfl rfl (hb hby dct_22)
  refine own_go (U' := T3.setTop (mkF m 25 #[.val (.ref a), .val (.int p1), .val (.int p2), .val (.int p3)] [(.int hs), (.ref a)])) st3 ?_
  refine own_go (U' := T3.setTop (mkF m 26 #[.val (.ref a), .val (.int p1), .val (.int p2), .val (.int p3)] [(.int p3), (.int hs), (.ref a)])) (fun t k => XS.iloadN X3.here hx rfl (hb hby dct_25) rfl k) ?_
  refine own_go (U' := T3.setTop (mkF m 27 #[.val (.ref a), .val (.int p1), .val (.int p2), .val (.int p3)] [(.ref a), (.int p3), (.int hs), (.ref a)])) (fun t k => XS.aloadN X3.here hx rfl (hb hby dct_26) rfl rfl k) ?_
  obtain ⟨T4, X4, e4, st4⟩ := getF X3 hx hZ hown (host := "") (Or.inl (hw _ (List.mem_of_getElem? (i := 69) rfl))) Via.refl e3 F_numbers_a (g := (mkF m 27 #[.val (.ref a), .val (.int p1), .val (.int p2), .val (.int p3)] [(.ref a), (.int p3), (.int hs), (.ref a)])) rfl rfl (hb hby dct_27)
  refine own_go (U' := T4.setTop (mkF m 30 #[.val (.ref a), .val (.int p1), .val (.int p2), .val (.int p3)] [(.ref nu), (.int p3), (.int hs), (.ref a)])) st4 ?_
  refine own_go (U' := T4.setTop (mkF m 31 #[.val (.ref a), .val (.int p1), .val (.int p2), .val (.int p3)] [(.int p1), (.ref nu), (.int p3), (.int hs), (.ref a)])) (fun t k => XS.iloadN X4.here hx rfl (hb hby dct_30) rfl k) ?_
  obtain ⟨v5, T5, h5, L5, e5, X5, hQ5, st5⟩ := own_callV X4 hx hZ (y := (⟨"com/example/obedient_dog/obedientdog/topologydiscovery/LinkNumbers", "hash", "(I)I"⟩ : MethodName)) (z := (⟨"com/example/obedient_dog/obedientdog/topologydiscovery/LinkNumbers", "hash", "(I)I"⟩ : MethodName)) hown (hw _ (List.mem_of_getElem? (i := 97) rfl)) (hw _ (List.mem_of_getElem? (i := 98) rfl)) (notFace_of_selects (args := #[]) (mvT hZ (hw _ (List.mem_of_getElem? (i := 100) rfl)))) (hw _ (List.mem_of_getElem? (i := 100) rfl)) (hw _ (List.mem_of_getElem? (i := 99) rfl)) (hw _ (List.mem_of_getElem? (i := 5) rfl)) (hw _ (List.mem_of_getElem? (i := 101) rfl)) (by decide) E_nu (own_rmha l Z a0 hw nu p1 h2 i hi hp ha kh E_nu F_hashes_nu V_ha) (W := 3) (by decide) (by decide) (g := (mkF m 31 #[.val (.ref a), .val (.int p1), .val (.int p2), .val (.int p3)] [(.int p1), (.ref nu), (.int p3), (.int hs), (.ref a)])) rfl (by rw [hml]; rfl) (argsL := [(.int p1)]) (rest := [(.int p3), (.int hs), (.ref a)]) (lenOf own_pd0 rfl) rfl rfl (by show 2 * 0 + _ ≤ _; exact Nat.le_of_eq rfl) (hb hby dct_31) e4 (by decide) (by decide)
  obtain ⟨rfl, rfl, eh5⟩ := hQ5
  have e5 := e5.trans eh5
  rw [List.append_nil] at X5
  refine own_go (U' := T5.setTop (mkF m 34 #[.val (.ref a), .val (.int p1), .val (.int p2), .val (.int p3)] [(.int (0 : Int32)), (.int p3), (.int hs), (.ref a)])) st5 ?_
  refine own_go (U' := T5.setTop (mkF m 35 #[.val (.ref a), .val (.int p1), .val (.int p2), .val (.int p3)] [(.int p2), (.int (0 : Int32)), (.int p3), (.int hs), (.ref a)])) (fun t k => XS.iloadN X5.here hx rfl (hb hby dct_34) rfl k) ?_
  refine own_go (U' := T5.setTop (mkF m 36 #[.val (.ref a), .val (.int p1), .val (.int p2), .val (.int p3)] [(.int ((0 : Int32) ^^^ p2)), (.int p3), (.int hs), (.ref a)])) (fun t k => XS.ixor X5.here hx rfl (hb hby dct_35) rfl k) ?_
  refine own_go (U' := T5.setTop (mkF m 37 #[.val (.ref a), .val (.int p1), .val (.int p2), .val (.int p3)] [(.int (p3 * ((0 : Int32) ^^^ p2))), (.int hs), (.ref a)])) (fun t k => XS.imul X5.here hx rfl (hb hby dct_36) rfl k) ?_
  refine own_go (U' := T5.setTop (mkF m 38 #[.val (.ref a), .val (.int p1), .val (.int p2), .val (.int p3)] [(.int (hs + (p3 * ((0 : Int32) ^^^ p2)))), (.ref a)])) (fun t k => XS.iadd X5.here hx rfl (hb hby dct_37) rfl k) ?_
  obtain ⟨T6, h6, X6, e6, W6, st6⟩ := putF X5 hx hZ hown (host := "") (Or.inl (hw _ (List.mem_of_getElem? (i := 95) rfl))) Via.refl e5 F_hash_a E_a (Or.inl (hw _ (List.mem_of_getElem? (i := 96) rfl))) (hw _ (List.mem_of_getElem? (i := 1) rfl)) (ty := .int) (by decide) rfl rfl (g := (mkF m 38 #[.val (.ref a), .val (.int p1), .val (.int p2), .val (.int p3)] [(.int (hs + (p3 * ((0 : Int32) ^^^ p2)))), (.ref a)])) rfl rfl (hb hby dct_38)
  have K := K.wr W6 (Or.inl (List.mem_of_getElem? (i := 0) rfl))
  have E_a := E_a.wr W6
  have F_latest_a := F_latest_a.other W6 (Or.inr (slot_ne (Or.inl (hw _ (List.mem_of_getElem? (i := 64) rfl))) (Or.inl (hw _ (List.mem_of_getElem? (i := 96) rfl))) (by decide) (t := (.array .int)) (t' := .int) (by decide) (by decide)))
  have F_raised_a := F_raised_a.other W6 (Or.inr (slot_ne (Or.inl (hw _ (List.mem_of_getElem? (i := 66) rfl))) (Or.inl (hw _ (List.mem_of_getElem? (i := 96) rfl))) (by decide) (t := (.array .int)) (t' := .int) (by decide) (by decide)))
  have F_ages_a := F_ages_a.other W6 (Or.inr (slot_ne (Or.inl (hw _ (List.mem_of_getElem? (i := 68) rfl))) (Or.inl (hw _ (List.mem_of_getElem? (i := 96) rfl))) (by decide) (t := (.array .int)) (t' := .int) (by decide) (by decide)))
  have F_numbers_a := F_numbers_a.other W6 (Or.inr (slot_ne (Or.inr (hw _ (List.mem_of_getElem? (i := 70) rfl))) (Or.inl (hw _ (List.mem_of_getElem? (i := 96) rfl))) (by decide) (t := (.object "com/example/obedient_dog/obedientdog/topologydiscovery/LinkNumbers")) (t' := .int) (by decide) (by decide)))
  have F_entries_a := F_entries_a.other W6 (Or.inr (slot_ne (Or.inl (hw _ (List.mem_of_getElem? (i := 86) rfl))) (Or.inl (hw _ (List.mem_of_getElem? (i := 96) rfl))) (by decide) (t := .int) (t' := .int) (by decide) (by decide)))
  have F_size_a := F_size_a.other W6 (Or.inr (slot_ne (Or.inl (hw _ (List.mem_of_getElem? (i := 88) rfl))) (Or.inl (hw _ (List.mem_of_getElem? (i := 96) rfl))) (by decide) (t := .int) (t' := .int) (by decide) (by decide)))
  have F_sealed_a := F_sealed_a.other W6 (Or.inr (slot_ne (Or.inl (hw _ (List.mem_of_getElem? (i := 110) rfl))) (Or.inl (hw _ (List.mem_of_getElem? (i := 96) rfl))) (by decide) (t := .int) (t' := .int) (by decide) (by decide)))
  have F_present_a := F_present_a.other W6 (Or.inr (slot_ne (Or.inl (hw _ (List.mem_of_getElem? (i := 94) rfl))) (Or.inl (hw _ (List.mem_of_getElem? (i := 96) rfl))) (by decide) (t := .int) (t' := .int) (by decide) (by decide)))
  have F_table_a := F_table_a.other W6 (Or.inr (slot_ne (Or.inl (hw _ (List.mem_of_getElem? (i := 103) rfl))) (Or.inl (hw _ (List.mem_of_getElem? (i := 96) rfl))) (by decide) (t := (.object "com/example/obedient_dog/obedientdog/topologydiscovery/AgeTable")) (t' := .int) (by decide) (by decide)))
  have F_earlier_a := F_earlier_a.other W6 (Or.inr (slot_ne (Or.inl (hw _ (List.mem_of_getElem? (i := 170) rfl))) (Or.inl (hw _ (List.mem_of_getElem? (i := 96) rfl))) (by decide) (t := (.array .int)) (t' := .int) (by decide) (by decide)))
  have F_later_a := F_later_a.other W6 (Or.inr (slot_ne (Or.inl (hw _ (List.mem_of_getElem? (i := 172) rfl))) (Or.inl (hw _ (List.mem_of_getElem? (i := 96) rfl))) (by decide) (t := (.array .int)) (t' := .int) (by decide) (by decide)))
  have E_nu := E_nu.wr W6
  have F_hashes_nu := F_hashes_nu.other W6 (Or.inl (Ne.symm ne_a_nu))
  have V_ha := V_ha.other W6 (Ne.symm ne_a_ha)
  have F_hash_a := F_hash_a.same W6
  have N6 := Fr.snoc X6 N2 g_a
  refine own_go (U' := T6.setTop (mkF m 41 #[.val (.ref a), .val (.int p1), .val (.int p2), .val (.int p3)] [])) st6 ?_
  refine own_retV X6 hx hret hlk (hb hby dct_41) ?_ (by decide) (by decide)
  rw [e6]
  exact ⟨rfl, N6, K, _, _, ⟨E_a, F_latest_a, F_raised_a, F_ages_a, F_numbers_a, F_entries_a, F_size_a, F_sealed_a, F_present_a, F_hash_a, F_table_a, F_earlier_a, F_later_a⟩⟩
theorem dap_0 : decode prog_39_method_13_code 0 = .ok (.aload_n 0, 1) := by decide +kernel
theorem dap_1 : decode prog_39_method_13_code 1 = .ok (.getfield 84, 3) := by decide +kernel
theorem dap_4 : decode prog_39_method_13_code 4 = .ok (.aload_n 0, 1) := by decide +kernel
theorem dap_5 : decode prog_39_method_13_code 5 = .ok (.getfield 13, 3) := by decide +kernel
theorem dap_8 : decode prog_39_method_13_code 8 = .ok (.arraylength, 1) := by decide +kernel
theorem dap_9 : decode prog_39_method_13_code 9 = .ok (.if_icmp .ne 75, 3) := by decide +kernel
theorem dap_12 : decode prog_39_method_13_code 12 = .ok (.iconst 2, 1) := by decide +kernel
theorem dap_13 : decode prog_39_method_13_code 13 = .ok (.aload_n 0, 1) := by decide +kernel
theorem dap_14 : decode prog_39_method_13_code 14 = .ok (.getfield 84, 3) := by decide +kernel
theorem dap_17 : decode prog_39_method_13_code 17 = .ok (.imul, 1) := by decide +kernel
theorem dap_18 : decode prog_39_method_13_code 18 = .ok (.aload_n 0, 1) := by decide +kernel
theorem dap_19 : decode prog_39_method_13_code 19 = .ok (.getfield 19, 3) := by decide +kernel
theorem dap_22 : decode prog_39_method_13_code 22 = .ok (.invokevirtual 48, 3) := by decide +kernel
theorem dap_25 : decode prog_39_method_13_code 25 = .ok (.invokestatic 42, 3) := by decide +kernel
theorem dap_28 : decode prog_39_method_13_code 28 = .ok (.istore_n 3, 1) := by decide +kernel
theorem dap_29 : decode prog_39_method_13_code 29 = .ok (.aload_n 0, 1) := by decide +kernel
theorem dap_30 : decode prog_39_method_13_code 30 = .ok (.aload_n 0, 1) := by decide +kernel
theorem dap_31 : decode prog_39_method_13_code 31 = .ok (.getfield 13, 3) := by decide +kernel
theorem dap_34 : decode prog_39_method_13_code 34 = .ok (.iload_n 3, 1) := by decide +kernel
theorem dap_35 : decode prog_39_method_13_code 35 = .ok (.invokestatic 54, 3) := by decide +kernel
theorem dap_38 : decode prog_39_method_13_code 38 = .ok (.putfield 13, 3) := by decide +kernel
theorem dap_41 : decode prog_39_method_13_code 41 = .ok (.aload_n 0, 1) := by decide +kernel
theorem dap_42 : decode prog_39_method_13_code 42 = .ok (.aload_n 0, 1) := by decide +kernel
theorem dap_43 : decode prog_39_method_13_code 43 = .ok (.getfield 16, 3) := by decide +kernel
theorem dap_46 : decode prog_39_method_13_code 46 = .ok (.iload_n 3, 1) := by decide +kernel
theorem dap_47 : decode prog_39_method_13_code 47 = .ok (.invokestatic 54, 3) := by decide +kernel
theorem dap_50 : decode prog_39_method_13_code 50 = .ok (.putfield 16, 3) := by decide +kernel
theorem dap_53 : decode prog_39_method_13_code 53 = .ok (.aload_n 0, 1) := by decide +kernel
theorem dap_54 : decode prog_39_method_13_code 54 = .ok (.getfield 96, 3) := by decide +kernel
theorem dap_57 : decode prog_39_method_13_code 57 = .ok (.ifnull 27, 3) := by decide +kernel
theorem dap_60 : decode prog_39_method_13_code 60 = .ok (.aload_n 0, 1) := by decide +kernel
theorem dap_61 : decode prog_39_method_13_code 61 = .ok (.aload_n 0, 1) := by decide +kernel
theorem dap_62 : decode prog_39_method_13_code 62 = .ok (.getfield 96, 3) := by decide +kernel
theorem dap_65 : decode prog_39_method_13_code 65 = .ok (.iload_n 3, 1) := by decide +kernel
theorem dap_66 : decode prog_39_method_13_code 66 = .ok (.invokestatic 54, 3) := by decide +kernel
theorem dap_69 : decode prog_39_method_13_code 69 = .ok (.putfield 96, 3) := by decide +kernel
theorem dap_72 : decode prog_39_method_13_code 72 = .ok (.aload_n 0, 1) := by decide +kernel
theorem dap_73 : decode prog_39_method_13_code 73 = .ok (.aload_n 0, 1) := by decide +kernel
theorem dap_74 : decode prog_39_method_13_code 74 = .ok (.getfield 99, 3) := by decide +kernel
theorem dap_77 : decode prog_39_method_13_code 77 = .ok (.iload_n 3, 1) := by decide +kernel
theorem dap_78 : decode prog_39_method_13_code 78 = .ok (.invokestatic 54, 3) := by decide +kernel
theorem dap_81 : decode prog_39_method_13_code 81 = .ok (.putfield 99, 3) := by decide +kernel
theorem dap_84 : decode prog_39_method_13_code 84 = .ok (.aload_n 0, 1) := by decide +kernel
theorem dap_85 : decode prog_39_method_13_code 85 = .ok (.getfield 13, 3) := by decide +kernel
theorem dap_88 : decode prog_39_method_13_code 88 = .ok (.aload_n 0, 1) := by decide +kernel
theorem dap_89 : decode prog_39_method_13_code 89 = .ok (.getfield 84, 3) := by decide +kernel
theorem dap_92 : decode prog_39_method_13_code 92 = .ok (.iload_n 1, 1) := by decide +kernel
theorem dap_93 : decode prog_39_method_13_code 93 = .ok (.iastore, 1) := by decide +kernel
theorem dap_94 : decode prog_39_method_13_code 94 = .ok (.aload_n 0, 1) := by decide +kernel
theorem dap_95 : decode prog_39_method_13_code 95 = .ok (.getfield 16, 3) := by decide +kernel
theorem dap_98 : decode prog_39_method_13_code 98 = .ok (.aload_n 0, 1) := by decide +kernel
theorem dap_99 : decode prog_39_method_13_code 99 = .ok (.getfield 84, 3) := by decide +kernel
theorem dap_102 : decode prog_39_method_13_code 102 = .ok (.iload_n 2, 1) := by decide +kernel
theorem dap_103 : decode prog_39_method_13_code 103 = .ok (.iastore, 1) := by decide +kernel
theorem dap_104 : decode prog_39_method_13_code 104 = .ok (.aload_n 0, 1) := by decide +kernel
theorem dap_105 : decode prog_39_method_13_code 105 = .ok (.dup, 1) := by decide +kernel
theorem dap_106 : decode prog_39_method_13_code 106 = .ok (.getfield 84, 3) := by decide +kernel
theorem dap_109 : decode prog_39_method_13_code 109 = .ok (.iconst 1, 1) := by decide +kernel
theorem dap_110 : decode prog_39_method_13_code 110 = .ok (.iadd, 1) := by decide +kernel
theorem dap_111 : decode prog_39_method_13_code 111 = .ok (.putfield 84, 3) := by decide +kernel
theorem dap_114 : decode prog_39_method_13_code 114 = .ok (.aload_n 0, 1) := by decide +kernel
theorem dap_115 : decode prog_39_method_13_code 115 = .ok (.getfield 84, 3) := by decide +kernel
theorem dap_118 : decode prog_39_method_13_code 118 = .ok (.iconst 1, 1) := by decide +kernel
theorem dap_119 : decode prog_39_method_13_code 119 = .ok (.isub, 1) := by decide +kernel
theorem dap_120 : decode prog_39_method_13_code 120 = .ok (.ireturn, 1) := by decide +kernel
theorem own_efap (m : MethodId) (a : Addr) (p1 p2 : Int32) : entryFrame m #[(.ref a), (.int p1), (.int p2)] 4 = mkF m 0 #[.val (.ref a), .val (.int p1), .val (.int p2), .unset] [] := by first | (simp [entryFrame, mkF, argsToLocals, Value.category]; done) | rfl
set_option maxRecDepth 65536 in
set_option maxHeartbeats 40000000 in
theorem own_rmap (l : Launch) (Z : State) (a0 : Array Value) (hw : ∀ d ∈ tables_1, d.before a0 Z = true) (a : Addr) (p1 p2 : Int32) (h0 : Heap) (n0 : Nat) (g_a : n0 ≤ a) (la ra ga nu ha : Addr) (kh : ClassId) (en sz se pr hs : Int32) (tb ea lr : Value) (htb : tb.isRef = true) (hea : ea.isRef = true) (hlr : lr.isRef = true) (ki : Nat) (hk : ki < 8) (he : en = Int32.ofNat ki) (rs gs : List Value) (kr kg : ClassId) (g_ra : n0 ≤ ra) (g_ga : n0 ≤ ga) (ne_ra_ga : ra ≠ ga) (F_a : own_F Z h0 a la ra ga nu en sz se pr hs tb ea lr) (V_ra : own_Ar Z h0 ra kr .int rs) (h_ra : rs.length = 8) (V_ga : own_Ar Z h0 ga kg .int gs) (h_ga : gs.length = 8) :
    own_C l Z (⟨"com/example/obedient_dog/obedientdog/topologydiscovery/AgeLog", "append", "(II)I"⟩ : MethodName) prog_39_method_13_code 4 (some .int) [] ({ frames := 0, cells := 0, slots := 0, locals := 0 } : Room) #[(.ref a), (.int p1), (.int p2)] h0 (fun v h L => v = some (.int (Int32.ofNat ki)) ∧ Fr n0 L ∧ Keep h0 h [a, ra, ga] ∧ (own_F Z h a la ra ga nu (Int32.ofNat (ki + 1)) sz se pr hs tb ea lr) ∧ own_Ar Z h ra kr .int (rs.set ki (.int p1)) ∧ own_Ar Z h ga kg .int (gs.set ki (.int p2))) := by
  refine own_body (plainFor_of_name own_pn1) fun p e s m below meth c s₁ hx hby hml hret hlk hown hnm hZ X0 e0 => ?_
  rw [own_efap m a p1 p2]
  have N0 := Fr.nil n0
  have K := Keep.refl h0 [a, ra, ga]
  subst he
  obtain ⟨E_a, F_latest_a, F_raised_a, F_ages_a, F_numbers_a, F_entries_a, F_size_a, F_sealed_a, F_present_a, F_hash_a, F_table_a, F_earlier_a, F_later_a⟩ := F_a
  have ne_a_ra : a ≠ ra := by
    obtain ⟨cb, Ab, -⟩ := V_ra
    exact ne_arr E_a (hw _ (List.mem_of_getElem? (i := 1) rfl)) Ab
  have ne_a_ga : a ≠ ga := by
    obtain ⟨cb, Ab, -⟩ := V_ga
    exact ne_arr E_a (hw _ (List.mem_of_getElem? (i := 1) rfl)) Ab
  have ok := own_ofn (i := ki) (by omega)
  refine own_go (U' := s₁.setTop (mkF m 1 #[.val (.ref a), .val (.int p1), .val (.int p2), .unset] [(.ref a)])) (fun t k => XS.aloadN X0.here hx rfl (hb hby dap_0) rfl rfl k) ?_
  obtain ⟨T1, X1, e1, st1⟩ := getF X0 hx hZ hown (host := "") (Or.inl (hw _ (List.mem_of_getElem? (i := 85) rfl))) Via.refl e0 F_entries_a (g := (mkF m 1 #[.val (.ref a), .val (.int p1), .val (.int p2), .unset] [(.ref a)])) rfl rfl (hb hby dap_1)
  refine own_go (U' := T1.setTop (mkF m 4 #[.val (.ref a), .val (.int p1), .val (.int p2), .unset] [(.int (Int32.ofNat ki))])) st1 ?_
  refine own_go (U' := T1.setTop (mkF m 5 #[.val (.ref a), .val (.int p1), .val (.int p2), .unset] [(.ref a), (.int (Int32.ofNat ki))])) (fun t k => XS.aloadN X1.here hx rfl (hb hby dap_4) rfl rfl k) ?_
  obtain ⟨T2, X2, e2, st2⟩ := getF X1 hx hZ hown (host := "") (Or.inl (hw _ (List.mem_of_getElem? (i := 65) rfl))) Via.refl e1 F_raised_a (g := (mkF m 5 #[.val (.ref a), .val (.int p1), .val (.int p2), .unset] [(.ref a), (.int (Int32.ofNat ki))])) rfl rfl (hb hby dap_5)
  refine own_go (U' := T2.setTop (mkF m 8 #[.val (.ref a), .val (.int p1), .val (.int p2), .unset] [(.ref ra), (.int (Int32.ofNat ki))])) st2 ?_
  refine own_go (U' := T2.setTop (mkF m 9 #[.val (.ref a), .val (.int p1), .val (.int p2), .unset] [(.int (8 : Int32)), (.int (Int32.ofNat ki))])) (own_arrlen X2 hx hZ e2 V_ra (n := (8 : Int32)) (by rw [h_ra]; rfl) (g := (mkF m 8 #[.val (.ref a), .val (.int p1), .val (.int p2), .unset] [(.ref ra), (.int (Int32.ofNat ki))])) rfl rfl (hb hby dap_8)) ?_
  refine own_go (U' := T2.setTop (mkF m 84 #[.val (.ref a), .val (.int p1), .val (.int p2), .unset] [])) (fun t k => XS.icmpYes X2.here hx rfl (pc0 := 9) (pc' := 84) rfl (hb hby dap_9) rfl (feq (fun q => absurd ((own_eqn (j := 8) (by omega) (by omega)).mp q) (by omega))).2 (by decide) (by decide) k) ?_
  refine own_go (U' := T2.setTop (mkF m 85 #[.val (.ref a), .val (.int p1), .val (.int p2), .unset] [(.ref a)])) (fun t k => XS.aloadN X2.here hx rfl (hb hby dap_84) rfl rfl k) ?_
  obtain ⟨T3, X3, e3, st3⟩ := getF X2 hx hZ hown (host := "") (Or.inl (hw _ (List.mem_of_getElem? (i := 65) rfl))) Via.refl e2 F_raised_a (g := (mkF m 85 #[.val (.ref a), .val (.int p1), .val (.int p2), .unset] [(.ref a)])) rfl rfl (hb hby dap_85)
  refine own_go (U' := T3.setTop (mkF m 88 #[.val (.ref a), .val (.int p1), .val (.int p2), .unset] [(.ref ra)])) st3 ?_
  refine own_go (U' := T3.setTop (mkF m 89 #[.val (.ref a), .val (.int p1), .val (.int p2), .unset] [(.ref a), (.ref ra)])) (fun t k => XS.aloadN X3.here hx rfl (hb hby dap_88) rfl rfl k) ?_
  obtain ⟨T4, X4, e4, st4⟩ := getF X3 hx hZ hown (host := "") (Or.inl (hw _ (List.mem_of_getElem? (i := 85) rfl))) Via.refl e3 F_entries_a (g := (mkF m 89 #[.val (.ref a), .val (.int p1), .val (.int p2), .unset] [(.ref a), (.ref ra)])) rfl rfl (hb hby dap_89)
  refine own_go (U' := T4.setTop (mkF m 92 #[.val (.ref a), .val (.int p1), .val (.int p2), .unset] [(.int (Int32.ofNat ki)), (.ref ra)])) st4 ?_
  refine own_go (U' := T4.setTop (mkF m 93 #[.val (.ref a), .val (.int p1), .val (.int p2), .unset] [(.int p1), (.int (Int32.ofNat ki)), (.ref ra)])) (fun t k => XS.iloadN X4.here hx rfl (hb hby dap_92) rfl k) ?_
  obtain ⟨T5, h5, X5, e5, W5, A5, st5⟩ := own_iastore X4 hx hZ e4 V_ra (j := (Int32.ofNat ki)) ok.1 (i := ki) ok.2.1 (by omega) (g := (mkF m 93 #[.val (.ref a), .val (.int p1), .val (.int p2), .unset] [(.int p1), (.int (Int32.ofNat ki)), (.ref ra)])) rfl rfl (hb hby dap_93)
  have K := K.wr W5 (Or.inl (List.mem_of_getElem? (i := 1) rfl))
  have E_a := E_a.wr W5
  have F_latest_a := F_latest_a.other W5 (Or.inl ne_a_ra)
  have F_raised_a := F_raised_a.other W5 (Or.inl ne_a_ra)
  have F_ages_a := F_ages_a.other W5 (Or.inl ne_a_ra)
  have F_numbers_a := F_numbers_a.other W5 (Or.inl ne_a_ra)
  have F_entries_a := F_entries_a.other W5 (Or.inl ne_a_ra)
  have F_size_a := F_size_a.other W5 (Or.inl ne_a_ra)
  have F_sealed_a := F_sealed_a.other W5 (Or.inl ne_a_ra)
  have F_present_a := F_present_a.other W5 (Or.inl ne_a_ra)
  have F_hash_a := F_hash_a.other W5 (Or.inl ne_a_ra)
  have F_table_a := F_table_a.other W5 (Or.inl ne_a_ra)
  have F_earlier_a := F_earlier_a.other W5 (Or.inl ne_a_ra)
  have F_later_a := F_later_a.other W5 (Or.inl ne_a_ra)
  have V_ga := V_ga.other W5 (Ne.symm ne_ra_ga)
  have V_ra : own_Ar Z h5 ra kr .int (rs.set ki (.int p1)) := A5
  have N5 := Fr.snoc X5 N0 g_ra
  refine own_go (U' := T5.setTop (mkF m 94 #[.val (.ref a), .val (.int p1), .val (.int p2), .unset] [])) st5 ?_
  refine own_go (U' := T5.setTop (mkF m 95 #[.val (.ref a), .val (.int p1), .val (.int p2), .unset] [(.ref a)])) (fun t k => XS.aloadN X5.here hx rfl (hb hby dap_94) rfl rfl k) ?_
  obtain ⟨T6, X6, e6, st6⟩ := getF X5 hx hZ hown (host := "") (Or.inl (hw _ (List.mem_of_getElem? (i := 67) rfl))) Via.refl e5 F_ages_a (g := (mkF m 95 #[.val (.ref a), .val (.int p1), .val (.int p2), .unset] [(.ref a)])) rfl rfl (hb hby dap_95)
  refine own_go (U' := T6.setTop (mkF m 98 #[.val (.ref a), .val (.int p1), .val (.int p2), .unset] [(.ref ga)])) st6 ?_
  refine own_go (U' := T6.setTop (mkF m 99 #[.val (.ref a), .val (.int p1), .val (.int p2), .unset] [(.ref a), (.ref ga)])) (fun t k => XS.aloadN X6.here hx rfl (hb hby dap_98) rfl rfl k) ?_
  obtain ⟨T7, X7, e7, st7⟩ := getF X6 hx hZ hown (host := "") (Or.inl (hw _ (List.mem_of_getElem? (i := 85) rfl))) Via.refl e6 F_entries_a (g := (mkF m 99 #[.val (.ref a), .val (.int p1), .val (.int p2), .unset] [(.ref a), (.ref ga)])) rfl rfl (hb hby dap_99)
  refine own_go (U' := T7.setTop (mkF m 102 #[.val (.ref a), .val (.int p1), .val (.int p2), .unset] [(.int (Int32.ofNat ki)), (.ref ga)])) st7 ?_
  refine own_go (U' := T7.setTop (mkF m 103 #[.val (.ref a), .val (.int p1), .val (.int p2), .unset] [(.int p2), (.int (Int32.ofNat ki)), (.ref ga)])) (fun t k => XS.iloadN X7.here hx rfl (hb hby dap_102) rfl k) ?_
  obtain ⟨T8, h8, X8, e8, W8, A8, st8⟩ := own_iastore X7 hx hZ e7 V_ga (j := (Int32.ofNat ki)) ok.1 (i := ki) ok.2.1 (by omega) (g := (mkF m 103 #[.val (.ref a), .val (.int p1), .val (.int p2), .unset] [(.int p2), (.int (Int32.ofNat ki)), (.ref ga)])) rfl rfl (hb hby dap_103)
  have K := K.wr W8 (Or.inl (List.mem_of_getElem? (i := 2) rfl))
  have E_a := E_a.wr W8
  have F_latest_a := F_latest_a.other W8 (Or.inl ne_a_ga)
  have F_raised_a := F_raised_a.other W8 (Or.inl ne_a_ga)
  have F_ages_a := F_ages_a.other W8 (Or.inl ne_a_ga)
  have F_numbers_a := F_numbers_a.other W8 (Or.inl ne_a_ga)
  have F_entries_a := F_entries_a.other W8 (Or.inl ne_a_ga)
  have F_size_a := F_size_a.other W8 (Or.inl ne_a_ga)
  have F_sealed_a := F_sealed_a.other W8 (Or.inl ne_a_ga)
  have F_present_a := F_present_a.other W8 (Or.inl ne_a_ga)
  have F_hash_a := F_hash_a.other W8 (Or.inl ne_a_ga)
  have F_table_a := F_table_a.other W8 (Or.inl ne_a_ga)
  have F_earlier_a := F_earlier_a.other W8 (Or.inl ne_a_ga)
  have F_later_a := F_later_a.other W8 (Or.inl ne_a_ga)
  have V_ra := V_ra.other W8 ne_ra_ga
  have V_ga : own_Ar Z h8 ga kg .int (gs.set ki (.int p2)) := A8
  have N8 := Fr.snoc X8 N5 g_ga
  refine own_go (U' := T8.setTop (mkF m 104 #[.val (.ref a), .val (.int p1), .val (.int p2), .unset] [])) st8 ?_
  refine own_go (U' := T8.setTop (mkF m 105 #[.val (.ref a), .val (.int p1), .val (.int p2), .unset] [(.ref a)])) (fun t k => XS.aloadN X8.here hx rfl (hb hby dap_104) rfl rfl k) ?_
  refine own_go (U' := T8.setTop (mkF m 106 #[.val (.ref a), .val (.int p1), .val (.int p2), .unset] [(.ref a), (.ref a)])) (fun t k => XS.dup X8.here hx rfl (hb hby dap_105) rfl rfl k) ?_
  obtain ⟨T9, X9, e9, st9⟩ := getF X8 hx hZ hown (host := "") (Or.inl (hw _ (List.mem_of_getElem? (i := 85) rfl))) Via.refl e8 F_entries_a (g := (mkF m 106 #[.val (.ref a), .val (.int p1), .val (.int p2), .unset] [(.ref a), (.ref a)])) rfl rfl (hb hby dap_106)
  refine own_go (U' := T9.setTop (mkF m 109 #[.val (.ref a), .val (.int p1), .val (.int p2), .unset] [(.int (Int32.ofNat ki)), (.ref a)])) st9 ?_
  refine own_go (U' := T9.setTop (mkF m 110 #[.val (.ref a), .val (.int p1), .val (.int p2), .unset] [(.int (1 : Int32)), (.int (Int32.ofNat ki)), (.ref a)])) (fun t k => XS.iconst X9.here hx rfl (hb hby dap_109) k) ?_
  refine own_go (U' := T9.setTop (mkF m 111 #[.val (.ref a), .val (.int p1), .val (.int p2), .unset] [(.int ((Int32.ofNat ki) + (1 : Int32))), (.ref a)])) (fun t k => XS.iadd X9.here hx rfl (hb hby dap_110) rfl k) ?_
  rw [← own_succ]
  obtain ⟨T10, h10, X10, e10, W10, st10⟩ := putF X9 hx hZ hown (host := "") (Or.inl (hw _ (List.mem_of_getElem? (i := 85) rfl))) Via.refl e9 F_entries_a E_a (Or.inl (hw _ (List.mem_of_getElem? (i := 86) rfl))) (hw _ (List.mem_of_getElem? (i := 1) rfl)) (ty := .int) (by decide) rfl rfl (g := (mkF m 111 #[.val (.ref a), .val (.int p1), .val (.int p2), .unset] [(.int (Int32.ofNat (ki + 1))), (.ref a)])) rfl rfl (hb hby dap_111)
  have K := K.wr W10 (Or.inl (List.mem_of_getElem? (i := 0) rfl))
  have E_a := E_a.wr W10
  have F_latest_a := F_latest_a.other W10 (Or.inr (slot_ne (Or.inl (hw _ (List.mem_of_getElem? (i := 64) rfl))) (Or.inl (hw _ (List.mem_of_getElem? (i := 86) rfl))) (by decide) (t := (.array .int)) (t' := .int) (by decide) (by decide)))
  have F_raised_a := F_raised_a.other W10 (Or.inr (slot_ne (Or.inl (hw _ (List.mem_of_getElem? (i := 66) rfl))) (Or.inl (hw _ (List.mem_of_getElem? (i := 86) rfl))) (by decide) (t := (.array .int)) (t' := .int) (by decide) (by decide)))
  have F_ages_a := F_ages_a.other W10 (Or.inr (slot_ne (Or.inl (hw _ (List.mem_of_getElem? (i := 68) rfl))) (Or.inl (hw _ (List.mem_of_getElem? (i := 86) rfl))) (by decide) (t := (.array .int)) (t' := .int) (by decide) (by decide)))
  have F_numbers_a := F_numbers_a.other W10 (Or.inr (slot_ne (Or.inr (hw _ (List.mem_of_getElem? (i := 70) rfl))) (Or.inl (hw _ (List.mem_of_getElem? (i := 86) rfl))) (by decide) (t := (.object "com/example/obedient_dog/obedientdog/topologydiscovery/LinkNumbers")) (t' := .int) (by decide) (by decide)))
  have F_size_a := F_size_a.other W10 (Or.inr (slot_ne (Or.inl (hw _ (List.mem_of_getElem? (i := 88) rfl))) (Or.inl (hw _ (List.mem_of_getElem? (i := 86) rfl))) (by decide) (t := .int) (t' := .int) (by decide) (by decide)))
  have F_sealed_a := F_sealed_a.other W10 (Or.inr (slot_ne (Or.inl (hw _ (List.mem_of_getElem? (i := 110) rfl))) (Or.inl (hw _ (List.mem_of_getElem? (i := 86) rfl))) (by decide) (t := .int) (t' := .int) (by decide) (by decide)))
  have F_present_a := F_present_a.other W10 (Or.inr (slot_ne (Or.inl (hw _ (List.mem_of_getElem? (i := 94) rfl))) (Or.inl (hw _ (List.mem_of_getElem? (i := 86) rfl))) (by decide) (t := .int) (t' := .int) (by decide) (by decide)))
  have F_hash_a := F_hash_a.other W10 (Or.inr (slot_ne (Or.inl (hw _ (List.mem_of_getElem? (i := 96) rfl))) (Or.inl (hw _ (List.mem_of_getElem? (i := 86) rfl))) (by decide) (t := .int) (t' := .int) (by decide) (by decide)))
  have F_table_a := F_table_a.other W10 (Or.inr (slot_ne (Or.inl (hw _ (List.mem_of_getElem? (i := 103) rfl))) (Or.inl (hw _ (List.mem_of_getElem? (i := 86) rfl))) (by decide) (t := (.object "com/example/obedient_dog/obedientdog/topologydiscovery/AgeTable")) (t' := .int) (by decide) (by decide)))
  have F_earlier_a := F_earlier_a.other W10 (Or.inr (slot_ne (Or.inl (hw _ (List.mem_of_getElem? (i := 170) rfl))) (Or.inl (hw _ (List.mem_of_getElem? (i := 86) rfl))) (by decide) (t := (.array .int)) (t' := .int) (by decide) (by decide)))
  have F_later_a := F_later_a.other W10 (Or.inr (slot_ne (Or.inl (hw _ (List.mem_of_getElem? (i := 172) rfl))) (Or.inl (hw _ (List.mem_of_getElem? (i := 86) rfl))) (by decide) (t := (.array .int)) (t' := .int) (by decide) (by decide)))
  have V_ra := V_ra.other W10 (Ne.symm ne_a_ra)
  have V_ga := V_ga.other W10 (Ne.symm ne_a_ga)
  have F_entries_a := F_entries_a.same W10
  have N10 := Fr.snoc X10 N8 g_a
  refine own_go (U' := T10.setTop (mkF m 114 #[.val (.ref a), .val (.int p1), .val (.int p2), .unset] [])) st10 ?_
  refine own_go (U' := T10.setTop (mkF m 115 #[.val (.ref a), .val (.int p1), .val (.int p2), .unset] [(.ref a)])) (fun t k => XS.aloadN X10.here hx rfl (hb hby dap_114) rfl rfl k) ?_
  obtain ⟨T11, X11, e11, st11⟩ := getF X10 hx hZ hown (host := "") (Or.inl (hw _ (List.mem_of_getElem? (i := 85) rfl))) Via.refl e10 F_entries_a (g := (mkF m 115 #[.val (.ref a), .val (.int p1), .val (.int p2), .unset] [(.ref a)])) rfl rfl (hb hby dap_115)
  refine own_go (U' := T11.setTop (mkF m 118 #[.val (.ref a), .val (.int p1), .val (.int p2), .unset] [(.int (Int32.ofNat (ki + 1)))])) st11 ?_
  refine own_go (U' := T11.setTop (mkF m 119 #[.val (.ref a), .val (.int p1), .val (.int p2), .unset] [(.int (1 : Int32)), (.int (Int32.ofNat (ki + 1)))])) (fun t k => XS.iconst X11.here hx rfl (hb hby dap_118) k) ?_
  refine own_go (U' := T11.setTop (mkF m 120 #[.val (.ref a), .val (.int p1), .val (.int p2), .unset] [(.int ((Int32.ofNat (ki + 1)) - (1 : Int32)))])) (fun t k => XS.isub X11.here hx rfl (hb hby dap_119) rfl k) ?_
  rw [own_up1]
  refine own_retI X11 hx hret hlk (hb hby dap_120) ?_ (by decide) (by decide)
  rw [e11]
  exact ⟨rfl, N10, K, ⟨E_a, F_latest_a, F_raised_a, F_ages_a, F_numbers_a, F_entries_a, F_size_a, F_sealed_a, F_present_a, F_hash_a, F_table_a, F_earlier_a, F_later_a⟩, V_ra, V_ga⟩
theorem dad_0 : decode prog_39_method_5_code 0 = .ok (.iload_n 1, 1) := by decide +kernel
theorem dad_1 : decode prog_39_method_5_code 1 = .ok (.aload_n 0, 1) := by decide +kernel
theorem dad_2 : decode prog_39_method_5_code 2 = .ok (.getfield 9, 3) := by decide +kernel
theorem dad_5 : decode prog_39_method_5_code 5 = .ok (.arraylength, 1) := by decide +kernel
theorem dad_6 : decode prog_39_method_5_code 6 = .ok (.if_icmp .lt 37, 3) := by decide +kernel
theorem dad_9 : decode prog_39_method_5_code 9 = .ok (.aload_n 0, 1) := by decide +kernel
theorem dad_10 : decode prog_39_method_5_code 10 = .ok (.aload_n 0, 1) := by decide +kernel
theorem dad_11 : decode prog_39_method_5_code 11 = .ok (.getfield 9, 3) := by decide +kernel
theorem dad_14 : decode prog_39_method_5_code 14 = .ok (.iconst 2, 1) := by decide +kernel
theorem dad_15 : decode prog_39_method_5_code 15 = .ok (.aload_n 0, 1) := by decide +kernel
theorem dad_16 : decode prog_39_method_5_code 16 = .ok (.getfield 9, 3) := by decide +kernel
theorem dad_19 : decode prog_39_method_5_code 19 = .ok (.arraylength, 1) := by decide +kernel
theorem dad_20 : decode prog_39_method_5_code 20 = .ok (.imul, 1) := by decide +kernel
theorem dad_21 : decode prog_39_method_5_code 21 = .ok (.iload_n 1, 1) := by decide +kernel
theorem dad_22 : decode prog_39_method_5_code 22 = .ok (.iconst 1, 1) := by decide +kernel
theorem dad_23 : decode prog_39_method_5_code 23 = .ok (.iadd, 1) := by decide +kernel
theorem dad_24 : decode prog_39_method_5_code 24 = .ok (.invokestatic 42, 3) := by decide +kernel
theorem dad_27 : decode prog_39_method_5_code 27 = .ok (.aload_n 0, 1) := by decide +kernel
theorem dad_28 : decode prog_39_method_5_code 28 = .ok (.getfield 19, 3) := by decide +kernel
theorem dad_31 : decode prog_39_method_5_code 31 = .ok (.invokevirtual 48, 3) := by decide +kernel
theorem dad_34 : decode prog_39_method_5_code 34 = .ok (.invokestatic 42, 3) := by decide +kernel
theorem dad_37 : decode prog_39_method_5_code 37 = .ok (.invokestatic 54, 3) := by decide +kernel
theorem dad_40 : decode prog_39_method_5_code 40 = .ok (.putfield 9, 3) := by decide +kernel
theorem dad_43 : decode prog_39_method_5_code 43 = .ok (.aload_n 0, 1) := by decide +kernel
theorem dad_44 : decode prog_39_method_5_code 44 = .ok (.getfield 9, 3) := by decide +kernel
theorem dad_47 : decode prog_39_method_5_code 47 = .ok (.iload_n 1, 1) := by decide +kernel
theorem dad_48 : decode prog_39_method_5_code 48 = .ok (.aload_n 0, 1) := by decide +kernel
theorem dad_49 : decode prog_39_method_5_code 49 = .ok (.iload_n 1, 1) := by decide +kernel
theorem dad_50 : decode prog_39_method_5_code 50 = .ok (.iload_n 2, 1) := by decide +kernel
theorem dad_51 : decode prog_39_method_5_code 51 = .ok (.invokevirtual 60, 3) := by decide +kernel
theorem dad_54 : decode prog_39_method_5_code 54 = .ok (.iconst 1, 1) := by decide +kernel
theorem dad_55 : decode prog_39_method_5_code 55 = .ok (.iadd, 1) := by decide +kernel
theorem dad_56 : decode prog_39_method_5_code 56 = .ok (.iastore, 1) := by decide +kernel
theorem dad_57 : decode prog_39_method_5_code 57 = .ok (.aload_n 0, 1) := by decide +kernel
theorem dad_58 : decode prog_39_method_5_code 58 = .ok (.dup, 1) := by decide +kernel
theorem dad_59 : decode prog_39_method_5_code 59 = .ok (.getfield 63, 3) := by decide +kernel
theorem dad_62 : decode prog_39_method_5_code 62 = .ok (.iconst 1, 1) := by decide +kernel
theorem dad_63 : decode prog_39_method_5_code 63 = .ok (.iadd, 1) := by decide +kernel
theorem dad_64 : decode prog_39_method_5_code 64 = .ok (.putfield 63, 3) := by decide +kernel
theorem dad_67 : decode prog_39_method_5_code 67 = .ok (.aload_n 0, 1) := by decide +kernel
theorem dad_68 : decode prog_39_method_5_code 68 = .ok (.iload_n 1, 1) := by decide +kernel
theorem dad_69 : decode prog_39_method_5_code 69 = .ok (.iload_n 2, 1) := by decide +kernel
theorem dad_70 : decode prog_39_method_5_code 70 = .ok (.iconst 1, 1) := by decide +kernel
theorem dad_71 : decode prog_39_method_5_code 71 = .ok (.invokevirtual 66, 3) := by decide +kernel
theorem dad_74 : decode prog_39_method_5_code 74 = .ok (.aload_n 0, 1) := by decide +kernel
theorem dad_75 : decode prog_39_method_5_code 75 = .ok (.aconst_null, 1) := by decide +kernel
theorem dad_76 : decode prog_39_method_5_code 76 = .ok (.putfield 70, 3) := by decide +kernel
theorem dad_79 : decode prog_39_method_5_code 79 = .ok (.return_, 1) := by decide +kernel
theorem own_efad (m : MethodId) (a : Addr) (p1 p2 : Int32) : entryFrame m #[(.ref a), (.int p1), (.int p2)] 3 = mkF m 0 #[.val (.ref a), .val (.int p1), .val (.int p2)] [] := by first | (simp [entryFrame, mkF, argsToLocals, Value.category]; done) | rfl
set_option maxRecDepth 65536 in
set_option maxHeartbeats 40000000 in
theorem own_rmad (l : Launch) (Z : State) (a0 : Array Value) (hw : ∀ d ∈ tables_1, d.before a0 Z = true) (a : Addr) (p1 p2 : Int32) (h0 : Heap) (n0 : Nat) (g_a : n0 ≤ a) (la ra ga nu ha : Addr) (kh : ClassId) (en sz se pr hs : Int32) (tb ea lr : Value) (htb : tb.isRef = true) (hea : ea.isRef = true) (hlr : lr.isRef = true) (i ki : Nat) (hi : i < 8) (hp : p1 = Int32.ofNat i) (hk : ki < 8) (he : en = Int32.ofNat ki) (lt rs gs : List Value) (kl kr kg : ClassId) (g_la : n0 ≤ la) (g_ra : n0 ≤ ra) (g_ga : n0 ≤ ga) (ne_ra_ga : ra ≠ ga) (ne_la_ra : la ≠ ra) (ne_la_ga : la ≠ ga) (ne_ha_la : ha ≠ la) (ne_ha_ra : ha ≠ ra) (ne_ha_ga : ha ≠ ga) (F_a : own_F Z h0 a la ra ga nu en sz se pr hs tb ea lr) (V_la : own_Ar Z h0 la kl .int lt) (h_la : lt.length = 8) (V_ra : own_Ar Z h0 ra kr .int rs) (h_ra : rs.length = 8) (V_ga : own_Ar Z h0 ga kg .int gs) (h_ga : gs.length = 8) (E_nu : Exa Z h0 nu "com/example/obedient_dog/obedientdog/topologydiscovery/LinkNumbers") (F_hashes_nu : Fld Z h0 nu "com/example/obedient_dog/obedientdog/topologydiscovery/LinkNumbers" "hashes" "[I" (.ref ha)) (V_ha : own_Ar Z h0 ha kh .int own_zs) :
    own_C l Z (⟨"com/example/obedient_dog/obedientdog/topologydiscovery/AgeLog", "add", "(II)V"⟩ : MethodName) prog_39_method_5_code 3 none [] ({ frames := 2, cells := 0, slots := 0, locals := 34 } : Room) #[(.ref a), (.int p1), (.int p2)] h0 (fun v h L => v = none ∧ Fr n0 L ∧ Keep h0 h [a, la, ra, ga] ∧ ∃ sz pr hs, (own_F Z h a la ra ga nu (Int32.ofNat (ki + 1)) sz se pr hs .null ea lr) ∧ own_Ar Z h la kl .int (lt.set i (.int (Int32.ofNat (ki + 1)))) ∧ own_Ar Z h ra kr .int (rs.set ki (.int p1)) ∧ own_Ar Z h ga kg .int (gs.set ki (.int p2))) := by
  refine own_body (plainFor_of_name own_pn1) fun p e s m below meth c s₁ hx hby hml hret hlk hown hnm hZ X0 e0 => ?_
  rw [own_efad m a p1 p2]
  have N0 := Fr.nil n0
  have K := Keep.refl h0 [a, la, ra, ga]
  obtain ⟨E_a, F_latest_a, F_raised_a, F_ages_a, F_numbers_a, F_entries_a, F_size_a, F_sealed_a, F_present_a, F_hash_a, F_table_a, F_earlier_a, F_later_a⟩ := F_a
  have ne_a_la : a ≠ la := by
    obtain ⟨cb, Ab, -⟩ := V_la
    exact ne_arr E_a (hw _ (List.mem_of_getElem? (i := 1) rfl)) Ab
  have ne_a_ra : a ≠ ra := by
    obtain ⟨cb, Ab, -⟩ := V_ra
    exact ne_arr E_a (hw _ (List.mem_of_getElem? (i := 1) rfl)) Ab
  have ne_a_ga : a ≠ ga := by
    obtain ⟨cb, Ab, -⟩ := V_ga
    exact ne_arr E_a (hw _ (List.mem_of_getElem? (i := 1) rfl)) Ab
  have ne_a_ha : a ≠ ha := by
    obtain ⟨cb, Ab, -⟩ := V_ha
    exact ne_arr E_a (hw _ (List.mem_of_getElem? (i := 1) rfl)) Ab
  have ne_nu_la : nu ≠ la := by
    obtain ⟨cb, Ab, -⟩ := V_la
    exact ne_arr E_nu (hw _ (List.mem_of_getElem? (i := 4) rfl)) Ab
  have ne_nu_ra : nu ≠ ra := by
    obtain ⟨cb, Ab, -⟩ := V_ra
    exact ne_arr E_nu (hw _ (List.mem_of_getElem? (i := 4) rfl)) Ab
  have ne_nu_ga : nu ≠ ga := by
    obtain ⟨cb, Ab, -⟩ := V_ga
    exact ne_arr E_nu (hw _ (List.mem_of_getElem? (i := 4) rfl)) Ab
  have ne_nu_ha : nu ≠ ha := by
    obtain ⟨cb, Ab, -⟩ := V_ha
    exact ne_arr E_nu (hw _ (List.mem_of_getElem? (i := 4) rfl)) Ab
  have ne_a_nu : a ≠ nu := ne_exa E_a E_nu (by decide)
  have oi := own_ofn (i := i) (by omega)
  refine own_go (U' := s₁.setTop (mkF m 1 #[.val (.ref a), .val (.int p1), .val (.int p2)] [(.int p1)])) (fun t k => XS.iloadN X0.here hx rfl (hb hby dad_0) rfl k) ?_
  refine own_go (U' := s₁.setTop (mkF m 2 #[.val (.ref a), .val (.int p1), .val (.int p2)] [(.ref a), (.int p1)])) (fun t k => XS.aloadN X0.here hx rfl (hb hby dad_1) rfl rfl k) ?_
  obtain ⟨T1, X1, e1, st1⟩ := getF X0 hx hZ hown (host := "") (Or.inl (hw _ (List.mem_of_getElem? (i := 63) rfl))) Via.refl e0 F_latest_a (g := (mkF m 2 #[.val (.ref a), .val (.int p1), .val (.int p2)] [(.ref a), (.int p1)])) rfl rfl (hb hby dad_2)
  refine own_go (U' := T1.setTop (mkF m 5 #[.val (.ref a), .val (.int p1), .val (.int p2)] [(.ref la), (.int p1)])) st1 ?_
  refine own_go (U' := T1.setTop (mkF m 6 #[.val (.ref a), .val (.int p1), .val (.int p2)] [(.int (8 : Int32)), (.int p1)])) (own_arrlen X1 hx hZ e1 V_la (n := (8 : Int32)) (by rw [h_la]; rfl) (g := (mkF m 5 #[.val (.ref a), .val (.int p1), .val (.int p2)] [(.ref la), (.int p1)])) rfl rfl (hb hby dad_5)) ?_
  refine own_go (U' := T1.setTop (mkF m 43 #[.val (.ref a), .val (.int p1), .val (.int p2)] [])) (fun t k => XS.icmpYes X1.here hx rfl (pc0 := 6) (pc' := 43) rfl (hb hby dad_6) rfl (tlt (by rw [hp]; exact (own_lt (j := 8) (by omega) (by omega)).mpr hi)).1 (by decide) (by decide) k) ?_
  refine own_go (U' := T1.setTop (mkF m 44 #[.val (.ref a), .val (.int p1), .val (.int p2)] [(.ref a)])) (fun t k => XS.aloadN X1.here hx rfl (hb hby dad_43) rfl rfl k) ?_
  obtain ⟨T2, X2, e2, st2⟩ := getF X1 hx hZ hown (host := "") (Or.inl (hw _ (List.mem_of_getElem? (i := 63) rfl))) Via.refl e1 F_latest_a (g := (mkF m 44 #[.val (.ref a), .val (.int p1), .val (.int p2)] [(.ref a)])) rfl rfl (hb hby dad_44)
  refine own_go (U' := T2.setTop (mkF m 47 #[.val (.ref a), .val (.int p1), .val (.int p2)] [(.ref la)])) st2 ?_
  refine own_go (U' := T2.setTop (mkF m 48 #[.val (.ref a), .val (.int p1), .val (.int p2)] [(.int p1), (.ref la)])) (fun t k => XS.iloadN X2.here hx rfl (hb hby dad_47) rfl k) ?_
  refine own_go (U' := T2.setTop (mkF m 49 #[.val (.ref a), .val (.int p1), .val (.int p2)] [(.ref a), (.int p1), (.ref la)])) (fun t k => XS.aloadN X2.here hx rfl (hb hby dad_48) rfl rfl k) ?_
  refine own_go (U' := T2.setTop (mkF m 50 #[.val (.ref a), .val (.int p1), .val (.int p2)] [(.int p1), (.ref a), (.int p1), (.ref la)])) (fun t k => XS.iloadN X2.here hx rfl (hb hby dad_49) rfl k) ?_
  refine own_go (U' := T2.setTop (mkF m 51 #[.val (.ref a), .val (.int p1), .val (.int p2)] [(.int p2), (.int p1), (.ref a), (.int p1), (.ref la)])) (fun t k => XS.iloadN X2.here hx rfl (hb hby dad_50) rfl k) ?_
  obtain ⟨v3, T3, h3, L3, e3, X3, hQ3, st3⟩ := own_callP X2 hx hZ (y := (⟨"com/example/obedient_dog/obedientdog/topologydiscovery/AgeLog", "append", "(II)I"⟩ : MethodName)) hown (hw _ (List.mem_of_getElem? (i := 81) rfl)) (hw _ (List.mem_of_getElem? (i := 82) rfl)) (own_selP (y0 := (⟨"com/example/obedient_dog/obedientdog/topologydiscovery/AgeLog", "raise", "(II)Z"⟩ : MethodName)) (hw _ (List.mem_of_getElem? (i := 74) rfl)) rfl (hw _ (List.mem_of_getElem? (i := 83) rfl)) (hw _ (List.mem_of_getElem? (i := 82) rfl)) (by decide)) (hw _ (List.mem_of_getElem? (i := 83) rfl)) (hw _ (List.mem_of_getElem? (i := 2) rfl)) (hw _ (List.mem_of_getElem? (i := 84) rfl)) (by decide) E_a (own_rmap l Z a0 hw a p1 p2 h0 n0 g_a la ra ga nu ha kh en sz se pr hs tb ea lr htb hea hlr ki hk he rs gs kr kg g_ra g_ga ne_ra_ga ⟨E_a, F_latest_a, F_raised_a, F_ages_a, F_numbers_a, F_entries_a, F_size_a, F_sealed_a, F_present_a, F_hash_a, F_table_a, F_earlier_a, F_later_a⟩ V_ra h_ra V_ga h_ga) (W := 2) (by decide) (by decide) (g := (mkF m 51 #[.val (.ref a), .val (.int p1), .val (.int p2)] [(.int p2), (.int p1), (.ref a), (.int p1), (.ref la)])) rfl (by rw [hml]; rfl) (argsL := [(.int p1), (.int p2)]) (rest := [(.int p1), (.ref la)]) (lenOf own_pd2 rfl) rfl rfl (by show 2 * 0 + _ ≤ _; exact Nat.le_of_eq rfl) (hb hby dad_51) e2 (by decide) (by decide)
  obtain ⟨rfl, Nq, Kq, F_a, V_ra, V_ga⟩ := hQ3
  have K := K.trans Kq (allS (Or.inl (List.mem_of_getElem? (i := 0) rfl)) (allS (Or.inl (List.mem_of_getElem? (i := 2) rfl)) (allS (Or.inl (List.mem_of_getElem? (i := 3) rfl)) all0)))
  have E_a := E_a.keep Kq
  have E_nu := E_nu.keep Kq
  have F_hashes_nu := F_hashes_nu.keep Kq (ninS (Ne.symm ne_a_nu) (ninS ne_nu_ra (ninS ne_nu_ga nin0)))
  have V_ha := V_ha.keep Kq (ninS (Ne.symm ne_a_ha) (ninS ne_ha_ra (ninS ne_ha_ga nin0)))
  have V_la := V_la.keep Kq (ninS (Ne.symm ne_a_la) (ninS ne_la_ra (ninS ne_la_ga nin0)))
  obtain ⟨E_a, F_latest_a, F_raised_a, F_ages_a, F_numbers_a, F_entries_a, F_size_a, F_sealed_a, F_present_a, F_hash_a, F_table_a, F_earlier_a, F_later_a⟩ := F_a
  have N3 := Fr.app N0 Nq
  refine own_go (U' := T3.setTop (mkF m 54 #[.val (.ref a), .val (.int p1), .val (.int p2)] [(.int (Int32.ofNat ki)), (.int p1), (.ref la)])) st3 ?_
  refine own_go (U' := T3.setTop (mkF m 55 #[.val (.ref a), .val (.int p1), .val (.int p2)] [(.int (1 : Int32)), (.int (Int32.ofNat ki)), (.int p1), (.ref la)])) (fun t k => XS.iconst X3.here hx rfl (hb hby dad_54) k) ?_
  refine own_go (U' := T3.setTop (mkF m 56 #[.val (.ref a), .val (.int p1), .val (.int p2)] [(.int ((Int32.ofNat ki) + (1 : Int32))), (.int p1), (.ref la)])) (fun t k => XS.iadd X3.here hx rfl (hb hby dad_55) rfl k) ?_
  rw [← own_succ, hp]
  subst hp
  obtain ⟨T4, h4, X4, e4, W4, A4, st4⟩ := own_iastore X3 hx hZ e3 V_la (j := (Int32.ofNat i)) oi.1 (i := i) oi.2.1 (by omega) (g := (mkF m 56 #[.val (.ref a), .val (.int (Int32.ofNat i)), .val (.int p2)] [(.int (Int32.ofNat (ki + 1))), (.int (Int32.ofNat i)), (.ref la)])) rfl rfl (hb hby dad_56)
  have K := K.wr W4 (Or.inl (List.mem_of_getElem? (i := 1) rfl))
  have E_a := E_a.wr W4
  have E_nu := E_nu.wr W4
  have F_hashes_nu := F_hashes_nu.other W4 (Or.inl ne_nu_la)
  have V_ha := V_ha.other W4 ne_ha_la
  have F_latest_a := F_latest_a.other W4 (Or.inl ne_a_la)
  have F_raised_a := F_raised_a.other W4 (Or.inl ne_a_la)
  have F_ages_a := F_ages_a.other W4 (Or.inl ne_a_la)
  have F_numbers_a := F_numbers_a.other W4 (Or.inl ne_a_la)
  have F_entries_a := F_entries_a.other W4 (Or.inl ne_a_la)
  have F_size_a := F_size_a.other W4 (Or.inl ne_a_la)
  have F_sealed_a := F_sealed_a.other W4 (Or.inl ne_a_la)
  have F_present_a := F_present_a.other W4 (Or.inl ne_a_la)
  have F_hash_a := F_hash_a.other W4 (Or.inl ne_a_la)
  have F_table_a := F_table_a.other W4 (Or.inl ne_a_la)
  have F_earlier_a := F_earlier_a.other W4 (Or.inl ne_a_la)
  have F_later_a := F_later_a.other W4 (Or.inl ne_a_la)
  have V_ra := V_ra.other W4 (Ne.symm ne_la_ra)
  have V_ga := V_ga.other W4 (Ne.symm ne_la_ga)
  have V_la : own_Ar Z h4 la kl .int (lt.set i (.int (Int32.ofNat (ki + 1)))) := A4
  have N4 := Fr.snoc X4 N3 g_la
  refine own_go (U' := T4.setTop (mkF m 57 #[.val (.ref a), .val (.int (Int32.ofNat i)), .val (.int p2)] [])) st4 ?_
  refine own_go (U' := T4.setTop (mkF m 58 #[.val (.ref a), .val (.int (Int32.ofNat i)), .val (.int p2)] [(.ref a)])) (fun t k => XS.aloadN X4.here hx rfl (hb hby dad_57) rfl rfl k) ?_
  refine own_go (U' := T4.setTop (mkF m 59 #[.val (.ref a), .val (.int (Int32.ofNat i)), .val (.int p2)] [(.ref a), (.ref a)])) (fun t k => XS.dup X4.here hx rfl (hb hby dad_58) rfl rfl k) ?_
  obtain ⟨T5, X5, e5, st5⟩ := getF X4 hx hZ hown (host := "") (Or.inl (hw _ (List.mem_of_getElem? (i := 87) rfl))) Via.refl e4 F_size_a (g := (mkF m 59 #[.val (.ref a), .val (.int (Int32.ofNat i)), .val (.int p2)] [(.ref a), (.ref a)])) rfl rfl (hb hby dad_59)
  refine own_go (U' := T5.setTop (mkF m 62 #[.val (.ref a), .val (.int (Int32.ofNat i)), .val (.int p2)] [(.int sz), (.ref a)])) st5 ?_
  refine own_go (U' := T5.setTop (mkF m 63 #[.val (.ref a), .val (.int (Int32.ofNat i)), .val (.int p2)] [(.int (1 : Int32)), (.int sz), (.ref a)])) (fun t k => XS.iconst X5.here hx rfl (hb hby dad_62) k) ?_
  refine own_go (U' := T5.setTop (mkF m 64 #[.val (.ref a), .val (.int (Int32.ofNat i)), .val (.int p2)] [(.int (sz + (1 : Int32))), (.ref a)])) (fun t k => XS.iadd X5.here hx rfl (hb hby dad_63) rfl k) ?_
  obtain ⟨T6, h6, X6, e6, W6, st6⟩ := putF X5 hx hZ hown (host := "") (Or.inl (hw _ (List.mem_of_getElem? (i := 87) rfl))) Via.refl e5 F_size_a E_a (Or.inl (hw _ (List.mem_of_getElem? (i := 88) rfl))) (hw _ (List.mem_of_getElem? (i := 1) rfl)) (ty := .int) (by decide) rfl rfl (g := (mkF m 64 #[.val (.ref a), .val (.int (Int32.ofNat i)), .val (.int p2)] [(.int (sz + (1 : Int32))), (.ref a)])) rfl rfl (hb hby dad_64)
  have K := K.wr W6 (Or.inl (List.mem_of_getElem? (i := 0) rfl))
  have E_a := E_a.wr W6
  have E_nu := E_nu.wr W6
  have F_hashes_nu := F_hashes_nu.other W6 (Or.inl (Ne.symm ne_a_nu))
  have V_ha := V_ha.other W6 (Ne.symm ne_a_ha)
  have V_la := V_la.other W6 (Ne.symm ne_a_la)
  have F_latest_a := F_latest_a.other W6 (Or.inr (slot_ne (Or.inl (hw _ (List.mem_of_getElem? (i := 64) rfl))) (Or.inl (hw _ (List.mem_of_getElem? (i := 88) rfl))) (by decide) (t := (.array .int)) (t' := .int) (by decide) (by decide)))
  have F_raised_a := F_raised_a.other W6 (Or.inr (slot_ne (Or.inl (hw _ (List.mem_of_getElem? (i := 66) rfl))) (Or.inl (hw _ (List.mem_of_getElem? (i := 88) rfl))) (by decide) (t := (.array .int)) (t' := .int) (by decide) (by decide)))
  have F_ages_a := F_ages_a.other W6 (Or.inr (slot_ne (Or.inl (hw _ (List.mem_of_getElem? (i := 68) rfl))) (Or.inl (hw _ (List.mem_of_getElem? (i := 88) rfl))) (by decide) (t := (.array .int)) (t' := .int) (by decide) (by decide)))
  have F_numbers_a := F_numbers_a.other W6 (Or.inr (slot_ne (Or.inr (hw _ (List.mem_of_getElem? (i := 70) rfl))) (Or.inl (hw _ (List.mem_of_getElem? (i := 88) rfl))) (by decide) (t := (.object "com/example/obedient_dog/obedientdog/topologydiscovery/LinkNumbers")) (t' := .int) (by decide) (by decide)))
  have F_entries_a := F_entries_a.other W6 (Or.inr (slot_ne (Or.inl (hw _ (List.mem_of_getElem? (i := 86) rfl))) (Or.inl (hw _ (List.mem_of_getElem? (i := 88) rfl))) (by decide) (t := .int) (t' := .int) (by decide) (by decide)))
  have F_sealed_a := F_sealed_a.other W6 (Or.inr (slot_ne (Or.inl (hw _ (List.mem_of_getElem? (i := 110) rfl))) (Or.inl (hw _ (List.mem_of_getElem? (i := 88) rfl))) (by decide) (t := .int) (t' := .int) (by decide) (by decide)))
  have F_present_a := F_present_a.other W6 (Or.inr (slot_ne (Or.inl (hw _ (List.mem_of_getElem? (i := 94) rfl))) (Or.inl (hw _ (List.mem_of_getElem? (i := 88) rfl))) (by decide) (t := .int) (t' := .int) (by decide) (by decide)))
  have F_hash_a := F_hash_a.other W6 (Or.inr (slot_ne (Or.inl (hw _ (List.mem_of_getElem? (i := 96) rfl))) (Or.inl (hw _ (List.mem_of_getElem? (i := 88) rfl))) (by decide) (t := .int) (t' := .int) (by decide) (by decide)))
  have F_table_a := F_table_a.other W6 (Or.inr (slot_ne (Or.inl (hw _ (List.mem_of_getElem? (i := 103) rfl))) (Or.inl (hw _ (List.mem_of_getElem? (i := 88) rfl))) (by decide) (t := (.object "com/example/obedient_dog/obedientdog/topologydiscovery/AgeTable")) (t' := .int) (by decide) (by decide)))
  have F_earlier_a := F_earlier_a.other W6 (Or.inr (slot_ne (Or.inl (hw _ (List.mem_of_getElem? (i := 170) rfl))) (Or.inl (hw _ (List.mem_of_getElem? (i := 88) rfl))) (by decide) (t := (.array .int)) (t' := .int) (by decide) (by decide)))
  have F_later_a := F_later_a.other W6 (Or.inr (slot_ne (Or.inl (hw _ (List.mem_of_getElem? (i := 172) rfl))) (Or.inl (hw _ (List.mem_of_getElem? (i := 88) rfl))) (by decide) (t := (.array .int)) (t' := .int) (by decide) (by decide)))
  have V_ra := V_ra.other W6 (Ne.symm ne_a_ra)
  have V_ga := V_ga.other W6 (Ne.symm ne_a_ga)
  have F_size_a := F_size_a.same W6
  have N6 := Fr.snoc X6 N4 g_a
  refine own_go (U' := T6.setTop (mkF m 67 #[.val (.ref a), .val (.int (Int32.ofNat i)), .val (.int p2)] [])) st6 ?_
  refine own_go (U' := T6.setTop (mkF m 68 #[.val (.ref a), .val (.int (Int32.ofNat i)), .val (.int p2)] [(.ref a)])) (fun t k => XS.aloadN X6.here hx rfl (hb hby dad_67) rfl rfl k) ?_
  refine own_go (U' := T6.setTop (mkF m 69 #[.val (.ref a), .val (.int (Int32.ofNat i)), .val (.int p2)] [(.int (Int32.ofNat i)), (.ref a)])) (fun t k => XS.iloadN X6.here hx rfl (hb hby dad_68) rfl k) ?_
  refine own_go (U' := T6.setTop (mkF m 70 #[.val (.ref a), .val (.int (Int32.ofNat i)), .val (.int p2)] [(.int p2), (.int (Int32.ofNat i)), (.ref a)])) (fun t k => XS.iloadN X6.here hx rfl (hb hby dad_69) rfl k) ?_
  refine own_go (U' := T6.setTop (mkF m 71 #[.val (.ref a), .val (.int (Int32.ofNat i)), .val (.int p2)] [(.int (1 : Int32)), (.int p2), (.int (Int32.ofNat i)), (.ref a)])) (fun t k => XS.iconst X6.here hx rfl (hb hby dad_70) k) ?_
  obtain ⟨v7, T7, h7, L7, e7, X7, hQ7, st7⟩ := own_callP X6 hx hZ (y := (⟨"com/example/obedient_dog/obedientdog/topologydiscovery/AgeLog", "count", "(III)V"⟩ : MethodName)) hown (hw _ (List.mem_of_getElem? (i := 89) rfl)) (hw _ (List.mem_of_getElem? (i := 90) rfl)) (own_selP (y0 := (⟨"com/example/obedient_dog/obedientdog/topologydiscovery/AgeLog", "raise", "(II)Z"⟩ : MethodName)) (hw _ (List.mem_of_getElem? (i := 74) rfl)) rfl (hw _ (List.mem_of_getElem? (i := 91) rfl)) (hw _ (List.mem_of_getElem? (i := 90) rfl)) (by decide)) (hw _ (List.mem_of_getElem? (i := 91) rfl)) (hw _ (List.mem_of_getElem? (i := 2) rfl)) (hw _ (List.mem_of_getElem? (i := 92) rfl)) (by decide) E_a (own_rmct l Z a0 hw a (Int32.ofNat i) p2 1 h6 n0 g_a la ra ga nu ha kh _ _ _ _ _ _ _ _ htb hea hlr i (by omega) rfl ⟨E_a, F_latest_a, F_raised_a, F_ages_a, F_numbers_a, F_entries_a, F_size_a, F_sealed_a, F_present_a, F_hash_a, F_table_a, F_earlier_a, F_later_a⟩ E_nu F_hashes_nu V_ha) (W := 0) (by decide) (by decide) (g := (mkF m 71 #[.val (.ref a), .val (.int (Int32.ofNat i)), .val (.int p2)] [(.int (1 : Int32)), (.int p2), (.int (Int32.ofNat i)), (.ref a)])) rfl (by rw [hml]; rfl) (argsL := [(.int (Int32.ofNat i)), (.int p2), (.int (1 : Int32))]) (rest := []) (lenOf own_pd1 rfl) rfl rfl (by show 2 * 0 + _ ≤ _; exact Nat.le_of_eq rfl) (hb hby dad_71) e6 (by decide) (by decide)
  obtain ⟨rfl, Nq, Kq, pr2, hs2, F_a⟩ := hQ7
  have K := K.trans Kq (allS (Or.inl (List.mem_of_getElem? (i := 0) rfl)) all0)
  have E_a := E_a.keep Kq
  have E_nu := E_nu.keep Kq
  have F_hashes_nu := F_hashes_nu.keep Kq (ninS (Ne.symm ne_a_nu) nin0)
  have V_ha := V_ha.keep Kq (ninS (Ne.symm ne_a_ha) nin0)
  have V_la := V_la.keep Kq (ninS (Ne.symm ne_a_la) nin0)
  have V_ra := V_ra.keep Kq (ninS (Ne.symm ne_a_ra) nin0)
  have V_ga := V_ga.keep Kq (ninS (Ne.symm ne_a_ga) nin0)
  obtain ⟨E_a, F_latest_a, F_raised_a, F_ages_a, F_numbers_a, F_entries_a, F_size_a, F_sealed_a, F_present_a, F_hash_a, F_table_a, F_earlier_a, F_later_a⟩ := F_a
  have N7 := Fr.app N6 Nq
  refine own_go (U' := T7.setTop (mkF m 74 #[.val (.ref a), .val (.int (Int32.ofNat i)), .val (.int p2)] [])) st7 ?_
  refine own_go (U' := T7.setTop (mkF m 75 #[.val (.ref a), .val (.int (Int32.ofNat i)), .val (.int p2)] [(.ref a)])) (fun t k => XS.aloadN X7.here hx rfl (hb hby dad_74) rfl rfl k) ?_
  refine own_go (U' := T7.setTop (mkF m 76 #[.val (.ref a), .val (.int (Int32.ofNat i)), .val (.int p2)] [.null, (.ref a)])) (fun t k => XS.aconstNull X7.here hx rfl (hb hby dad_75) k) ?_
  obtain ⟨T8, h8, X8, e8, W8, st8⟩ := putF X7 hx hZ hown (host := "") (Or.inl (hw _ (List.mem_of_getElem? (i := 102) rfl))) Via.refl e7 F_table_a E_a (Or.inl (hw _ (List.mem_of_getElem? (i := 103) rfl))) (hw _ (List.mem_of_getElem? (i := 1) rfl)) (ty := (.object "com/example/obedient_dog/obedientdog/topologydiscovery/AgeTable")) (by decide) rfl rfl (g := (mkF m 76 #[.val (.ref a), .val (.int (Int32.ofNat i)), .val (.int p2)] [.null, (.ref a)])) rfl rfl (hb hby dad_76)
  have K := K.wr W8 (Or.inl (List.mem_of_getElem? (i := 0) rfl))
  have E_a := E_a.wr W8
  have E_nu := E_nu.wr W8
  have F_hashes_nu := F_hashes_nu.other W8 (Or.inl (Ne.symm ne_a_nu))
  have V_ha := V_ha.other W8 (Ne.symm ne_a_ha)
  have V_la := V_la.other W8 (Ne.symm ne_a_la)
  have V_ra := V_ra.other W8 (Ne.symm ne_a_ra)
  have V_ga := V_ga.other W8 (Ne.symm ne_a_ga)
  have F_latest_a := F_latest_a.other W8 (Or.inr (slot_ne (Or.inl (hw _ (List.mem_of_getElem? (i := 64) rfl))) (Or.inl (hw _ (List.mem_of_getElem? (i := 103) rfl))) (by decide) (t := (.array .int)) (t' := (.object "com/example/obedient_dog/obedientdog/topologydiscovery/AgeTable")) (by decide) (by decide)))
  have F_raised_a := F_raised_a.other W8 (Or.inr (slot_ne (Or.inl (hw _ (List.mem_of_getElem? (i := 66) rfl))) (Or.inl (hw _ (List.mem_of_getElem? (i := 103) rfl))) (by decide) (t := (.array .int)) (t' := (.object "com/example/obedient_dog/obedientdog/topologydiscovery/AgeTable")) (by decide) (by decide)))
  have F_ages_a := F_ages_a.other W8 (Or.inr (slot_ne (Or.inl (hw _ (List.mem_of_getElem? (i := 68) rfl))) (Or.inl (hw _ (List.mem_of_getElem? (i := 103) rfl))) (by decide) (t := (.array .int)) (t' := (.object "com/example/obedient_dog/obedientdog/topologydiscovery/AgeTable")) (by decide) (by decide)))
  have F_numbers_a := F_numbers_a.other W8 (Or.inr (slot_ne (Or.inr (hw _ (List.mem_of_getElem? (i := 70) rfl))) (Or.inl (hw _ (List.mem_of_getElem? (i := 103) rfl))) (by decide) (t := (.object "com/example/obedient_dog/obedientdog/topologydiscovery/LinkNumbers")) (t' := (.object "com/example/obedient_dog/obedientdog/topologydiscovery/AgeTable")) (by decide) (by decide)))
  have F_entries_a := F_entries_a.other W8 (Or.inr (slot_ne (Or.inl (hw _ (List.mem_of_getElem? (i := 86) rfl))) (Or.inl (hw _ (List.mem_of_getElem? (i := 103) rfl))) (by decide) (t := .int) (t' := (.object "com/example/obedient_dog/obedientdog/topologydiscovery/AgeTable")) (by decide) (by decide)))
  have F_size_a := F_size_a.other W8 (Or.inr (slot_ne (Or.inl (hw _ (List.mem_of_getElem? (i := 88) rfl))) (Or.inl (hw _ (List.mem_of_getElem? (i := 103) rfl))) (by decide) (t := .int) (t' := (.object "com/example/obedient_dog/obedientdog/topologydiscovery/AgeTable")) (by decide) (by decide)))
  have F_sealed_a := F_sealed_a.other W8 (Or.inr (slot_ne (Or.inl (hw _ (List.mem_of_getElem? (i := 110) rfl))) (Or.inl (hw _ (List.mem_of_getElem? (i := 103) rfl))) (by decide) (t := .int) (t' := (.object "com/example/obedient_dog/obedientdog/topologydiscovery/AgeTable")) (by decide) (by decide)))
  have F_present_a := F_present_a.other W8 (Or.inr (slot_ne (Or.inl (hw _ (List.mem_of_getElem? (i := 94) rfl))) (Or.inl (hw _ (List.mem_of_getElem? (i := 103) rfl))) (by decide) (t := .int) (t' := (.object "com/example/obedient_dog/obedientdog/topologydiscovery/AgeTable")) (by decide) (by decide)))
  have F_hash_a := F_hash_a.other W8 (Or.inr (slot_ne (Or.inl (hw _ (List.mem_of_getElem? (i := 96) rfl))) (Or.inl (hw _ (List.mem_of_getElem? (i := 103) rfl))) (by decide) (t := .int) (t' := (.object "com/example/obedient_dog/obedientdog/topologydiscovery/AgeTable")) (by decide) (by decide)))
  have F_earlier_a := F_earlier_a.other W8 (Or.inr (slot_ne (Or.inl (hw _ (List.mem_of_getElem? (i := 170) rfl))) (Or.inl (hw _ (List.mem_of_getElem? (i := 103) rfl))) (by decide) (t := (.array .int)) (t' := (.object "com/example/obedient_dog/obedientdog/topologydiscovery/AgeTable")) (by decide) (by decide)))
  have F_later_a := F_later_a.other W8 (Or.inr (slot_ne (Or.inl (hw _ (List.mem_of_getElem? (i := 172) rfl))) (Or.inl (hw _ (List.mem_of_getElem? (i := 103) rfl))) (by decide) (t := (.array .int)) (t' := (.object "com/example/obedient_dog/obedientdog/topologydiscovery/AgeTable")) (by decide) (by decide)))
  have F_table_a := F_table_a.same W8
  have N8 := Fr.snoc X8 N7 g_a
  refine own_go (U' := T8.setTop (mkF m 79 #[.val (.ref a), .val (.int (Int32.ofNat i)), .val (.int p2)] [])) st8 ?_
  refine own_retV X8 hx hret hlk (hb hby dad_79) ?_ (by decide) (by decide)
  rw [e8]
  exact ⟨rfl, N8, K, _, _, _, ⟨E_a, F_latest_a, F_raised_a, F_ages_a, F_numbers_a, F_entries_a, F_size_a, F_sealed_a, F_present_a, F_hash_a, F_table_a, F_earlier_a, F_later_a⟩, V_la, V_ra, V_ga⟩
theorem dc0_0 : decode prog_39_method_14_code 0 = .ok (.aload_n 0, 1) := by decide +kernel
theorem dc0_1 : decode prog_39_method_14_code 1 = .ok (.getfield 96, 3) := by decide +kernel
theorem dc0_4 : decode prog_39_method_14_code 4 = .ok (.ifnonnull 25, 3) := by decide +kernel
theorem dc0_7 : decode prog_39_method_14_code 7 = .ok (.aload_n 0, 1) := by decide +kernel
theorem dc0_8 : decode prog_39_method_14_code 8 = .ok (.aload_n 0, 1) := by decide +kernel
theorem dc0_9 : decode prog_39_method_14_code 9 = .ok (.getfield 13, 3) := by decide +kernel
theorem dc0_12 : decode prog_39_method_14_code 12 = .ok (.arraylength, 1) := by decide +kernel
theorem dc0_13 : decode prog_39_method_14_code 13 = .ok (.newarray .int, 2) := by decide +kernel
theorem dc0_15 : decode prog_39_method_14_code 15 = .ok (.putfield 96, 3) := by decide +kernel
theorem dc0_18 : decode prog_39_method_14_code 18 = .ok (.aload_n 0, 1) := by decide +kernel
theorem dc0_19 : decode prog_39_method_14_code 19 = .ok (.aload_n 0, 1) := by decide +kernel
theorem dc0_20 : decode prog_39_method_14_code 20 = .ok (.getfield 13, 3) := by decide +kernel
theorem dc0_23 : decode prog_39_method_14_code 23 = .ok (.arraylength, 1) := by decide +kernel
theorem dc0_24 : decode prog_39_method_14_code 24 = .ok (.newarray .int, 2) := by decide +kernel
theorem dc0_26 : decode prog_39_method_14_code 26 = .ok (.putfield 99, 3) := by decide +kernel
theorem dc0_29 : decode prog_39_method_14_code 29 = .ok (.aload_n 0, 1) := by decide +kernel
theorem dc0_30 : decode prog_39_method_14_code 30 = .ok (.getfield 96, 3) := by decide +kernel
theorem dc0_33 : decode prog_39_method_14_code 33 = .ok (.iload_n 2, 1) := by decide +kernel
theorem dc0_34 : decode prog_39_method_14_code 34 = .ok (.iload_n 1, 1) := by decide +kernel
theorem dc0_35 : decode prog_39_method_14_code 35 = .ok (.iconst 1, 1) := by decide +kernel
theorem dc0_36 : decode prog_39_method_14_code 36 = .ok (.iadd, 1) := by decide +kernel
theorem dc0_37 : decode prog_39_method_14_code 37 = .ok (.iastore, 1) := by decide +kernel
theorem dc0_38 : decode prog_39_method_14_code 38 = .ok (.aload_n 0, 1) := by decide +kernel
theorem dc0_39 : decode prog_39_method_14_code 39 = .ok (.getfield 99, 3) := by decide +kernel
theorem dc0_42 : decode prog_39_method_14_code 42 = .ok (.iload_n 1, 1) := by decide +kernel
theorem dc0_43 : decode prog_39_method_14_code 43 = .ok (.iload_n 2, 1) := by decide +kernel
theorem dc0_44 : decode prog_39_method_14_code 44 = .ok (.iastore, 1) := by decide +kernel
theorem dc0_45 : decode prog_39_method_14_code 45 = .ok (.return_, 1) := by decide +kernel
theorem own_efc0 (m : MethodId) (a : Addr) (p1 p2 : Int32) : entryFrame m #[(.ref a), (.int p1), (.int p2)] 3 = mkF m 0 #[.val (.ref a), .val (.int p1), .val (.int p2)] [] := by first | (simp [entryFrame, mkF, argsToLocals, Value.category]; done) | rfl
set_option maxRecDepth 65536 in
set_option maxHeartbeats 40000000 in
theorem own_rmc0 (l : Launch) (Z : State) (a0 : Array Value) (hw : ∀ d ∈ tables_1, d.before a0 Z = true) (a : Addr) (p1 p2 : Int32) (h0 : Heap) (n0 : Nat) (O : Old Z n0 h0) (g_a : n0 ≤ a) (la ra ga nu ha : Addr) (kh : ClassId) (en sz se pr hs : Int32) (tb : Value) (htb : tb.isRef = true) (i ki : Nat) (hi : i < 8) (hk : ki < 8) (hp : p1 = Int32.ofNat i) (hq : p2 = Int32.ofNat ki) (rs : List Value) (kr : ClassId) (F_a : own_F Z h0 a la ra ga nu en sz se pr hs tb .null .null) (V_ra : own_Ar Z h0 ra kr .int rs) (h_ra : rs.length = 8) :
    own_C l Z (⟨"com/example/obedient_dog/obedientdog/topologydiscovery/AgeLog", "chain", "(II)V"⟩ : MethodName) prog_39_method_14_code 3 none [] ({ frames := 0, cells := 2, slots := 16, locals := 0 } : Room) #[(.ref a), (.int p1), (.int p2)] h0 (fun v h L => v = none ∧ Fr n0 L ∧ Keep h0 h [a] ∧ ∃ xe xl ke kl2, (own_F Z h a la ra ga nu en sz se pr hs tb (.ref xe) (.ref xl)) ∧ own_Ar Z h xe ke .int (own_is ((List.replicate 8 0).set ki (i + 1))) ∧ own_Ar Z h xl kl2 .int (own_is ((List.replicate 8 0).set i ki)) ∧ h0.size ≤ xe ∧ h0.size ≤ xl ∧ n0 ≤ xe ∧ n0 ≤ xl ∧ xe ≠ xl) := by
  refine own_body (plainFor_of_name own_pn1) fun p e s m below meth c s₁ hx hby hml hret hlk hown hnm hZ X0 e0 => ?_
  rw [own_efc0 m a p1 p2]
  have N0 := Fr.nil n0
  have K := Keep.refl h0 [a]
  obtain ⟨E_a, F_latest_a, F_raised_a, F_ages_a, F_numbers_a, F_entries_a, F_size_a, F_sealed_a, F_present_a, F_hash_a, F_table_a, F_earlier_a, F_later_a⟩ := F_a
  have ne_a_ra : a ≠ ra := by
    obtain ⟨cb, Ab, -⟩ := V_ra
    exact ne_arr E_a (hw _ (List.mem_of_getElem? (i := 1) rfl)) Ab
  subst hp hq
  have oi := own_ofn (i := i) (by omega)
  have ok := own_ofn (i := ki) (by omega)
  refine own_go (U' := s₁.setTop (mkF m 1 #[.val (.ref a), .val (.int (Int32.ofNat i)), .val (.int (Int32.ofNat ki))] [(.ref a)])) (fun t k => XS.aloadN X0.here hx rfl (hb hby dc0_0) rfl rfl k) ?_
  obtain ⟨T1, X1, e1, st1⟩ := getF X0 hx hZ hown (host := "") (Or.inl (hw _ (List.mem_of_getElem? (i := 169) rfl))) Via.refl e0 F_earlier_a (g := (mkF m 1 #[.val (.ref a), .val (.int (Int32.ofNat i)), .val (.int (Int32.ofNat ki))] [(.ref a)])) rfl rfl (hb hby dc0_1)
  refine own_go (U' := T1.setTop (mkF m 4 #[.val (.ref a), .val (.int (Int32.ofNat i)), .val (.int (Int32.ofNat ki))] [.null])) st1 ?_
  refine own_go (U' := T1.setTop (mkF m 7 #[.val (.ref a), .val (.int (Int32.ofNat i)), .val (.int (Int32.ofNat ki))] [])) (fun t k => XS.ifnonnullNo X1.here hx rfl (hb hby dc0_4) rfl k) ?_
  refine own_go (U' := T1.setTop (mkF m 8 #[.val (.ref a), .val (.int (Int32.ofNat i)), .val (.int (Int32.ofNat ki))] [(.ref a)])) (fun t k => XS.aloadN X1.here hx rfl (hb hby dc0_7) rfl rfl k) ?_
  refine own_go (U' := T1.setTop (mkF m 9 #[.val (.ref a), .val (.int (Int32.ofNat i)), .val (.int (Int32.ofNat ki))] [(.ref a), (.ref a)])) (fun t k => XS.aloadN X1.here hx rfl (hb hby dc0_8) rfl rfl k) ?_
  obtain ⟨T2, X2, e2, st2⟩ := getF X1 hx hZ hown (host := "") (Or.inl (hw _ (List.mem_of_getElem? (i := 65) rfl))) Via.refl e1 F_raised_a (g := (mkF m 9 #[.val (.ref a), .val (.int (Int32.ofNat i)), .val (.int (Int32.ofNat ki))] [(.ref a), (.ref a)])) rfl rfl (hb hby dc0_9)
  refine own_go (U' := T2.setTop (mkF m 12 #[.val (.ref a), .val (.int (Int32.ofNat i)), .val (.int (Int32.ofNat ki))] [(.ref ra), (.ref a)])) st2 ?_
  refine own_go (U' := T2.setTop (mkF m 13 #[.val (.ref a), .val (.int (Int32.ofNat i)), .val (.int (Int32.ofNat ki))] [(.int (8 : Int32)), (.ref a)])) (own_arrlen X2 hx hZ e2 V_ra (n := (8 : Int32)) (by rw [h_ra]; rfl) (g := (mkF m 12 #[.val (.ref a), .val (.int (Int32.ofNat i)), .val (.int (Int32.ofNat ki))] [(.ref ra), (.ref a)])) rfl rfl (hb hby dc0_12)) ?_
  obtain ⟨T3, h3, k3, X3, e3, E3, A3, Y3, st3⟩ := own_newarr X2 hx hZ (hw _ (List.mem_of_getElem? (i := 56) rfl)) e2 (g := (mkF m 13 #[.val (.ref a), .val (.int (Int32.ofNat i)), .val (.int (Int32.ofNat ki))] [(.int (8 : Int32)), (.ref a)])) rfl (hb hby dc0_13) rfl (by decide) (cap := 8) (by decide) (by decide) (by decide) (by decide) (ad := "[I") (by decide) rfl (vs := (own_is (List.replicate 8 0))) rfl
  obtain ⟨b3, g3⟩ : ∃ z, z = h0.size := ⟨_, rfl⟩
  rw [← g3] at A3 Y3 st3
  have ne_a_b3 : a ≠ b3 := Nat.ne_of_lt (Nat.lt_of_lt_of_eq E_a.lt g3.symm)
  have ne_ra_b3 : ra ≠ b3 := Nat.ne_of_lt (Nat.lt_of_lt_of_eq V_ra.lt g3.symm)
  have g_b3 : n0 ≤ b3 := Nat.le_trans (Nat.le_trans (Nat.le_of_eq O.1.symm) O.2.1) (Nat.le_of_eq g3.symm)
  have sz_b3 : h0.size ≤ b3 := Nat.le_trans K.1 (Nat.le_of_eq g3.symm)
  have K := K.ext E3
  have O := O.ext E3
  have E_a := E_a.ext E3
  have F_latest_a := F_latest_a.ext E3
  have F_raised_a := F_raised_a.ext E3
  have F_ages_a := F_ages_a.ext E3
  have F_numbers_a := F_numbers_a.ext E3
  have F_entries_a := F_entries_a.ext E3
  have F_size_a := F_size_a.ext E3
  have F_sealed_a := F_sealed_a.ext E3
  have F_present_a := F_present_a.ext E3
  have F_hash_a := F_hash_a.ext E3
  have F_table_a := F_table_a.ext E3
  have F_earlier_a := F_earlier_a.ext E3
  have F_later_a := F_later_a.ext E3
  have V_ra := V_ra.ext E3
  have V_b3 : own_Ar Z h3 b3 k3 .int (own_is (List.replicate 8 0)) := A3
  have E_b3 := Y3
  refine own_go (U' := T3.setTop (mkF m 15 #[.val (.ref a), .val (.int (Int32.ofNat i)), .val (.int (Int32.ofNat ki))] [(.ref b3), (.ref a)])) st3 ?_
  obtain ⟨T4, h4, X4, e4, W4, st4⟩ := putF X3 hx hZ hown (host := "") (Or.inl (hw _ (List.mem_of_getElem? (i := 169) rfl))) Via.refl e3 F_earlier_a E_a (Or.inl (hw _ (List.mem_of_getElem? (i := 170) rfl))) (hw _ (List.mem_of_getElem? (i := 1) rfl)) (ty := (.array .int)) (by decide) rfl rfl (g := (mkF m 15 #[.val (.ref a), .val (.int (Int32.ofNat i)), .val (.int (Int32.ofNat ki))] [(.ref b3), (.ref a)])) rfl rfl (hb hby dc0_15)
  have K := K.wr W4 (Or.inl (List.mem_of_getElem? (i := 0) rfl))
  have O := O.wr W4 g_a
  have E_a := E_a.wr W4
  have F_latest_a := F_latest_a.other W4 (Or.inr (slot_ne (Or.inl (hw _ (List.mem_of_getElem? (i := 64) rfl))) (Or.inl (hw _ (List.mem_of_getElem? (i := 170) rfl))) (by decide) (t := (.array .int)) (t' := (.array .int)) (by decide) (by decide)))
  have F_raised_a := F_raised_a.other W4 (Or.inr (slot_ne (Or.inl (hw _ (List.mem_of_getElem? (i := 66) rfl))) (Or.inl (hw _ (List.mem_of_getElem? (i := 170) rfl))) (by decide) (t := (.array .int)) (t' := (.array .int)) (by decide) (by decide)))
  have F_ages_a := F_ages_a.other W4 (Or.inr (slot_ne (Or.inl (hw _ (List.mem_of_getElem? (i := 68) rfl))) (Or.inl (hw _ (List.mem_of_getElem? (i := 170) rfl))) (by decide) (t := (.array .int)) (t' := (.array .int)) (by decide) (by decide)))
  have F_numbers_a := F_numbers_a.other W4 (Or.inr (slot_ne (Or.inr (hw _ (List.mem_of_getElem? (i := 70) rfl))) (Or.inl (hw _ (List.mem_of_getElem? (i := 170) rfl))) (by decide) (t := (.object "com/example/obedient_dog/obedientdog/topologydiscovery/LinkNumbers")) (t' := (.array .int)) (by decide) (by decide)))
  have F_entries_a := F_entries_a.other W4 (Or.inr (slot_ne (Or.inl (hw _ (List.mem_of_getElem? (i := 86) rfl))) (Or.inl (hw _ (List.mem_of_getElem? (i := 170) rfl))) (by decide) (t := .int) (t' := (.array .int)) (by decide) (by decide)))
  have F_size_a := F_size_a.other W4 (Or.inr (slot_ne (Or.inl (hw _ (List.mem_of_getElem? (i := 88) rfl))) (Or.inl (hw _ (List.mem_of_getElem? (i := 170) rfl))) (by decide) (t := .int) (t' := (.array .int)) (by decide) (by decide)))
  have F_sealed_a := F_sealed_a.other W4 (Or.inr (slot_ne (Or.inl (hw _ (List.mem_of_getElem? (i := 110) rfl))) (Or.inl (hw _ (List.mem_of_getElem? (i := 170) rfl))) (by decide) (t := .int) (t' := (.array .int)) (by decide) (by decide)))
  have F_present_a := F_present_a.other W4 (Or.inr (slot_ne (Or.inl (hw _ (List.mem_of_getElem? (i := 94) rfl))) (Or.inl (hw _ (List.mem_of_getElem? (i := 170) rfl))) (by decide) (t := .int) (t' := (.array .int)) (by decide) (by decide)))
  have F_hash_a := F_hash_a.other W4 (Or.inr (slot_ne (Or.inl (hw _ (List.mem_of_getElem? (i := 96) rfl))) (Or.inl (hw _ (List.mem_of_getElem? (i := 170) rfl))) (by decide) (t := .int) (t' := (.array .int)) (by decide) (by decide)))
  have F_table_a := F_table_a.other W4 (Or.inr (slot_ne (Or.inl (hw _ (List.mem_of_getElem? (i := 103) rfl))) (Or.inl (hw _ (List.mem_of_getElem? (i := 170) rfl))) (by decide) (t := (.object "com/example/obedient_dog/obedientdog/topologydiscovery/AgeTable")) (t' := (.array .int)) (by decide) (by decide)))
  have F_later_a := F_later_a.other W4 (Or.inr (slot_ne (Or.inl (hw _ (List.mem_of_getElem? (i := 172) rfl))) (Or.inl (hw _ (List.mem_of_getElem? (i := 170) rfl))) (by decide) (t := (.array .int)) (t' := (.array .int)) (by decide) (by decide)))
  have V_ra := V_ra.other W4 (Ne.symm ne_a_ra)
  have V_b3 := V_b3.other W4 (Ne.symm ne_a_b3)
  have E_b3 := E_b3.wr W4
  have F_earlier_a := F_earlier_a.same W4
  have N4 := Fr.snoc X4 N0 g_a
  refine own_go (U' := T4.setTop (mkF m 18 #[.val (.ref a), .val (.int (Int32.ofNat i)), .val (.int (Int32.ofNat ki))] [])) st4 ?_
  refine own_go (U' := T4.setTop (mkF m 19 #[.val (.ref a), .val (.int (Int32.ofNat i)), .val (.int (Int32.ofNat ki))] [(.ref a)])) (fun t k => XS.aloadN X4.here hx rfl (hb hby dc0_18) rfl rfl k) ?_
  refine own_go (U' := T4.setTop (mkF m 20 #[.val (.ref a), .val (.int (Int32.ofNat i)), .val (.int (Int32.ofNat ki))] [(.ref a), (.ref a)])) (fun t k => XS.aloadN X4.here hx rfl (hb hby dc0_19) rfl rfl k) ?_
  obtain ⟨T5, X5, e5, st5⟩ := getF X4 hx hZ hown (host := "") (Or.inl (hw _ (List.mem_of_getElem? (i := 65) rfl))) Via.refl e4 F_raised_a (g := (mkF m 20 #[.val (.ref a), .val (.int (Int32.ofNat i)), .val (.int (Int32.ofNat ki))] [(.ref a), (.ref a)])) rfl rfl (hb hby dc0_20)
  refine own_go (U' := T5.setTop (mkF m 23 #[.val (.ref a), .val (.int (Int32.ofNat i)), .val (.int (Int32.ofNat ki))] [(.ref ra), (.ref a)])) st5 ?_
  refine own_go (U' := T5.setTop (mkF m 24 #[.val (.ref a), .val (.int (Int32.ofNat i)), .val (.int (Int32.ofNat ki))] [(.int (8 : Int32)), (.ref a)])) (own_arrlen X5 hx hZ e5 V_ra (n := (8 : Int32)) (by rw [h_ra]; rfl) (g := (mkF m 23 #[.val (.ref a), .val (.int (Int32.ofNat i)), .val (.int (Int32.ofNat ki))] [(.ref ra), (.ref a)])) rfl rfl (hb hby dc0_23)) ?_
  obtain ⟨T6, h6, k6, X6, e6, E6, A6, Y6, st6⟩ := own_newarr X5 hx hZ (hw _ (List.mem_of_getElem? (i := 56) rfl)) e5 (g := (mkF m 24 #[.val (.ref a), .val (.int (Int32.ofNat i)), .val (.int (Int32.ofNat ki))] [(.int (8 : Int32)), (.ref a)])) rfl (hb hby dc0_24) rfl (by decide) (cap := 8) (by decide) (by decide) (by decide) (by decide) (ad := "[I") (by decide) rfl (vs := (own_is (List.replicate 8 0))) rfl
  obtain ⟨b6, g6⟩ : ∃ z, z = h4.size := ⟨_, rfl⟩
  rw [← g6] at A6 Y6 st6
  have ne_a_b6 : a ≠ b6 := Nat.ne_of_lt (Nat.lt_of_lt_of_eq E_a.lt g6.symm)
  have ne_ra_b6 : ra ≠ b6 := Nat.ne_of_lt (Nat.lt_of_lt_of_eq V_ra.lt g6.symm)
  have ne_b3_b6 : b3 ≠ b6 := Nat.ne_of_lt (Nat.lt_of_lt_of_eq V_b3.lt g6.symm)
  have g_b6 : n0 ≤ b6 := Nat.le_trans (Nat.le_trans (Nat.le_of_eq O.1.symm) O.2.1) (Nat.le_of_eq g6.symm)
  have sz_b6 : h0.size ≤ b6 := Nat.le_trans K.1 (Nat.le_of_eq g6.symm)
  have K := K.ext E6
  have O := O.ext E6
  have E_a := E_a.ext E6
  have F_latest_a := F_latest_a.ext E6
  have F_raised_a := F_raised_a.ext E6
  have F_ages_a := F_ages_a.ext E6
  have F_numbers_a := F_numbers_a.ext E6
  have F_entries_a := F_entries_a.ext E6
  have F_size_a := F_size_a.ext E6
  have F_sealed_a := F_sealed_a.ext E6
  have F_present_a := F_present_a.ext E6
  have F_hash_a := F_hash_a.ext E6
  have F_table_a := F_table_a.ext E6
  have F_earlier_a := F_earlier_a.ext E6
  have F_later_a := F_later_a.ext E6
  have V_ra := V_ra.ext E6
  have V_b3 := V_b3.ext E6
  have E_b3 := E_b3.ext E6
  have V_b6 : own_Ar Z h6 b6 k6 .int (own_is (List.replicate 8 0)) := A6
  have E_b6 := Y6
  refine own_go (U' := T6.setTop (mkF m 26 #[.val (.ref a), .val (.int (Int32.ofNat i)), .val (.int (Int32.ofNat ki))] [(.ref b6), (.ref a)])) st6 ?_
  obtain ⟨T7, h7, X7, e7, W7, st7⟩ := putF X6 hx hZ hown (host := "") (Or.inl (hw _ (List.mem_of_getElem? (i := 171) rfl))) Via.refl e6 F_later_a E_a (Or.inl (hw _ (List.mem_of_getElem? (i := 172) rfl))) (hw _ (List.mem_of_getElem? (i := 1) rfl)) (ty := (.array .int)) (by decide) rfl rfl (g := (mkF m 26 #[.val (.ref a), .val (.int (Int32.ofNat i)), .val (.int (Int32.ofNat ki))] [(.ref b6), (.ref a)])) rfl rfl (hb hby dc0_26)
  have K := K.wr W7 (Or.inl (List.mem_of_getElem? (i := 0) rfl))
  have O := O.wr W7 g_a
  have E_a := E_a.wr W7
  have F_latest_a := F_latest_a.other W7 (Or.inr (slot_ne (Or.inl (hw _ (List.mem_of_getElem? (i := 64) rfl))) (Or.inl (hw _ (List.mem_of_getElem? (i := 172) rfl))) (by decide) (t := (.array .int)) (t' := (.array .int)) (by decide) (by decide)))
  have F_raised_a := F_raised_a.other W7 (Or.inr (slot_ne (Or.inl (hw _ (List.mem_of_getElem? (i := 66) rfl))) (Or.inl (hw _ (List.mem_of_getElem? (i := 172) rfl))) (by decide) (t := (.array .int)) (t' := (.array .int)) (by decide) (by decide)))
  have F_ages_a := F_ages_a.other W7 (Or.inr (slot_ne (Or.inl (hw _ (List.mem_of_getElem? (i := 68) rfl))) (Or.inl (hw _ (List.mem_of_getElem? (i := 172) rfl))) (by decide) (t := (.array .int)) (t' := (.array .int)) (by decide) (by decide)))
  have F_numbers_a := F_numbers_a.other W7 (Or.inr (slot_ne (Or.inr (hw _ (List.mem_of_getElem? (i := 70) rfl))) (Or.inl (hw _ (List.mem_of_getElem? (i := 172) rfl))) (by decide) (t := (.object "com/example/obedient_dog/obedientdog/topologydiscovery/LinkNumbers")) (t' := (.array .int)) (by decide) (by decide)))
  have F_entries_a := F_entries_a.other W7 (Or.inr (slot_ne (Or.inl (hw _ (List.mem_of_getElem? (i := 86) rfl))) (Or.inl (hw _ (List.mem_of_getElem? (i := 172) rfl))) (by decide) (t := .int) (t' := (.array .int)) (by decide) (by decide)))
  have F_size_a := F_size_a.other W7 (Or.inr (slot_ne (Or.inl (hw _ (List.mem_of_getElem? (i := 88) rfl))) (Or.inl (hw _ (List.mem_of_getElem? (i := 172) rfl))) (by decide) (t := .int) (t' := (.array .int)) (by decide) (by decide)))
  have F_sealed_a := F_sealed_a.other W7 (Or.inr (slot_ne (Or.inl (hw _ (List.mem_of_getElem? (i := 110) rfl))) (Or.inl (hw _ (List.mem_of_getElem? (i := 172) rfl))) (by decide) (t := .int) (t' := (.array .int)) (by decide) (by decide)))
  have F_present_a := F_present_a.other W7 (Or.inr (slot_ne (Or.inl (hw _ (List.mem_of_getElem? (i := 94) rfl))) (Or.inl (hw _ (List.mem_of_getElem? (i := 172) rfl))) (by decide) (t := .int) (t' := (.array .int)) (by decide) (by decide)))
  have F_hash_a := F_hash_a.other W7 (Or.inr (slot_ne (Or.inl (hw _ (List.mem_of_getElem? (i := 96) rfl))) (Or.inl (hw _ (List.mem_of_getElem? (i := 172) rfl))) (by decide) (t := .int) (t' := (.array .int)) (by decide) (by decide)))
  have F_table_a := F_table_a.other W7 (Or.inr (slot_ne (Or.inl (hw _ (List.mem_of_getElem? (i := 103) rfl))) (Or.inl (hw _ (List.mem_of_getElem? (i := 172) rfl))) (by decide) (t := (.object "com/example/obedient_dog/obedientdog/topologydiscovery/AgeTable")) (t' := (.array .int)) (by decide) (by decide)))
  have F_earlier_a := F_earlier_a.other W7 (Or.inr (slot_ne (Or.inl (hw _ (List.mem_of_getElem? (i := 170) rfl))) (Or.inl (hw _ (List.mem_of_getElem? (i := 172) rfl))) (by decide) (t := (.array .int)) (t' := (.array .int)) (by decide) (by decide)))
  have V_ra := V_ra.other W7 (Ne.symm ne_a_ra)
  have V_b3 := V_b3.other W7 (Ne.symm ne_a_b3)
  have E_b3 := E_b3.wr W7
  have V_b6 := V_b6.other W7 (Ne.symm ne_a_b6)
  have E_b6 := E_b6.wr W7
  have F_later_a := F_later_a.same W7
  have N7 := Fr.snoc X7 N4 g_a
  refine own_go (U' := T7.setTop (mkF m 29 #[.val (.ref a), .val (.int (Int32.ofNat i)), .val (.int (Int32.ofNat ki))] [])) st7 ?_
  refine own_go (U' := T7.setTop (mkF m 30 #[.val (.ref a), .val (.int (Int32.ofNat i)), .val (.int (Int32.ofNat ki))] [(.ref a)])) (fun t k => XS.aloadN X7.here hx rfl (hb hby dc0_29) rfl rfl k) ?_
  obtain ⟨T8, X8, e8, st8⟩ := getF X7 hx hZ hown (host := "") (Or.inl (hw _ (List.mem_of_getElem? (i := 169) rfl))) Via.refl e7 F_earlier_a (g := (mkF m 30 #[.val (.ref a), .val (.int (Int32.ofNat i)), .val (.int (Int32.ofNat ki))] [(.ref a)])) rfl rfl (hb hby dc0_30)
  refine own_go (U' := T8.setTop (mkF m 33 #[.val (.ref a), .val (.int (Int32.ofNat i)), .val (.int (Int32.ofNat ki))] [(.ref b3)])) st8 ?_
  refine own_go (U' := T8.setTop (mkF m 34 #[.val (.ref a), .val (.int (Int32.ofNat i)), .val (.int (Int32.ofNat ki))] [(.int (Int32.ofNat ki)), (.ref b3)])) (fun t k => XS.iloadN X8.here hx rfl (hb hby dc0_33) rfl k) ?_
  refine own_go (U' := T8.setTop (mkF m 35 #[.val (.ref a), .val (.int (Int32.ofNat i)), .val (.int (Int32.ofNat ki))] [(.int (Int32.ofNat i)), (.int (Int32.ofNat ki)), (.ref b3)])) (fun t k => XS.iloadN X8.here hx rfl (hb hby dc0_34) rfl k) ?_
  refine own_go (U' := T8.setTop (mkF m 36 #[.val (.ref a), .val (.int (Int32.ofNat i)), .val (.int (Int32.ofNat ki))] [(.int (1 : Int32)), (.int (Int32.ofNat i)), (.int (Int32.ofNat ki)), (.ref b3)])) (fun t k => XS.iconst X8.here hx rfl (hb hby dc0_35) k) ?_
  refine own_go (U' := T8.setTop (mkF m 37 #[.val (.ref a), .val (.int (Int32.ofNat i)), .val (.int (Int32.ofNat ki))] [(.int ((Int32.ofNat i) + (1 : Int32))), (.int (Int32.ofNat ki)), (.ref b3)])) (fun t k => XS.iadd X8.here hx rfl (hb hby dc0_36) rfl k) ?_
  rw [← own_succ]
  obtain ⟨T9, h9, X9, e9, W9, A9, st9⟩ := own_iastore X8 hx hZ e8 V_b3 (j := (Int32.ofNat ki)) ok.1 (i := ki) ok.2.1 (by simpa [own_is] using hk) (g := (mkF m 37 #[.val (.ref a), .val (.int (Int32.ofNat i)), .val (.int (Int32.ofNat ki))] [(.int (Int32.ofNat (i + 1))), (.int (Int32.ofNat ki)), (.ref b3)])) rfl rfl (hb hby dc0_37)
  have K := K.wr W9 (Or.inr sz_b3)
  have O := O.wr W9 g_b3
  have E_a := E_a.wr W9
  have F_latest_a := F_latest_a.other W9 (Or.inl ne_a_b3)
  have F_raised_a := F_raised_a.other W9 (Or.inl ne_a_b3)
  have F_ages_a := F_ages_a.other W9 (Or.inl ne_a_b3)
  have F_numbers_a := F_numbers_a.other W9 (Or.inl ne_a_b3)
  have F_entries_a := F_entries_a.other W9 (Or.inl ne_a_b3)
  have F_size_a := F_size_a.other W9 (Or.inl ne_a_b3)
  have F_sealed_a := F_sealed_a.other W9 (Or.inl ne_a_b3)
  have F_present_a := F_present_a.other W9 (Or.inl ne_a_b3)
  have F_hash_a := F_hash_a.other W9 (Or.inl ne_a_b3)
  have F_table_a := F_table_a.other W9 (Or.inl ne_a_b3)
  have F_earlier_a := F_earlier_a.other W9 (Or.inl ne_a_b3)
  have F_later_a := F_later_a.other W9 (Or.inl ne_a_b3)
  have V_ra := V_ra.other W9 ne_ra_b3
  have E_b3 := E_b3.wr W9
  have V_b6 := V_b6.other W9 (Ne.symm ne_b3_b6)
  have E_b6 := E_b6.wr W9
  have V_b3 : own_Ar Z h9 b3 k3 .int (own_is ((List.replicate 8 0).set ki (i + 1))) := ((own_is_set _ _ _) : ((own_is (List.replicate 8 0))).set (ki) (.int (Int32.ofNat (i + 1))) = (own_is ((List.replicate 8 0).set ki (i + 1)))) ▸ A9
  have N9 := Fr.snoc X9 N7 g_b3
  refine own_go (U' := T9.setTop (mkF m 38 #[.val (.ref a), .val (.int (Int32.ofNat i)), .val (.int (Int32.ofNat ki))] [])) st9 ?_
  refine own_go (U' := T9.setTop (mkF m 39 #[.val (.ref a), .val (.int (Int32.ofNat i)), .val (.int (Int32.ofNat ki))] [(.ref a)])) (fun t k => XS.aloadN X9.here hx rfl (hb hby dc0_38) rfl rfl k) ?_
  obtain ⟨T10, X10, e10, st10⟩ := getF X9 hx hZ hown (host := "") (Or.inl (hw _ (List.mem_of_getElem? (i := 171) rfl))) Via.refl e9 F_later_a (g := (mkF m 39 #[.val (.ref a), .val (.int (Int32.ofNat i)), .val (.int (Int32.ofNat ki))] [(.ref a)])) rfl rfl (hb hby dc0_39)
  refine own_go (U' := T10.setTop (mkF m 42 #[.val (.ref a), .val (.int (Int32.ofNat i)), .val (.int (Int32.ofNat ki))] [(.ref b6)])) st10 ?_
  refine own_go (U' := T10.setTop (mkF m 43 #[.val (.ref a), .val (.int (Int32.ofNat i)), .val (.int (Int32.ofNat ki))] [(.int (Int32.ofNat i)), (.ref b6)])) (fun t k => XS.iloadN X10.here hx rfl (hb hby dc0_42) rfl k) ?_
  refine own_go (U' := T10.setTop (mkF m 44 #[.val (.ref a), .val (.int (Int32.ofNat i)), .val (.int (Int32.ofNat ki))] [(.int (Int32.ofNat ki)), (.int (Int32.ofNat i)), (.ref b6)])) (fun t k => XS.iloadN X10.here hx rfl (hb hby dc0_43) rfl k) ?_
  obtain ⟨T11, h11, X11, e11, W11, A11, st11⟩ := own_iastore X10 hx hZ e10 V_b6 (j := (Int32.ofNat i)) oi.1 (i := i) oi.2.1 (by simpa [own_is] using hi) (g := (mkF m 44 #[.val (.ref a), .val (.int (Int32.ofNat i)), .val (.int (Int32.ofNat ki))] [(.int (Int32.ofNat ki)), (.int (Int32.ofNat i)), (.ref b6)])) rfl rfl (hb hby dc0_44)
  have K := K.wr W11 (Or.inr sz_b6)
  have O := O.wr W11 g_b6
  have E_a := E_a.wr W11
  have F_latest_a := F_latest_a.other W11 (Or.inl ne_a_b6)
  have F_raised_a := F_raised_a.other W11 (Or.inl ne_a_b6)
  have F_ages_a := F_ages_a.other W11 (Or.inl ne_a_b6)
  have F_numbers_a := F_numbers_a.other W11 (Or.inl ne_a_b6)
  have F_entries_a := F_entries_a.other W11 (Or.inl ne_a_b6)
  have F_size_a := F_size_a.other W11 (Or.inl ne_a_b6)
  have F_sealed_a := F_sealed_a.other W11 (Or.inl ne_a_b6)
  have F_present_a := F_present_a.other W11 (Or.inl ne_a_b6)
  have F_hash_a := F_hash_a.other W11 (Or.inl ne_a_b6)
  have F_table_a := F_table_a.other W11 (Or.inl ne_a_b6)
  have F_earlier_a := F_earlier_a.other W11 (Or.inl ne_a_b6)
  have F_later_a := F_later_a.other W11 (Or.inl ne_a_b6)
  have V_ra := V_ra.other W11 ne_ra_b6
  have V_b3 := V_b3.other W11 ne_b3_b6
  have E_b3 := E_b3.wr W11
  have E_b6 := E_b6.wr W11
  have V_b6 : own_Ar Z h11 b6 k6 .int (own_is ((List.replicate 8 0).set i ki)) := ((own_is_set _ _ _) : ((own_is (List.replicate 8 0))).set (i) (.int (Int32.ofNat ki)) = (own_is ((List.replicate 8 0).set i ki))) ▸ A11
  have N11 := Fr.snoc X11 N9 g_b6
  refine own_go (U' := T11.setTop (mkF m 45 #[.val (.ref a), .val (.int (Int32.ofNat i)), .val (.int (Int32.ofNat ki))] [])) st11 ?_
  refine own_retV X11 hx hret hlk (hb hby dc0_45) ?_ (by decide) (by decide)
  rw [e11]
  exact ⟨rfl, N11, K, b3, b6, _, _, ⟨E_a, F_latest_a, F_raised_a, F_ages_a, F_numbers_a, F_entries_a, F_size_a, F_sealed_a, F_present_a, F_hash_a, F_table_a, F_earlier_a, F_later_a⟩, V_b3, V_b6, sz_b3, sz_b6, g_b3, g_b6, ne_b3_b6⟩
theorem own_efc1 (m : MethodId) (a : Addr) (p1 p2 : Int32) : entryFrame m #[(.ref a), (.int p1), (.int p2)] 3 = mkF m 0 #[.val (.ref a), .val (.int p1), .val (.int p2)] [] := by first | (simp [entryFrame, mkF, argsToLocals, Value.category]; done) | rfl
set_option maxRecDepth 65536 in
set_option maxHeartbeats 40000000 in
theorem own_rmc1 (l : Launch) (Z : State) (a0 : Array Value) (hw : ∀ d ∈ tables_1, d.before a0 Z = true) (a : Addr) (p1 p2 : Int32) (h0 : Heap) (n0 : Nat) (g_a : n0 ≤ a) (la ra ga nu ha : Addr) (kh : ClassId) (en sz se pr hs : Int32) (tb : Value) (xe xl : Addr) (htb : tb.isRef = true) (i ki : Nat) (hi : i < 8) (hk : ki < 8) (hp : p1 = Int32.ofNat i) (hq : p2 = Int32.ofNat ki) (es ls : List Nat) (ke kl2 : ClassId) (hes : es.length = 8) (hls : ls.length = 8) (g_xe : n0 ≤ xe) (g_xl : n0 ≤ xl) (ne_xe_xl : xe ≠ xl) (F_a : own_F Z h0 a la ra ga nu en sz se pr hs tb (.ref xe) (.ref xl)) (V_xe : own_Ar Z h0 xe ke .int (own_is es)) (V_xl : own_Ar Z h0 xl kl2 .int (own_is ls)) :
    own_C l Z (⟨"com/example/obedient_dog/obedientdog/topologydiscovery/AgeLog", "chain", "(II)V"⟩ : MethodName) prog_39_method_14_code 3 none [] ({ frames := 0, cells := 0, slots := 0, locals := 0 } : Room) #[(.ref a), (.int p1), (.int p2)] h0 (fun v h L => v = none ∧ Fr n0 L ∧ Keep h0 h [a, xe, xl] ∧ (own_F Z h a la ra ga nu en sz se pr hs tb (.ref xe) (.ref xl)) ∧ own_Ar Z h xe ke .int (own_is (es.set ki (i + 1))) ∧ own_Ar Z h xl kl2 .int (own_is (ls.set i ki))) := by
  refine own_body (plainFor_of_name own_pn1) fun p e s m below meth c s₁ hx hby hml hret hlk hown hnm hZ X0 e0 => ?_
  rw [own_efc1 m a p1 p2]
  have N0 := Fr.nil n0
  have K := Keep.refl h0 [a, xe, xl]
  obtain ⟨E_a, F_latest_a, F_raised_a, F_ages_a, F_numbers_a, F_entries_a, F_size_a, F_sealed_a, F_present_a, F_hash_a, F_table_a, F_earlier_a, F_later_a⟩ := F_a
  have ne_a_xe : a ≠ xe := by
    obtain ⟨cb, Ab, -⟩ := V_xe
    exact ne_arr E_a (hw _ (List.mem_of_getElem? (i := 1) rfl)) Ab
  have ne_a_xl : a ≠ xl := by
    obtain ⟨cb, Ab, -⟩ := V_xl
    exact ne_arr E_a (hw _ (List.mem_of_getElem? (i := 1) rfl)) Ab
  subst hp hq
  have oi := own_ofn (i := i) (by omega)
  have ok := own_ofn (i := ki) (by omega)
  refine own_go (U' := s₁.setTop (mkF m 1 #[.val (.ref a), .val (.int (Int32.ofNat i)), .val (.int (Int32.ofNat ki))] [(.ref a)])) (fun t k => XS.aloadN X0.here hx rfl (hb hby dc0_0) rfl rfl k) ?_
  obtain ⟨T1, X1, e1, st1⟩ := getF X0 hx hZ hown (host := "") (Or.inl (hw _ (List.mem_of_getElem? (i := 169) rfl))) Via.refl e0 F_earlier_a (g := (mkF m 1 #[.val (.ref a), .val (.int (Int32.ofNat i)), .val (.int (Int32.ofNat ki))] [(.ref a)])) rfl rfl (hb hby dc0_1)
  refine own_go (U' := T1.setTop (mkF m 4 #[.val (.ref a), .val (.int (Int32.ofNat i)), .val (.int (Int32.ofNat ki))] [(.ref xe)])) st1 ?_
  refine own_go (U' := T1.setTop (mkF m 29 #[.val (.ref a), .val (.int (Int32.ofNat i)), .val (.int (Int32.ofNat ki))] [])) (fun t k => XS.ifnonnullYes X1.here hx rfl (pc0 := 4) (pc' := 29) rfl (hb hby dc0_4) rfl (by decide) (by decide) k) ?_
  refine own_go (U' := T1.setTop (mkF m 30 #[.val (.ref a), .val (.int (Int32.ofNat i)), .val (.int (Int32.ofNat ki))] [(.ref a)])) (fun t k => XS.aloadN X1.here hx rfl (hb hby dc0_29) rfl rfl k) ?_
  obtain ⟨T2, X2, e2, st2⟩ := getF X1 hx hZ hown (host := "") (Or.inl (hw _ (List.mem_of_getElem? (i := 169) rfl))) Via.refl e1 F_earlier_a (g := (mkF m 30 #[.val (.ref a), .val (.int (Int32.ofNat i)), .val (.int (Int32.ofNat ki))] [(.ref a)])) rfl rfl (hb hby dc0_30)
  refine own_go (U' := T2.setTop (mkF m 33 #[.val (.ref a), .val (.int (Int32.ofNat i)), .val (.int (Int32.ofNat ki))] [(.ref xe)])) st2 ?_
  refine own_go (U' := T2.setTop (mkF m 34 #[.val (.ref a), .val (.int (Int32.ofNat i)), .val (.int (Int32.ofNat ki))] [(.int (Int32.ofNat ki)), (.ref xe)])) (fun t k => XS.iloadN X2.here hx rfl (hb hby dc0_33) rfl k) ?_
  refine own_go (U' := T2.setTop (mkF m 35 #[.val (.ref a), .val (.int (Int32.ofNat i)), .val (.int (Int32.ofNat ki))] [(.int (Int32.ofNat i)), (.int (Int32.ofNat ki)), (.ref xe)])) (fun t k => XS.iloadN X2.here hx rfl (hb hby dc0_34) rfl k) ?_
  refine own_go (U' := T2.setTop (mkF m 36 #[.val (.ref a), .val (.int (Int32.ofNat i)), .val (.int (Int32.ofNat ki))] [(.int (1 : Int32)), (.int (Int32.ofNat i)), (.int (Int32.ofNat ki)), (.ref xe)])) (fun t k => XS.iconst X2.here hx rfl (hb hby dc0_35) k) ?_
  refine own_go (U' := T2.setTop (mkF m 37 #[.val (.ref a), .val (.int (Int32.ofNat i)), .val (.int (Int32.ofNat ki))] [(.int ((Int32.ofNat i) + (1 : Int32))), (.int (Int32.ofNat ki)), (.ref xe)])) (fun t k => XS.iadd X2.here hx rfl (hb hby dc0_36) rfl k) ?_
  rw [← own_succ]
  obtain ⟨T3, h3, X3, e3, W3, A3, st3⟩ := own_iastore X2 hx hZ e2 V_xe (j := (Int32.ofNat ki)) ok.1 (i := ki) ok.2.1 (by simpa [own_is, hes] using hk) (g := (mkF m 37 #[.val (.ref a), .val (.int (Int32.ofNat i)), .val (.int (Int32.ofNat ki))] [(.int (Int32.ofNat (i + 1))), (.int (Int32.ofNat ki)), (.ref xe)])) rfl rfl (hb hby dc0_37)
  have K := K.wr W3 (Or.inl (List.mem_of_getElem? (i := 1) rfl))
  have E_a := E_a.wr W3
  have F_latest_a := F_latest_a.other W3 (Or.inl ne_a_xe)
  have F_raised_a := F_raised_a.other W3 (Or.inl ne_a_xe)
  have F_ages_a := F_ages_a.other W3 (Or.inl ne_a_xe)
  have F_numbers_a := F_numbers_a.other W3 (Or.inl ne_a_xe)
  have F_entries_a := F_entries_a.other W3 (Or.inl ne_a_xe)
  have F_size_a := F_size_a.other W3 (Or.inl ne_a_xe)
  have F_sealed_a := F_sealed_a.other W3 (Or.inl ne_a_xe)
  have F_present_a := F_present_a.other W3 (Or.inl ne_a_xe)
  have F_hash_a := F_hash_a.other W3 (Or.inl ne_a_xe)
  have F_table_a := F_table_a.other W3 (Or.inl ne_a_xe)
  have F_earlier_a := F_earlier_a.other W3 (Or.inl ne_a_xe)
  have F_later_a := F_later_a.other W3 (Or.inl ne_a_xe)
  have V_xl := V_xl.other W3 (Ne.symm ne_xe_xl)
  have V_xe : own_Ar Z h3 xe ke .int (own_is (es.set ki (i + 1))) := ((own_is_set _ _ _) : ((own_is es)).set (ki) (.int (Int32.ofNat (i + 1))) = (own_is (es.set ki (i + 1)))) ▸ A3
  have N3 := Fr.snoc X3 N0 g_xe
  refine own_go (U' := T3.setTop (mkF m 38 #[.val (.ref a), .val (.int (Int32.ofNat i)), .val (.int (Int32.ofNat ki))] [])) st3 ?_
  refine own_go (U' := T3.setTop (mkF m 39 #[.val (.ref a), .val (.int (Int32.ofNat i)), .val (.int (Int32.ofNat ki))] [(.ref a)])) (fun t k => XS.aloadN X3.here hx rfl (hb hby dc0_38) rfl rfl k) ?_
  obtain ⟨T4, X4, e4, st4⟩ := getF X3 hx hZ hown (host := "") (Or.inl (hw _ (List.mem_of_getElem? (i := 171) rfl))) Via.refl e3 F_later_a (g := (mkF m 39 #[.val (.ref a), .val (.int (Int32.ofNat i)), .val (.int (Int32.ofNat ki))] [(.ref a)])) rfl rfl (hb hby dc0_39)
  refine own_go (U' := T4.setTop (mkF m 42 #[.val (.ref a), .val (.int (Int32.ofNat i)), .val (.int (Int32.ofNat ki))] [(.ref xl)])) st4 ?_
  refine own_go (U' := T4.setTop (mkF m 43 #[.val (.ref a), .val (.int (Int32.ofNat i)), .val (.int (Int32.ofNat ki))] [(.int (Int32.ofNat i)), (.ref xl)])) (fun t k => XS.iloadN X4.here hx rfl (hb hby dc0_42) rfl k) ?_
  refine own_go (U' := T4.setTop (mkF m 44 #[.val (.ref a), .val (.int (Int32.ofNat i)), .val (.int (Int32.ofNat ki))] [(.int (Int32.ofNat ki)), (.int (Int32.ofNat i)), (.ref xl)])) (fun t k => XS.iloadN X4.here hx rfl (hb hby dc0_43) rfl k) ?_
  obtain ⟨T5, h5, X5, e5, W5, A5, st5⟩ := own_iastore X4 hx hZ e4 V_xl (j := (Int32.ofNat i)) oi.1 (i := i) oi.2.1 (by simpa [own_is, hls] using hi) (g := (mkF m 44 #[.val (.ref a), .val (.int (Int32.ofNat i)), .val (.int (Int32.ofNat ki))] [(.int (Int32.ofNat ki)), (.int (Int32.ofNat i)), (.ref xl)])) rfl rfl (hb hby dc0_44)
  have K := K.wr W5 (Or.inl (List.mem_of_getElem? (i := 2) rfl))
  have E_a := E_a.wr W5
  have F_latest_a := F_latest_a.other W5 (Or.inl ne_a_xl)
  have F_raised_a := F_raised_a.other W5 (Or.inl ne_a_xl)
  have F_ages_a := F_ages_a.other W5 (Or.inl ne_a_xl)
  have F_numbers_a := F_numbers_a.other W5 (Or.inl ne_a_xl)
  have F_entries_a := F_entries_a.other W5 (Or.inl ne_a_xl)
  have F_size_a := F_size_a.other W5 (Or.inl ne_a_xl)
  have F_sealed_a := F_sealed_a.other W5 (Or.inl ne_a_xl)
  have F_present_a := F_present_a.other W5 (Or.inl ne_a_xl)
  have F_hash_a := F_hash_a.other W5 (Or.inl ne_a_xl)
  have F_table_a := F_table_a.other W5 (Or.inl ne_a_xl)
  have F_earlier_a := F_earlier_a.other W5 (Or.inl ne_a_xl)
  have F_later_a := F_later_a.other W5 (Or.inl ne_a_xl)
  have V_xe := V_xe.other W5 ne_xe_xl
  have V_xl : own_Ar Z h5 xl kl2 .int (own_is (ls.set i ki)) := ((own_is_set _ _ _) : ((own_is ls)).set (i) (.int (Int32.ofNat ki)) = (own_is (ls.set i ki))) ▸ A5
  have N5 := Fr.snoc X5 N3 g_xl
  refine own_go (U' := T5.setTop (mkF m 45 #[.val (.ref a), .val (.int (Int32.ofNat i)), .val (.int (Int32.ofNat ki))] [])) st5 ?_
  refine own_retV X5 hx hret hlk (hb hby dc0_45) ?_ (by decide) (by decide)
  rw [e5]
  exact ⟨rfl, N5, K, ⟨E_a, F_latest_a, F_raised_a, F_ages_a, F_numbers_a, F_entries_a, F_size_a, F_sealed_a, F_present_a, F_hash_a, F_table_a, F_earlier_a, F_later_a⟩, V_xe, V_xl⟩
theorem own_gd {l : List Nat} {i b : Nat} (h : ∀ x ∈ l, x ≤ b) : l.getD i 0 ≤ b := by
  by_cases hi : i < l.length
  · have : l.getD i 0 ∈ l := by rw [List.getD, List.getElem?_eq_getElem hi, Option.getD_some]; exact List.getElem_mem _
    exact h _ this
  · rw [List.getD, List.getElem?_eq_none (by omega)]; exact Nat.zero_le _
theorem own_agat {ag : List Int32} {j : Nat} (h : j < ag.length) : (ag.map Value.int)[j]? = some (.int (ag.getD j 0)) := by simp [List.getD, List.getElem?_eq_getElem h]
def own_grow (l : List Nat) (i : Nat) : List Nat := if i < l.length then l else l ++ List.replicate 8 0
def own_age (lt : List Nat) (ag : List Int32) : Nat → Int32 := fun i => if lt.getD i 0 = 0 then -1 else ag.getD (lt.getD i 0 - 1) 0
def own_put (f : Nat → Int32) (i : Nat) (p : Int32) : Nat → Int32 := fun k => if k = i then p else f k
def own_up (f : Nat → Int32) (i : Nat) (p : Int32) : Nat → Int32 := if f i < p then own_put f i p else f
def own_J (lt : List Nat) (ag : List Int32) (en se : Nat) : Prop := (lt.length = 8 ∨ lt.length = 16) ∧ ag.length = 8 ∧ (∀ i, lt.getD i 0 ≤ en) ∧ se ≤ en ∧ (∀ i j, lt.getD i 0 = lt.getD j 0 → lt.getD i 0 ≠ 0 → i = j)
theorem own_sgd {α : Type} (l : List α) {i : Nat} (k : Nat) (v d : α) (hi : i < l.length) : (l.set i v).getD k d = if k = i then v else l.getD k d := by
  rw [List.getD, List.getElem?_set, List.getD]
  by_cases h : i = k
  · subst h; rw [if_pos rfl, if_pos hi, if_pos rfl]; rfl
  · rw [if_neg h, if_neg (fun q => h q.symm)]
theorem own_ggd (l : List Nat) (i k : Nat) : (own_grow l i).getD k 0 = l.getD k 0 := by
  unfold own_grow
  split
  · rfl
  · rw [List.getD, List.getD, List.getElem?_append]
    split
    · rfl
    · rename_i h
      rw [List.getElem?_eq_none (by omega : l.length ≤ k), List.getElem?_replicate]
      split <;> rfl
theorem own_glen {l : List Nat} {i : Nat} (h8 : l.length = 8 ∨ l.length = 16) (hi : i < 16) : i < (own_grow l i).length ∧ ((own_grow l i).length = 8 ∨ (own_grow l i).length = 16) := by
  unfold own_grow
  split
  · exact ⟨by assumption, h8⟩
  · rw [List.length_append, List.length_replicate]; omega
theorem own_J_add {lt : List Nat} {ag : List Int32} {en se i : Nat} (p : Int32) (J : own_J lt ag en se) (hen : en < 8) (hi : i < 16) : own_J ((own_grow lt i).set i (en + 1)) (ag.set en p) (en + 1) se ∧ own_age ((own_grow lt i).set i (en + 1)) (ag.set en p) = own_put (own_age lt ag) i p := by
  obtain ⟨j1, j2, j3, j4, j5⟩ := J
  obtain ⟨gl, g8⟩ := own_glen j1 hi
  have hg : ∀ k, ((own_grow lt i).set i (en + 1)).getD k 0 = if k = i then en + 1 else lt.getD k 0 := fun k => by rw [own_sgd _ _ _ _ gl, own_ggd]
  refine ⟨⟨by rw [List.length_set]; exact g8, by rw [List.length_set]; exact j2, fun k => ?_, by omega, fun a b => ?_⟩, funext fun k => ?_⟩
  · rw [hg]
    have := j3 k
    split <;> omega
  · rw [hg, hg]
    have h1 := j3 a
    have h2 := j3 b
    intro q r
    by_cases ha : a = i
    · by_cases hb : b = i
      · omega
      · rw [if_pos ha, if_neg hb] at q; omega
    · by_cases hb : b = i
      · rw [if_neg ha, if_pos hb] at q; omega
      · rw [if_neg ha, if_neg hb] at q; rw [if_neg ha] at r; exact j5 a b q r
  · show (if ((own_grow lt i).set i (en + 1)).getD k 0 = 0 then (-1 : Int32) else (ag.set en p).getD (((own_grow lt i).set i (en + 1)).getD k 0 - 1) 0) = if k = i then p else own_age lt ag k
    rw [hg]
    by_cases hk : k = i
    · simp only [if_pos hk]
      rw [if_neg (by omega), own_sgd _ _ _ _ (by omega), if_pos (by omega)]
    · simp only [if_neg hk]
      show _ = if lt.getD k 0 = 0 then (-1 : Int32) else ag.getD (lt.getD k 0 - 1) 0
      by_cases hv : lt.getD k 0 = 0
      · rw [if_pos hv, if_pos hv]
      · have := j3 k
        rw [if_neg hv, if_neg hv, own_sgd _ _ _ _ (by omega), if_neg (by omega)]
theorem own_J_set {lt : List Nat} {ag : List Int32} {en se i j : Nat} (p : Int32) (J : own_J lt ag en se) (hen : en < 8) (hv : lt.getD i 0 = j + 1) : own_J lt (ag.set j p) en se ∧ own_age lt (ag.set j p) = own_put (own_age lt ag) i p := by
  obtain ⟨j1, j2, j3, j4, j5⟩ := J
  have h3 := j3 i
  refine ⟨⟨j1, by rw [List.length_set]; exact j2, j3, j4, j5⟩, funext fun k => ?_⟩
  show (if lt.getD k 0 = 0 then (-1 : Int32) else (ag.set j p).getD (lt.getD k 0 - 1) 0) = if k = i then p else own_age lt ag k
  by_cases hk : k = i
  · subst hk
    rw [if_pos rfl, hv, if_neg (by omega), Nat.add_sub_cancel, own_sgd _ _ _ _ (by omega), if_pos rfl]
  · rw [if_neg hk]
    show _ = if lt.getD k 0 = 0 then (-1 : Int32) else ag.getD (lt.getD k 0 - 1) 0
    by_cases h0 : lt.getD k 0 = 0
    · rw [if_pos h0, if_pos h0]
    · have hne : lt.getD k 0 - 1 ≠ j := fun q => hk (j5 k i (by omega) h0)
      rw [if_neg h0, if_neg h0, own_sgd _ _ _ _ (by omega), if_neg hne]
theorem own_b2 {f : Nat → Int32} {b c : Nat} {v r1 X : Int32} {P : Prop} [Decidable P] (hP : P ↔ c = b) (hr : (if f b < v then (1 : Int32) else 0) = r1) (hX : X = f c) : (if r1 = (0 : Int32) then X else (if P then v else X)) = own_up f b v c := by
  subst hX
  unfold own_up
  by_cases h : f b < v
  · rw [if_pos h] at hr ⊢
    subst hr
    rw [if_neg (by decide)]
    show _ = if c = b then v else f c
    by_cases hc : c = b
    · rw [if_pos (hP.mpr hc), if_pos hc]
    · rw [if_neg (fun q => hc (hP.mp q)), if_neg hc]
  · rw [if_neg h] at hr ⊢
    subst hr
    rw [if_pos rfl]
def own_f0 : Nat → Int32 := fun _ => -1
theorem own_b0 {c8 u : Int32} {a k : Nat} {P : Prop} [Decidable P] (h : ¬ c8 = 0) (hP : P ↔ k = a) : (if c8 = (0 : Int32) then (-1 : Int32) else (if P then u else (-1 : Int32))) = own_put own_f0 a u k := by
  rw [if_neg h]
  show _ = if k = a then u else (-1 : Int32)
  by_cases hc : k = a
  · rw [if_pos (hP.mpr hc), if_pos hc]
  · rw [if_neg (fun q => hc (hP.mp q)), if_neg hc]
theorem own_b0' {c8 u : Int32} {k : Nat} {P : Prop} [Decidable P] (h : c8 = 0) : (if c8 = (0 : Int32) then (-1 : Int32) else (if P then u else (-1 : Int32))) = own_f0 k := by
  rw [if_pos h]; rfl
theorem own_fift (x : Int32) : ∃ k : Nat, k < 16 ∧ x &&& (15 : Int32) = Int32.ofNat k := by
  have h := c_mask x 15 4 (by decide) (by decide)
  refine ⟨((x &&& (15 : Int32)).toInt).toNat, by omega, Int32.toInt_inj.mp ?_⟩
  rw [(own_ofn (i := ((x &&& (15 : Int32)).toInt).toNat) (by omega)).2.2]; omega
theorem own_nn (x : Int32) : ¬ ((x.toUInt32 >>> ((1 : Int32) &&& 31).toUInt32).toInt32) < 0 := by
  have h := c_iushr x 1 1 (by decide) (by decide)
  have e0 : (0 : Int32).toInt = 0 := rfl
  rw [Int32.lt_iff_toInt_lt, e0, h]; omega
theorem own_nnm (x : Int32) : ¬ (x &&& (15 : Int32)) < 0 := by
  have h := c_mask x 15 4 (by decide) (by decide)
  have e0 : (0 : Int32).toInt = 0 := rfl
  rw [Int32.lt_iff_toInt_lt, e0]; omega
theorem own_qn {q : Int32} {i : Nat} (hq : ¬ q < 0) (hi : i < 100) : q = Int32.ofNat i ↔ q.toNatClampNeg = i := by
  have e0 : (0 : Int32).toInt = 0 := rfl
  rw [Int32.lt_iff_toInt_lt, e0] at hq
  rw [← Int32.toInt_inj, (own_ofn hi).2.2]
  show _ ↔ q.toInt.toNat = i
  omega
theorem own_cpI {p : Program} {l : Launch} {e : Env} {R : Room} {s : State} {m : MethodId} {args : Array Value} {below : List Frame} {meth : Method} {c : Code} {T : State} {locs : List Loc} {cells slots : Nat} {Z : State} {a0 : Array Value} {h : Heap} {a b : Addr} {k k' : ClassId} {vs vd : List Value}
    (X : Stand p l e R s m args below meth c T locs cells slots) (hx : p.tables.exec = Jvm.exec) (hZ : Z.Warmed39 s.vm) {own : String} {index : Nat} (hown : s.vm.findClass own = some m.cls)
    (w1 : (Cond.methodLink own index Jvm.Stand.acN).before a0 Z = true) (w2 : (Cond.native Jvm.Stand.acN).before a0 Z = true) (w3 : (Cond.static Jvm.Stand.acN).before a0 Z = true) (w4 : (Cond.initialized "java/lang/System").before a0 Z = true) (eT : T.heap = h)
    (A : own_Ar Z h a k .int vs) (B : own_Ar Z h b k' .int vd) {n : Nat} (hn : n < 100) (h1 : vs.length = n) (h2 : n ≤ vd.length) (h3 : vd.length < 100) {n0 : Nat} (N : Fr n0 locs) (ge : n0 ≤ b)
    {g : JFrame} (hg : g.method = m) (hsize : g.locals.size = c.maxLocals) {rest : List Value} (hs : g.stack = .int (Int32.ofNat n) :: .int 0 :: .ref b :: .int 0 :: .ref a :: rest) (hd : decode c.code g.pc = .ok (.invokestatic index, 3))
    (hf : 1 ≤ R.frames) {W : Nat} (hW : 2 * g.monitorRoom + (rest.map fun v => v.category).sum ≤ W) (hlo : W + (nativeFrameWords "java/lang/System" "arraycopy" 5 + 11) ≤ R.locals) :
    ∃ T' h' L, Stand p l e R s m args below meth c T' L cells slots ∧ T'.heap = h' ∧ Fr n0 L ∧ Keep h h' [b] ∧ own_Ar Z h' b k' .int (vs ++ vd.drop n) ∧
      ∀ target, Steps p.tables e below (T'.setTop { g with pc := g.pc + 3, stack := rest }) target → Steps p.tables e below (T.setTop g) target := by
  have z0 : (0 : Int32).toNatClampNeg = 0 := rfl
  have on := own_ofn hn
  have ov := own_ofn (i := vs.length) (by omega)
  have od := own_ofn h3
  have eus : vs = (List.range n).map fun i => vs.getD (0 + i) (.int 0) := by
    apply List.ext_getElem
    · simp; omega
    · intro i hi1 hi2
      simp [List.getD, List.getElem?_eq_getElem hi1]
  obtain ⟨T', h', L, X', e', N', K', B', st⟩ := cpA X hx hZ hown w1 w2 w3 w4 eT (A.arv (.int 0)) (B.arv (.int 0)) (us := vs) (sp := 0) (dp := 0) (nn := Int32.ofNat n) (Or.inl ⟨rfl, rfl⟩) (by decide) (by decide) on.1 (by rw [z0, on.2.1, ov.2.1]; omega) (by rw [z0, on.2.1, od.2.1]; omega) (by rw [z0, on.2.1]; exact eus) (by rw [z0, on.2.1]; omega) N ge hg hsize hs hd hf hW hlo
  refine ⟨T', h', L, X', e', N', K', ?_, st⟩
  have B2 := own_Ar.of_arv B' (by rw [z0, on.2.1, od.2.1]; simp; omega)
  rw [z0, on.2.1] at B2
  simpa using B2
theorem own_pd6 : parseMethodDescriptor "()I" = some ⟨[], some .int⟩ := by decide +kernel
theorem own_pd7 : parseMethodDescriptor "([II)[I" = some ⟨[(.array .int), .int], some (.array .int)⟩ := by decide +kernel
def own_max (a b : Int32) : Int32 := if a < b then b else a
theorem dmx_0 : decode jdk_29_method_65_code 0 = .ok (.iload_n 0, 1) := by decide +kernel
theorem dmx_1 : decode jdk_29_method_65_code 1 = .ok (.iload_n 1, 1) := by decide +kernel
theorem dmx_2 : decode jdk_29_method_65_code 2 = .ok (.if_icmp .lt 7, 3) := by decide +kernel
theorem dmx_5 : decode jdk_29_method_65_code 5 = .ok (.iload_n 0, 1) := by decide +kernel
theorem dmx_6 : decode jdk_29_method_65_code 6 = .ok (.goto 4, 3) := by decide +kernel
theorem dmx_9 : decode jdk_29_method_65_code 9 = .ok (.iload_n 1, 1) := by decide +kernel
theorem dmx_10 : decode jdk_29_method_65_code 10 = .ok (.ireturn, 1) := by decide +kernel
theorem own_efmx (m : MethodId) (p1 p2 : Int32) : entryFrame m #[(.int p1), (.int p2)] 2 = mkF m 0 #[.val (.int p1), .val (.int p2)] [] := by first | (simp [entryFrame, mkF, argsToLocals, Value.category]; done) | rfl
set_option maxRecDepth 65536 in
set_option maxHeartbeats 40000000 in
theorem own_rmmx (l : Launch) (Z : State) (a0 : Array Value) (hw : ∀ d ∈ tables_1, d.before a0 Z = true) (p1 p2 : Int32) (h0 : Heap)  :
    own_C l Z (⟨"java/lang/Math", "max", "(II)I"⟩ : MethodName) jdk_29_method_65_code 2 (some .int) [] ({ frames := 0, cells := 0, slots := 0, locals := 0 } : Room) #[(.int p1), (.int p2)] h0 (fun v h L => v = some (.int (own_max p1 p2)) ∧ L = [] ∧ h = h0) := by
  refine own_body (Jvm.Free.JP.mathPlain rfl (by decide +kernel)) fun p e s m below meth c s₁ hx hby hml hret hlk hown hnm hZ X0 e0 => ?_
  rw [own_efmx m p1 p2]
  refine own_go (U' := s₁.setTop (mkF m 1 #[.val (.int p1), .val (.int p2)] [(.int p1)])) (fun t k => XS.iloadN X0.here hx rfl (hb hby dmx_0) rfl k) ?_
  refine own_go (U' := s₁.setTop (mkF m 2 #[.val (.int p1), .val (.int p2)] [(.int p2), (.int p1)])) (fun t k => XS.iloadN X0.here hx rfl (hb hby dmx_1) rfl k) ?_
  by_cases hc2 : p1 < p2
  · refine own_go (U' := s₁.setTop (mkF m 9 #[.val (.int p1), .val (.int p2)] [])) (fun t k => XS.icmpYes X0.here hx rfl (pc0 := 2) (pc' := 9) rfl (hb hby dmx_2) rfl (tlt hc2).1 (by decide) (by decide) k) ?_
    refine own_go (U' := s₁.setTop (mkF m 10 #[.val (.int p1), .val (.int p2)] [(.int p2)])) (fun t k => XS.iloadN X0.here hx rfl (hb hby dmx_9) rfl k) ?_
    refine own_retI X0 hx hret hlk (hb hby dmx_10) ?_ (by decide) (by decide)
    refine ⟨?_, rfl, e0⟩
    rw [own_max, if_pos hc2]
  · refine own_go (U' := s₁.setTop (mkF m 5 #[.val (.int p1), .val (.int p2)] [])) (fun t k => XS.icmpNo X0.here hx rfl (hb hby dmx_2) rfl (flt hc2).1 k) ?_
    refine own_go (U' := s₁.setTop (mkF m 6 #[.val (.int p1), .val (.int p2)] [(.int p1)])) (fun t k => XS.iloadN X0.here hx rfl (hb hby dmx_5) rfl k) ?_
    refine own_go (U' := s₁.setTop (mkF m 10 #[.val (.int p1), .val (.int p2)] [(.int p1)])) (fun t k => XS.goto X0.here hx rfl (pc0 := 6) (pc' := 10) rfl (hb hby dmx_6) (by decide) (by decide) k) ?_
    refine own_retI X0 hx hret hlk (hb hby dmx_10) ?_ (by decide) (by decide)
    refine ⟨?_, rfl, e0⟩
    rw [own_max, if_neg hc2]
def own_min (a b : Int32) : Int32 := if b < a then b else a
theorem dmn_0 : decode jdk_29_method_69_code 0 = .ok (.iload_n 0, 1) := by decide +kernel
theorem dmn_1 : decode jdk_29_method_69_code 1 = .ok (.iload_n 1, 1) := by decide +kernel
theorem dmn_2 : decode jdk_29_method_69_code 2 = .ok (.if_icmp .gt 7, 3) := by decide +kernel
theorem dmn_5 : decode jdk_29_method_69_code 5 = .ok (.iload_n 0, 1) := by decide +kernel
theorem dmn_6 : decode jdk_29_method_69_code 6 = .ok (.goto 4, 3) := by decide +kernel
theorem dmn_9 : decode jdk_29_method_69_code 9 = .ok (.iload_n 1, 1) := by decide +kernel
theorem dmn_10 : decode jdk_29_method_69_code 10 = .ok (.ireturn, 1) := by decide +kernel
theorem own_efmn (m : MethodId) (p1 p2 : Int32) : entryFrame m #[(.int p1), (.int p2)] 2 = mkF m 0 #[.val (.int p1), .val (.int p2)] [] := by first | (simp [entryFrame, mkF, argsToLocals, Value.category]; done) | rfl
set_option maxRecDepth 65536 in
set_option maxHeartbeats 40000000 in
theorem own_rmmn (l : Launch) (Z : State) (a0 : Array Value) (hw : ∀ d ∈ tables_1, d.before a0 Z = true) (p1 p2 : Int32) (h0 : Heap)  :
    own_C l Z (⟨"java/lang/Math", "min", "(II)I"⟩ : MethodName) jdk_29_method_69_code 2 (some .int) [] ({ frames := 0, cells := 0, slots := 0, locals := 0 } : Room) #[(.int p1), (.int p2)] h0 (fun v h L => v = some (.int (own_min p1 p2)) ∧ L = [] ∧ h = h0) := by
  refine own_body (Jvm.Free.JP.mathPlain rfl (by decide +kernel)) fun p e s m below meth c s₁ hx hby hml hret hlk hown hnm hZ X0 e0 => ?_
  rw [own_efmn m p1 p2]
  refine own_go (U' := s₁.setTop (mkF m 1 #[.val (.int p1), .val (.int p2)] [(.int p1)])) (fun t k => XS.iloadN X0.here hx rfl (hb hby dmn_0) rfl k) ?_
  refine own_go (U' := s₁.setTop (mkF m 2 #[.val (.int p1), .val (.int p2)] [(.int p2), (.int p1)])) (fun t k => XS.iloadN X0.here hx rfl (hb hby dmn_1) rfl k) ?_
  by_cases hc2 : p2 < p1
  · refine own_go (U' := s₁.setTop (mkF m 9 #[.val (.int p1), .val (.int p2)] [])) (fun t k => XS.icmpYes X0.here hx rfl (pc0 := 2) (pc' := 9) rfl (hb hby dmn_2) rfl (tlt hc2).2.2.1 (by decide) (by decide) k) ?_
    refine own_go (U' := s₁.setTop (mkF m 10 #[.val (.int p1), .val (.int p2)] [(.int p2)])) (fun t k => XS.iloadN X0.here hx rfl (hb hby dmn_9) rfl k) ?_
    refine own_retI X0 hx hret hlk (hb hby dmn_10) ?_ (by decide) (by decide)
    refine ⟨?_, rfl, e0⟩
    rw [own_min, if_pos hc2]
  · refine own_go (U' := s₁.setTop (mkF m 5 #[.val (.int p1), .val (.int p2)] [])) (fun t k => XS.icmpNo X0.here hx rfl (hb hby dmn_2) rfl (flt hc2).2.2.1 k) ?_
    refine own_go (U' := s₁.setTop (mkF m 6 #[.val (.int p1), .val (.int p2)] [(.int p1)])) (fun t k => XS.iloadN X0.here hx rfl (hb hby dmn_5) rfl k) ?_
    refine own_go (U' := s₁.setTop (mkF m 10 #[.val (.int p1), .val (.int p2)] [(.int p1)])) (fun t k => XS.goto X0.here hx rfl (pc0 := 6) (pc' := 10) rfl (hb hby dmn_6) (by decide) (by decide) k) ?_
    refine own_retI X0 hx hret hlk (hb hby dmn_10) ?_ (by decide) (by decide)
    refine ⟨?_, rfl, e0⟩
    rw [own_min, if_neg hc2]
theorem das_0 : decode jdk_38_method_8_code 0 = .ok (.aload_n 0, 1) := by decide +kernel
theorem das_1 : decode jdk_38_method_8_code 1 = .ok (.getfield 48, 3) := by decide +kernel
theorem das_4 : decode jdk_38_method_8_code 4 = .ok (.ireturn, 1) := by decide +kernel
theorem own_pn2 : plainName "java/util/ArrayList" = true := by first | (simp [plainName, overriddenIn]; done) | decide +kernel
theorem own_efas (m : MethodId) (a : Addr) : entryFrame m #[(.ref a)] 1 = mkF m 0 #[.val (.ref a)] [] := by first | (simp [entryFrame, mkF, argsToLocals, Value.category]; done) | rfl
set_option maxRecDepth 65536 in
set_option maxHeartbeats 40000000 in
theorem own_rmas (l : Launch) (Z : State) (a0 : Array Value) (hw : ∀ d ∈ tables_1, d.before a0 Z = true) (a : Addr) (h0 : Heap) (F_size_a : Fld Z h0 a "java/util/ArrayList" "size" "I" (.int 0)) :
    own_C l Z (⟨"java/util/ArrayList", "size", "()I"⟩ : MethodName) jdk_38_method_8_code 1 (some .int) [] ({ frames := 0, cells := 0, slots := 0, locals := 0 } : Room) #[(.ref a)] h0 (fun v h L => v = some (.int 0) ∧ L = [] ∧ h = h0) := by
  refine own_body (plainFor_of_name own_pn2) fun p e s m below meth c s₁ hx hby hml hret hlk hown hnm hZ X0 e0 => ?_
  rw [own_efas m a]
  refine own_go (U' := s₁.setTop (mkF m 1 #[.val (.ref a)] [(.ref a)])) (fun t k => XS.aloadN X0.here hx rfl (hb hby das_0) rfl rfl k) ?_
  obtain ⟨T1, X1, e1, st1⟩ := getF X0 hx hZ hown (host := "") (Or.inl (hw _ (List.mem_of_getElem? (i := 129) rfl))) Via.refl e0 F_size_a (g := (mkF m 1 #[.val (.ref a)] [(.ref a)])) rfl rfl (hb hby das_1)
  refine own_go (U' := T1.setTop (mkF m 4 #[.val (.ref a)] [(.int (0 : Int32))])) st1 ?_
  refine own_retI X1 hx hret hlk (hb hby das_4) ?_ (by decide) (by decide)
  exact ⟨rfl, rfl, e1⟩
theorem dls_0 : decode prog_46_method_6_code 0 = .ok (.aload_n 0, 1) := by decide +kernel
theorem dls_1 : decode prog_46_method_6_code 1 = .ok (.getfield 19, 3) := by decide +kernel
theorem dls_4 : decode prog_46_method_6_code 4 = .ok (.invokeinterface 39 1, 5) := by decide +kernel
theorem dls_9 : decode prog_46_method_6_code 9 = .ok (.ireturn, 1) := by decide +kernel
theorem own_efls (m : MethodId) (a : Addr) : entryFrame m #[(.ref a)] 1 = mkF m 0 #[.val (.ref a)] [] := by first | (simp [entryFrame, mkF, argsToLocals, Value.category]; done) | rfl
set_option maxRecDepth 65536 in
set_option maxHeartbeats 40000000 in
theorem own_rmls (l : Launch) (Z : State) (a0 : Array Value) (hw : ∀ d ∈ tables_1, d.before a0 Z = true) (a : Addr) (h0 : Heap) (al : Addr) (F_links_a : Fld Z h0 a "com/example/obedient_dog/obedientdog/topologydiscovery/LinkNumbers" "links" "Ljava/util/List;" (.ref al)) (E_al : Exa Z h0 al "java/util/ArrayList") (F_size_al : Fld Z h0 al "java/util/ArrayList" "size" "I" (.int 0)) :
    own_C l Z (⟨"com/example/obedient_dog/obedientdog/topologydiscovery/LinkNumbers", "size", "()I"⟩ : MethodName) prog_46_method_6_code 1 (some .int) [] ({ frames := 1, cells := 0, slots := 0, locals := 12 } : Room) #[(.ref a)] h0 (fun v h L => v = some (.int 0) ∧ L = [] ∧ h = h0) := by
  refine own_body (plainFor_of_name own_pn0) fun p e s m below meth c s₁ hx hby hml hret hlk hown hnm hZ X0 e0 => ?_
  rw [own_efls m a]
  refine own_go (U' := s₁.setTop (mkF m 1 #[.val (.ref a)] [(.ref a)])) (fun t k => XS.aloadN X0.here hx rfl (hb hby dls_0) rfl rfl k) ?_
  obtain ⟨T1, X1, e1, st1⟩ := getF X0 hx hZ hown (host := "") (Or.inl (hw _ (List.mem_of_getElem? (i := 54) rfl))) Via.refl e0 F_links_a (g := (mkF m 1 #[.val (.ref a)] [(.ref a)])) rfl rfl (hb hby dls_1)
  refine own_go (U' := T1.setTop (mkF m 4 #[.val (.ref a)] [(.ref al)])) st1 ?_
  obtain ⟨v2, T2, h2, L2, e2, X2, hQ2, st2⟩ := own_callI X1 hx hZ (y := (⟨"java/util/List", "size", "()I"⟩ : MethodName)) (z := (⟨"java/util/ArrayList", "size", "()I"⟩ : MethodName)) hown (hw _ (List.mem_of_getElem? (i := 120) rfl)) (hw _ (List.mem_of_getElem? (i := 121) rfl)) (mvT hZ (hw _ (List.mem_of_getElem? (i := 122) rfl))) (hw _ (List.mem_of_getElem? (i := 123) rfl)) (hw _ (List.mem_of_getElem? (i := 124) rfl)) (hw _ (List.mem_of_getElem? (i := 125) rfl)) (hw _ (List.mem_of_getElem? (i := 126) rfl)) (hw _ (List.mem_of_getElem? (i := 127) rfl)) (hw _ (List.mem_of_getElem? (i := 32) rfl)) (hw _ (List.mem_of_getElem? (i := 128) rfl)) (by decide) E_al (own_rmas l Z a0 hw al h0 F_size_al) (W := 0) (by decide) (by decide) (g := (mkF m 4 #[.val (.ref a)] [(.ref al)])) rfl (by rw [hml]; rfl) (argsL := []) (rest := []) (lenOf own_pd6 rfl) rfl rfl (by show 2 * 0 + _ ≤ _; exact Nat.le_of_eq rfl) (hb hby dls_4) e1 (by decide) (by decide)
  obtain ⟨rfl, rfl, eh2⟩ := hQ2
  have e2 := e2.trans eh2
  rw [List.append_nil] at X2
  refine own_go (U' := T2.setTop (mkF m 9 #[.val (.ref a)] [(.int (0 : Int32))])) st2 ?_
  refine own_retI X2 hx hret hlk (hb hby dls_9) ?_ (by decide) (by decide)
  exact ⟨rfl, rfl, e2⟩
theorem dcy_0 : decode jdk_65_method_123_code 0 = .ok (.iload_n 1, 1) := by decide +kernel
theorem dcy_1 : decode jdk_65_method_123_code 1 = .ok (.aload_n 0, 1) := by decide +kernel
theorem dcy_2 : decode jdk_65_method_123_code 2 = .ok (.arraylength, 1) := by decide +kernel
theorem dcy_3 : decode jdk_65_method_123_code 3 = .ok (.if_icmp .ne 11, 3) := by decide +kernel
theorem dcy_6 : decode jdk_65_method_123_code 6 = .ok (.aload_n 0, 1) := by decide +kernel
theorem dcy_7 : decode jdk_65_method_123_code 7 = .ok (.invokevirtual 316, 3) := by decide +kernel
theorem dcy_10 : decode jdk_65_method_123_code 10 = .ok (.checkcast 317, 3) := by decide +kernel
theorem dcy_13 : decode jdk_65_method_123_code 13 = .ok (.areturn, 1) := by decide +kernel
theorem dcy_14 : decode jdk_65_method_123_code 14 = .ok (.iload_n 1, 1) := by decide +kernel
theorem dcy_15 : decode jdk_65_method_123_code 15 = .ok (.newarray .int, 2) := by decide +kernel
theorem dcy_17 : decode jdk_65_method_123_code 17 = .ok (.astore_n 2, 1) := by decide +kernel
theorem dcy_18 : decode jdk_65_method_123_code 18 = .ok (.aload_n 0, 1) := by decide +kernel
theorem dcy_19 : decode jdk_65_method_123_code 19 = .ok (.iconst 0, 1) := by decide +kernel
theorem dcy_20 : decode jdk_65_method_123_code 20 = .ok (.aload_n 2, 1) := by decide +kernel
theorem dcy_21 : decode jdk_65_method_123_code 21 = .ok (.iconst 0, 1) := by decide +kernel
theorem dcy_22 : decode jdk_65_method_123_code 22 = .ok (.aload_n 0, 1) := by decide +kernel
theorem dcy_23 : decode jdk_65_method_123_code 23 = .ok (.arraylength, 1) := by decide +kernel
theorem dcy_24 : decode jdk_65_method_123_code 24 = .ok (.iload_n 1, 1) := by decide +kernel
theorem dcy_25 : decode jdk_65_method_123_code 25 = .ok (.invokestatic 304, 3) := by decide +kernel
theorem dcy_28 : decode jdk_65_method_123_code 28 = .ok (.invokestatic 150, 3) := by decide +kernel
theorem dcy_31 : decode jdk_65_method_123_code 31 = .ok (.aload_n 2, 1) := by decide +kernel
theorem dcy_32 : decode jdk_65_method_123_code 32 = .ok (.areturn, 1) := by decide +kernel
theorem own_pn3 : plainName "java/util/Arrays" = true := by first | (simp [plainName, overriddenIn]; done) | decide +kernel
theorem own_efcy (m : MethodId) (a : Addr) : entryFrame m #[(.ref a), (.int (16 : Int32))] 3 = mkF m 0 #[.val (.ref a), .val (.int (16 : Int32)), .unset] [] := by first | (simp [entryFrame, mkF, argsToLocals, Value.category]; done) | rfl
set_option maxRecDepth 65536 in
set_option maxHeartbeats 40000000 in
theorem own_rmcy (l : Launch) (Z : State) (a0 : Array Value) (hw : ∀ d ∈ tables_1, d.before a0 Z = true) (a : Addr) (h0 : Heap) (n0 : Nat) (O : Old Z n0 h0) (lt : List Nat) (hl8 : lt.length = 8) (ka : ClassId) (V_a : own_Ar Z h0 a ka .int (own_is lt)) :
    own_C l Z (⟨"java/util/Arrays", "copyOf", "([II)[I"⟩ : MethodName) jdk_65_method_123_code 3 (some (.array .int)) [] ({ frames := 1, cells := 1, slots := 16, locals := 40 } : Room) #[(.ref a), (.int (16 : Int32))] h0 (fun v h L => ∃ x kx, v = some (.ref x) ∧ Fr n0 L ∧ Keep h0 h [] ∧ h0.size ≤ x ∧ n0 ≤ x ∧ own_Ar Z h x kx .int (own_is (lt ++ List.replicate 8 0))) := by
  refine own_body (plainFor_of_name own_pn3) fun p e s m below meth c s₁ hx hby hml hret hlk hown hnm hZ X0 e0 => ?_
  rw [own_efcy m a]
  have N0 := Fr.nil n0
  have K := Keep.refl h0 []
  refine own_go (U' := s₁.setTop (mkF m 1 #[.val (.ref a), .val (.int (16 : Int32)), .unset] [(.int (16 : Int32))])) (fun t k => XS.iloadN X0.here hx rfl (hb hby dcy_0) rfl k) ?_
  refine own_go (U' := s₁.setTop (mkF m 2 #[.val (.ref a), .val (.int (16 : Int32)), .unset] [(.ref a), (.int (16 : Int32))])) (fun t k => XS.aloadN X0.here hx rfl (hb hby dcy_1) rfl rfl k) ?_
  refine own_go (U' := s₁.setTop (mkF m 3 #[.val (.ref a), .val (.int (16 : Int32)), .unset] [(.int (8 : Int32)), (.int (16 : Int32))])) (own_arrlen X0 hx hZ e0 V_a (n := (8 : Int32)) (by rw [List.length_map, hl8]; rfl) (g := (mkF m 2 #[.val (.ref a), .val (.int (16 : Int32)), .unset] [(.ref a), (.int (16 : Int32))])) rfl rfl (hb hby dcy_2)) ?_
  refine own_go (U' := s₁.setTop (mkF m 14 #[.val (.ref a), .val (.int (16 : Int32)), .unset] [])) (fun t k => XS.icmpYes X0.here hx rfl (pc0 := 3) (pc' := 14) rfl (hb hby dcy_3) rfl (feq (by decide)).2 (by decide) (by decide) k) ?_
  refine own_go (U' := s₁.setTop (mkF m 15 #[.val (.ref a), .val (.int (16 : Int32)), .unset] [(.int (16 : Int32))])) (fun t k => XS.iloadN X0.here hx rfl (hb hby dcy_14) rfl k) ?_
  obtain ⟨T1, h1, k1, X1, e1, E1, A1, Y1, st1⟩ := own_newarr X0 hx hZ (hw _ (List.mem_of_getElem? (i := 56) rfl)) e0 (g := (mkF m 15 #[.val (.ref a), .val (.int (16 : Int32)), .unset] [(.int (16 : Int32))])) rfl (hb hby dcy_15) rfl (by decide) (cap := 16) (by decide) (by decide) (by decide) (by decide) (ad := "[I") (by decide) rfl (vs := (own_is (List.replicate 16 0))) rfl
  obtain ⟨b1, g1⟩ : ∃ z, z = h0.size := ⟨_, rfl⟩
  rw [← g1] at A1 Y1 st1
  have ne_a_b1 : a ≠ b1 := Nat.ne_of_lt (Nat.lt_of_lt_of_eq V_a.lt g1.symm)
  have g_b1 : n0 ≤ b1 := Nat.le_trans (Nat.le_trans (Nat.le_of_eq O.1.symm) O.2.1) (Nat.le_of_eq g1.symm)
  have sz_b1 : h0.size ≤ b1 := Nat.le_trans K.1 (Nat.le_of_eq g1.symm)
  have K := K.ext E1
  have O := O.ext E1
  have V_a := V_a.ext E1
  have V_b1 : own_Ar Z h1 b1 k1 .int (own_is (List.replicate 16 0)) := A1
  have E_b1 := Y1
  refine own_go (U' := T1.setTop (mkF m 17 #[.val (.ref a), .val (.int (16 : Int32)), .unset] [(.ref b1)])) st1 ?_
  refine own_go (U' := T1.setTop (mkF m 18 #[.val (.ref a), .val (.int (16 : Int32)), .val (.ref b1)] [])) (fun t k => XS.astoreN X1.here hx rfl (hb hby dcy_17) rfl rfl (l' := #[.val (.ref a), .val (.int (16 : Int32)), .val (.ref b1)]) rfl k) ?_
  refine own_go (U' := T1.setTop (mkF m 19 #[.val (.ref a), .val (.int (16 : Int32)), .val (.ref b1)] [(.ref a)])) (fun t k => XS.aloadN X1.here hx rfl (hb hby dcy_18) rfl rfl k) ?_
  refine own_go (U' := T1.setTop (mkF m 20 #[.val (.ref a), .val (.int (16 : Int32)), .val (.ref b1)] [(.int (0 : Int32)), (.ref a)])) (fun t k => XS.iconst X1.here hx rfl (hb hby dcy_19) k) ?_
  refine own_go (U' := T1.setTop (mkF m 21 #[.val (.ref a), .val (.int (16 : Int32)), .val (.ref b1)] [(.ref b1), (.int (0 : Int32)), (.ref a)])) (fun t k => XS.aloadN X1.here hx rfl (hb hby dcy_20) rfl rfl k) ?_
  refine own_go (U' := T1.setTop (mkF m 22 #[.val (.ref a), .val (.int (16 : Int32)), .val (.ref b1)] [(.int (0 : Int32)), (.ref b1), (.int (0 : Int32)), (.ref a)])) (fun t k => XS.iconst X1.here hx rfl (hb hby dcy_21) k) ?_
  refine own_go (U' := T1.setTop (mkF m 23 #[.val (.ref a), .val (.int (16 : Int32)), .val (.ref b1)] [(.ref a), (.int (0 : Int32)), (.ref b1), (.int (0 : Int32)), (.ref a)])) (fun t k => XS.aloadN X1.here hx rfl (hb hby dcy_22) rfl rfl k) ?_
  refine own_go (U' := T1.setTop (mkF m 24 #[.val (.ref a), .val (.int (16 : Int32)), .val (.ref b1)] [(.int (8 : Int32)), (.int (0 : Int32)), (.ref b1), (.int (0 : Int32)), (.ref a)])) (own_arrlen X1 hx hZ e1 V_a (n := (8 : Int32)) (by rw [List.length_map, hl8]; rfl) (g := (mkF m 23 #[.val (.ref a), .val (.int (16 : Int32)), .val (.ref b1)] [(.ref a), (.int (0 : Int32)), (.ref b1), (.int (0 : Int32)), (.ref a)])) rfl rfl (hb hby dcy_23)) ?_
  refine own_go (U' := T1.setTop (mkF m 25 #[.val (.ref a), .val (.int (16 : Int32)), .val (.ref b1)] [(.int (16 : Int32)), (.int (8 : Int32)), (.int (0 : Int32)), (.ref b1), (.int (0 : Int32)), (.ref a)])) (fun t k => XS.iloadN X1.here hx rfl (hb hby dcy_24) rfl k) ?_
  obtain ⟨v2, T2, h2, L2, e2, X2, hQ2, st2⟩ := own_callS X1 hx hZ (y := (⟨"java/lang/Math", "min", "(II)I"⟩ : MethodName)) hown (hw _ (List.mem_of_getElem? (i := 135) rfl)) (hw _ (List.mem_of_getElem? (i := 136) rfl)) (hw _ (List.mem_of_getElem? (i := 113) rfl)) (hw _ (List.mem_of_getElem? (i := 137) rfl)) (by decide) (own_rmmn l Z a0 hw 8 16 h1) (W := 4) (by decide) (by decide) (g := (mkF m 25 #[.val (.ref a), .val (.int (16 : Int32)), .val (.ref b1)] [(.int (16 : Int32)), (.int (8 : Int32)), (.int (0 : Int32)), (.ref b1), (.int (0 : Int32)), (.ref a)])) rfl (by rw [hml]; rfl) (argsL := [(.int (8 : Int32)), (.int (16 : Int32))]) (rest := [(.int (0 : Int32)), (.ref b1), (.int (0 : Int32)), (.ref a)]) (lenOf own_pd2 rfl) rfl rfl (by show 2 * 0 + _ ≤ _; exact Nat.le_of_eq rfl) (hb hby dcy_25) e1 (by decide) (by decide)
  rw [show own_min 8 16 = 8 from by decide] at hQ2
  obtain ⟨rfl, rfl, eh2⟩ := hQ2
  have e2 := e2.trans eh2
  rw [List.append_nil] at X2
  refine own_go (U' := T2.setTop (mkF m 28 #[.val (.ref a), .val (.int (16 : Int32)), .val (.ref b1)] [(.int (8 : Int32)), (.int (0 : Int32)), (.ref b1), (.int (0 : Int32)), (.ref a)])) st2 ?_
  obtain ⟨T3, h3, L3, X3, e3, Nq3, Kq, V_b1, st3⟩ := own_cpI X2 hx hZ hown (hw _ (List.mem_of_getElem? (i := 138) rfl)) (hw _ (List.mem_of_getElem? (i := 141) rfl)) (hw _ (List.mem_of_getElem? (i := 139) rfl)) (hw _ (List.mem_of_getElem? (i := 140) rfl)) e2 V_a V_b1 (n := 8) (by decide) (by rw [List.length_map, hl8]) (by simp [own_is]) (by simp [own_is]) N0 g_b1 (g := (mkF m 28 #[.val (.ref a), .val (.int (16 : Int32)), .val (.ref b1)] [(.int (8 : Int32)), (.int (0 : Int32)), (.ref b1), (.int (0 : Int32)), (.ref a)])) rfl (by rw [hml]; rfl) rfl (hb hby dcy_28) (by decide) (W := 0) (by show 2 * 0 + _ ≤ _; exact Nat.le_of_eq rfl) (by decide)
  have K := K.trans Kq (allS (Or.inr sz_b1) all0)
  have O := O.keep Kq (allS g_b1 all0)
  have V_a := V_a.keep Kq (ninS ne_a_b1 nin0)
  have E_b1 := E_b1.keep Kq
  refine own_go (U' := T3.setTop (mkF m 31 #[.val (.ref a), .val (.int (16 : Int32)), .val (.ref b1)] [])) st3 ?_
  refine own_go (U' := T3.setTop (mkF m 32 #[.val (.ref a), .val (.int (16 : Int32)), .val (.ref b1)] [(.ref b1)])) (fun t k => XS.aloadN X3.here hx rfl (hb hby dcy_31) rfl rfl k) ?_
  refine own_retA X3 hx (t := (.array .int)) hret rfl hlk rfl (hb hby dcy_32) ?_ (by decide) (by decide)
  rw [e3]
  exact ⟨_, _, rfl, Nq3, K, sz_b1, g_b1, (by rw [own_is, List.map_append]; exact V_b1)⟩
/-- the two chain arrays -/
def own_cg (Z : State) (h : Heap) (n0 : Nat) (la ra ga ha : Addr) (ea lr : Value) : Prop := (ea = .null ∧ lr = .null) ∨ ∃ xe xl ke kl2 es ls, ea = .ref xe ∧ lr = .ref xl ∧ own_Ar Z h xe ke .int (own_is es) ∧ own_Ar Z h xl kl2 .int (own_is ls) ∧ es.length = 8 ∧ ls.length = 8 ∧ n0 ≤ xe ∧ n0 ≤ xl ∧ xe ≠ xl ∧ (xe ≠ la ∧ xe ≠ ra ∧ xe ≠ ga ∧ xe ≠ ha) ∧ (xl ≠ la ∧ xl ≠ ra ∧ xl ≠ ga ∧ xl ≠ ha)
theorem own_cg.refs {Z : State} {h : Heap} {n0 : Nat} {la ra ga ha : Addr} {ea lr : Value} (F : own_cg Z h n0 la ra ga ha ea lr) : ea.isRef = true ∧ lr.isRef = true := by
  rcases F with ⟨rfl, rfl⟩ | ⟨xe, xl, _, _, _, _, rfl, rfl, _⟩ <;> exact ⟨rfl, rfl⟩
theorem own_cg.keep {Z : State} {a0 : Array Value} (hw : ∀ d ∈ tables_1, d.before a0 Z = true) {h h' : Heap} {n0 : Nat} {a la la' ra ga ha : Addr} {ea lr : Value} (F : own_cg Z h n0 la ra ga ha ea lr) (E : Exa Z h a "com/example/obedient_dog/obedientdog/topologydiscovery/AgeLog") (K : Keep h h' [a, la, ra, ga]) (q : la' = la ∨ h.size ≤ la') : own_cg Z h' n0 la' ra ga ha ea lr := by
  rcases F with F | ⟨xe, xl, ke, kl2, es, ls, e1, e2, A, B, l1, l2, g1, g2, ne, ⟨n1, n2, n3, n4⟩, ⟨m1, m2, m3, m4⟩⟩
  · exact Or.inl F
  · have na : a ≠ xe := by
      obtain ⟨cb, Ab, -⟩ := A
      exact ne_arr E (hw _ (List.mem_of_getElem? (i := 1) rfl)) Ab
    have nb : a ≠ xl := by
      obtain ⟨cb, Ab, -⟩ := B
      exact ne_arr E (hw _ (List.mem_of_getElem? (i := 1) rfl)) Ab
    have nw : ∀ {x : Addr}, a ≠ x → x ≠ la → x ≠ ra → x ≠ ga → x ∉ [a, la, ra, ga] := fun {x} p1 p2 p3 p4 r => by
      simp only [List.mem_cons, List.not_mem_nil, or_false] at r
      rcases r with r | r | r | r
      · exact p1 r.symm
      · exact p2 r
      · exact p3 r
      · exact p4 r
    have nl : ∀ {x : Addr}, x < h.size → x ≠ la → x ≠ la' := fun {x} p1 p2 r => by
      rcases q with q | q
      · exact p2 (r.trans q)
      · rw [r] at p1; exact absurd p1 (Nat.not_lt.mpr q)
    exact Or.inr ⟨xe, xl, ke, kl2, es, ls, e1, e2, A.keep K (nw na n1 n2 n3), B.keep K (nw nb m1 m2 m3), l1, l2, g1, g2, ne, ⟨nl A.lt n1, n2, n3, n4⟩, ⟨nl B.lt m1, m2, m3, m4⟩⟩
def own_T (Z : State) (h : Heap) (n0 : Nat) (a nu ha al : Addr) (lt : List Nat) (ag : List Int32) (en se : Nat) (tb : Value) : Prop := ∃ la ra ga sz pr hs ea lr kl kr kg kh rs, own_F Z h a la ra ga nu (Int32.ofNat en) sz (Int32.ofNat se) pr hs tb ea lr ∧ own_Ar Z h la kl .int (own_is lt) ∧ own_Ar Z h ra kr .int rs ∧ own_Ar Z h ga kg .int (ag.map Value.int) ∧ rs.length = 8 ∧ (Exa Z h nu "com/example/obedient_dog/obedientdog/topologydiscovery/LinkNumbers" ∧ Fld Z h nu "com/example/obedient_dog/obedientdog/topologydiscovery/LinkNumbers" "hashes" "[I" (.ref ha) ∧ own_Ar Z h ha kh .int own_zs ∧ Fld Z h nu "com/example/obedient_dog/obedientdog/topologydiscovery/LinkNumbers" "links" "Ljava/util/List;" (.ref al) ∧ Exa Z h al "java/util/ArrayList" ∧ Fld Z h al "java/util/ArrayList" "size" "I" (.int 0)) ∧ own_cg Z h n0 la ra ga ha ea lr ∧ tb.isRef = true ∧ (la ≠ ra ∧ la ≠ ga ∧ ra ≠ ga ∧ ha ≠ la ∧ ha ≠ ra ∧ ha ≠ ga) ∧ (n0 ≤ a ∧ n0 ≤ la ∧ n0 ≤ ra ∧ n0 ≤ ga)
theorem dag_0 : decode prog_39_method_4_code 0 = .ok (.iload_n 1, 1) := by decide +kernel
theorem dag_1 : decode prog_39_method_4_code 1 = .ok (.aload_n 0, 1) := by decide +kernel
theorem dag_2 : decode prog_39_method_4_code 2 = .ok (.getfield 9, 3) := by decide +kernel
theorem dag_5 : decode prog_39_method_4_code 5 = .ok (.arraylength, 1) := by decide +kernel
theorem dag_6 : decode prog_39_method_4_code 6 = .ok (.if_icmp .ge 28, 3) := by decide +kernel
theorem dag_9 : decode prog_39_method_4_code 9 = .ok (.aload_n 0, 1) := by decide +kernel
theorem dag_10 : decode prog_39_method_4_code 10 = .ok (.getfield 9, 3) := by decide +kernel
theorem dag_13 : decode prog_39_method_4_code 13 = .ok (.iload_n 1, 1) := by decide +kernel
theorem dag_14 : decode prog_39_method_4_code 14 = .ok (.iaload, 1) := by decide +kernel
theorem dag_15 : decode prog_39_method_4_code 15 = .ok (.ifCond .eq 19, 3) := by decide +kernel
theorem dag_18 : decode prog_39_method_4_code 18 = .ok (.aload_n 0, 1) := by decide +kernel
theorem dag_19 : decode prog_39_method_4_code 19 = .ok (.getfield 16, 3) := by decide +kernel
theorem dag_22 : decode prog_39_method_4_code 22 = .ok (.aload_n 0, 1) := by decide +kernel
theorem dag_23 : decode prog_39_method_4_code 23 = .ok (.getfield 9, 3) := by decide +kernel
theorem dag_26 : decode prog_39_method_4_code 26 = .ok (.iload_n 1, 1) := by decide +kernel
theorem dag_27 : decode prog_39_method_4_code 27 = .ok (.iaload, 1) := by decide +kernel
theorem dag_28 : decode prog_39_method_4_code 28 = .ok (.iconst 1, 1) := by decide +kernel
theorem dag_29 : decode prog_39_method_4_code 29 = .ok (.isub, 1) := by decide +kernel
theorem dag_30 : decode prog_39_method_4_code 30 = .ok (.iaload, 1) := by decide +kernel
theorem dag_31 : decode prog_39_method_4_code 31 = .ok (.goto 4, 3) := by decide +kernel
theorem dag_34 : decode prog_39_method_4_code 34 = .ok (.iconst (-1), 1) := by decide +kernel
theorem dag_35 : decode prog_39_method_4_code 35 = .ok (.ireturn, 1) := by decide +kernel
theorem own_efag (m : MethodId) (a : Addr) (p1 : Int32) : entryFrame m #[(.ref a), (.int p1)] 2 = mkF m 0 #[.val (.ref a), .val (.int p1)] [] := by first | (simp [entryFrame, mkF, argsToLocals, Value.category]; done) | rfl
set_option maxRecDepth 65536 in
set_option maxHeartbeats 40000000 in
theorem own_rmag (l : Launch) (Z : State) (a0 : Array Value) (hw : ∀ d ∈ tables_1, d.before a0 Z = true) (a : Addr) (p1 : Int32) (h0 : Heap) (n0 : Nat) (nu ha al : Addr) (lt : List Nat) (ag : List Int32) (en se : Nat) (tb : Value) (O : Old Z n0 h0) (J : own_J lt ag en se) (hen : en < 8) (hp : ¬ p1 < 0) (hT : own_T Z h0 n0 a nu ha al lt ag en se tb) :
    own_C l Z (⟨"com/example/obedient_dog/obedientdog/topologydiscovery/AgeLog", "age", "(I)I"⟩ : MethodName) prog_39_method_4_code 2 (some .int) [] ({ frames := 0, cells := 0, slots := 0, locals := 0 } : Room) #[(.ref a), (.int p1)] h0 (fun v h L => v = some (.int (own_age lt ag p1.toNatClampNeg)) ∧ L = [] ∧ h = h0) := by
  refine own_body (plainFor_of_name own_pn1) fun p e s m below meth c s₁ hx hby hml hret hlk hown hnm hZ X0 e0 => ?_
  rw [own_efag m a p1]
  have N0 := Fr.nil n0
  have hT0 := hT
  obtain ⟨la, ra, ga, sz, pr, hs, ea, lr, kl, kr, kg, kh, rs, F_a, V_la, V_ra, V_ga, h_ra, ⟨E_nu, F_hashes_nu, V_ha, F_links_nu, E_al, F_size_al⟩, hcg, htb, ⟨ne_la_ra, ne_la_ga, ne_ra_ga, ne_ha_la, ne_ha_ra, ne_ha_ga⟩, ⟨g_a, g_la, g_ra, g_ga⟩⟩ := hT
  skip
  obtain ⟨jl, jg, jle, jse, jin⟩ := id J
  have h_ga : (ag.map Value.int).length = 8 := by rw [List.length_map]; exact jg
  have hea := hcg.refs.1
  have hlr := hcg.refs.2
  obtain ⟨E_a, F_latest_a, F_raised_a, F_ages_a, F_numbers_a, F_entries_a, F_size_a, F_sealed_a, F_present_a, F_hash_a, F_table_a, F_earlier_a, F_later_a⟩ := F_a
  have ne_a_la : a ≠ la := by
    obtain ⟨cb, Ab, -⟩ := V_la
    exact ne_arr E_a (hw _ (List.mem_of_getElem? (i := 1) rfl)) Ab
  have ne_a_ra : a ≠ ra := by
    obtain ⟨cb, Ab, -⟩ := V_ra
    exact ne_arr E_a (hw _ (List.mem_of_getElem? (i := 1) rfl)) Ab
  have ne_a_ga : a ≠ ga := by
    obtain ⟨cb, Ab, -⟩ := V_ga
    exact ne_arr E_a (hw _ (List.mem_of_getElem? (i := 1) rfl)) Ab
  have ne_a_ha : a ≠ ha := by
    obtain ⟨cb, Ab, -⟩ := V_ha
    exact ne_arr E_a (hw _ (List.mem_of_getElem? (i := 1) rfl)) Ab
  have ne_nu_la : nu ≠ la := by
    obtain ⟨cb, Ab, -⟩ := V_la
    exact ne_arr E_nu (hw _ (List.mem_of_getElem? (i := 4) rfl)) Ab
  have ne_nu_ra : nu ≠ ra := by
    obtain ⟨cb, Ab, -⟩ := V_ra
    exact ne_arr E_nu (hw _ (List.mem_of_getElem? (i := 4) rfl)) Ab
  have ne_nu_ga : nu ≠ ga := by
    obtain ⟨cb, Ab, -⟩ := V_ga
    exact ne_arr E_nu (hw _ (List.mem_of_getElem? (i := 4) rfl)) Ab
  have ne_nu_ha : nu ≠ ha := by
    obtain ⟨cb, Ab, -⟩ := V_ha
    exact ne_arr E_nu (hw _ (List.mem_of_getElem? (i := 4) rfl)) Ab
  have ne_a_nu : a ≠ nu := ne_exa E_a E_nu (by decide)
  have ne_al_la : al ≠ la := by
    obtain ⟨cb, Ab, -⟩ := V_la
    exact ne_arr E_al (hw _ (List.mem_of_getElem? (i := 31) rfl)) Ab
  have ne_al_ra : al ≠ ra := by
    obtain ⟨cb, Ab, -⟩ := V_ra
    exact ne_arr E_al (hw _ (List.mem_of_getElem? (i := 31) rfl)) Ab
  have ne_al_ga : al ≠ ga := by
    obtain ⟨cb, Ab, -⟩ := V_ga
    exact ne_arr E_al (hw _ (List.mem_of_getElem? (i := 31) rfl)) Ab
  have ne_al_ha : al ≠ ha := by
    obtain ⟨cb, Ab, -⟩ := V_ha
    exact ne_arr E_al (hw _ (List.mem_of_getElem? (i := 31) rfl)) Ab
  have ne_a_al : a ≠ al := ne_exa E_a E_al (by decide)
  have ne_nu_al : nu ≠ al := ne_exa E_nu E_al (by decide)
  refine own_go (U' := s₁.setTop (mkF m 1 #[.val (.ref a), .val (.int p1)] [(.int p1)])) (fun t k => XS.iloadN X0.here hx rfl (hb hby dag_0) rfl k) ?_
  refine own_go (U' := s₁.setTop (mkF m 2 #[.val (.ref a), .val (.int p1)] [(.ref a), (.int p1)])) (fun t k => XS.aloadN X0.here hx rfl (hb hby dag_1) rfl rfl k) ?_
  obtain ⟨T1, X1, e1, st1⟩ := getF X0 hx hZ hown (host := "") (Or.inl (hw _ (List.mem_of_getElem? (i := 63) rfl))) Via.refl e0 F_latest_a (g := (mkF m 2 #[.val (.ref a), .val (.int p1)] [(.ref a), (.int p1)])) rfl rfl (hb hby dag_2)
  refine own_go (U' := T1.setTop (mkF m 5 #[.val (.ref a), .val (.int p1)] [(.ref la), (.int p1)])) st1 ?_
  refine own_go (U' := T1.setTop (mkF m 6 #[.val (.ref a), .val (.int p1)] [(.int (Int32.ofNat lt.length)), (.int p1)])) (own_arrlen X1 hx hZ e1 V_la (n := (Int32.ofNat lt.length)) (by rw [List.length_map]) (g := (mkF m 5 #[.val (.ref a), .val (.int p1)] [(.ref la), (.int p1)])) rfl rfl (hb hby dag_5)) ?_
  have hli : p1 < Int32.ofNat lt.length ↔ p1.toNatClampNeg < lt.length := by
    have e0 : (0 : Int32).toInt = 0 := rfl
    have h9 := hp
    rw [Int32.lt_iff_toInt_lt, e0] at h9
    rw [Int32.lt_iff_toInt_lt, (own_ofn (i := lt.length) (by omega)).2.2]
    show _ ↔ p1.toInt.toNat < _
    omega
  by_cases h1 : p1 < (Int32.ofNat lt.length)
  · refine own_go (U' := T1.setTop (mkF m 9 #[.val (.ref a), .val (.int p1)] [])) (fun t k => XS.icmpNo X1.here hx rfl (hb hby dag_6) rfl (tlt h1).2.1 k) ?_
    have h1 := hli.mp h1
    have hj3 := jle p1.toNatClampNeg
    refine own_go (U' := T1.setTop (mkF m 10 #[.val (.ref a), .val (.int p1)] [(.ref a)])) (fun t k => XS.aloadN X1.here hx rfl (hb hby dag_9) rfl rfl k) ?_
    obtain ⟨T2, X2, e2, st2⟩ := getF X1 hx hZ hown (host := "") (Or.inl (hw _ (List.mem_of_getElem? (i := 63) rfl))) Via.refl e1 F_latest_a (g := (mkF m 10 #[.val (.ref a), .val (.int p1)] [(.ref a)])) rfl rfl (hb hby dag_10)
    refine own_go (U' := T2.setTop (mkF m 13 #[.val (.ref a), .val (.int p1)] [(.ref la)])) st2 ?_
    refine own_go (U' := T2.setTop (mkF m 14 #[.val (.ref a), .val (.int p1)] [(.int p1), (.ref la)])) (fun t k => XS.iloadN X2.here hx rfl (hb hby dag_13) rfl k) ?_
    refine own_go (U' := T2.setTop (mkF m 15 #[.val (.ref a), .val (.int p1)] [(.int (Int32.ofNat (lt.getD p1.toNatClampNeg 0)))])) (own_iaload X2 hx hZ e2 V_la (j := p1) hp (i := p1.toNatClampNeg) rfl (v := (.int (Int32.ofNat (lt.getD p1.toNatClampNeg 0)))) (own_is_at (by omega)) (g := (mkF m 14 #[.val (.ref a), .val (.int p1)] [(.int p1), (.ref la)])) rfl rfl (hb hby dag_14)) ?_
    by_cases h2 : (Int32.ofNat (lt.getD p1.toNatClampNeg 0)) = (0 : Int32)
    · refine own_go (U' := T2.setTop (mkF m 34 #[.val (.ref a), .val (.int p1)] [])) (fun t k => XS.ifYes X2.here hx rfl (pc0 := 15) (pc' := 34) rfl (hb hby dag_15) rfl ((if0 _ _).trans (teq h2).1) (by decide) (by decide) k) ?_
      have h2 := (own_eqn (j := 0) (by omega) (by omega)).mp h2
      refine own_go (U' := T2.setTop (mkF m 35 #[.val (.ref a), .val (.int p1)] [(.int (-1 : Int32))])) (fun t k => XS.iconst X2.here hx rfl (hb hby dag_34) k) ?_
      refine own_retI X2 hx hret hlk (hb hby dag_35) ?_ (by decide) (by decide)
      refine ⟨?_, rfl, e2⟩
      rw [own_age, if_pos h2]
    · refine own_go (U' := T2.setTop (mkF m 18 #[.val (.ref a), .val (.int p1)] [])) (fun t k => XS.ifNo X2.here hx rfl (hb hby dag_15) rfl ((if0 _ _).trans (feq h2).1) k) ?_
      have h2 : ¬ lt.getD p1.toNatClampNeg 0 = 0 := fun z => h2 (by rw [z]; rfl)
      refine own_go (U' := T2.setTop (mkF m 19 #[.val (.ref a), .val (.int p1)] [(.ref a)])) (fun t k => XS.aloadN X2.here hx rfl (hb hby dag_18) rfl rfl k) ?_
      obtain ⟨T3, X3, e3, st3⟩ := getF X2 hx hZ hown (host := "") (Or.inl (hw _ (List.mem_of_getElem? (i := 67) rfl))) Via.refl e2 F_ages_a (g := (mkF m 19 #[.val (.ref a), .val (.int p1)] [(.ref a)])) rfl rfl (hb hby dag_19)
      refine own_go (U' := T3.setTop (mkF m 22 #[.val (.ref a), .val (.int p1)] [(.ref ga)])) st3 ?_
      refine own_go (U' := T3.setTop (mkF m 23 #[.val (.ref a), .val (.int p1)] [(.ref a), (.ref ga)])) (fun t k => XS.aloadN X3.here hx rfl (hb hby dag_22) rfl rfl k) ?_
      obtain ⟨T4, X4, e4, st4⟩ := getF X3 hx hZ hown (host := "") (Or.inl (hw _ (List.mem_of_getElem? (i := 63) rfl))) Via.refl e3 F_latest_a (g := (mkF m 23 #[.val (.ref a), .val (.int p1)] [(.ref a), (.ref ga)])) rfl rfl (hb hby dag_23)
      refine own_go (U' := T4.setTop (mkF m 26 #[.val (.ref a), .val (.int p1)] [(.ref la), (.ref ga)])) st4 ?_
      refine own_go (U' := T4.setTop (mkF m 27 #[.val (.ref a), .val (.int p1)] [(.int p1), (.ref la), (.ref ga)])) (fun t k => XS.iloadN X4.here hx rfl (hb hby dag_26) rfl k) ?_
      refine own_go (U' := T4.setTop (mkF m 28 #[.val (.ref a), .val (.int p1)] [(.int (Int32.ofNat (lt.getD p1.toNatClampNeg 0))), (.ref ga)])) (own_iaload X4 hx hZ e4 V_la (j := p1) hp (i := p1.toNatClampNeg) rfl (v := (.int (Int32.ofNat (lt.getD p1.toNatClampNeg 0)))) (own_is_at (by omega)) (g := (mkF m 27 #[.val (.ref a), .val (.int p1)] [(.int p1), (.ref la), (.ref ga)])) rfl rfl (hb hby dag_27)) ?_
      refine own_go (U' := T4.setTop (mkF m 29 #[.val (.ref a), .val (.int p1)] [(.int (1 : Int32)), (.int (Int32.ofNat (lt.getD p1.toNatClampNeg 0))), (.ref ga)])) (fun t k => XS.iconst X4.here hx rfl (hb hby dag_28) k) ?_
      refine own_go (U' := T4.setTop (mkF m 30 #[.val (.ref a), .val (.int p1)] [(.int ((Int32.ofNat (lt.getD p1.toNatClampNeg 0)) - (1 : Int32))), (.ref ga)])) (fun t k => XS.isub X4.here hx rfl (hb hby dag_29) rfl k) ?_
      obtain ⟨j, hj⟩ : ∃ j, lt.getD p1.toNatClampNeg 0 = j + 1 := ⟨_, (Nat.succ_pred h2).symm⟩
      rw [hj, own_up1]
      have oj := own_ofn (i := j) (by omega)
      refine own_go (U' := T4.setTop (mkF m 31 #[.val (.ref a), .val (.int p1)] [(.int (ag.getD j 0))])) (own_iaload X4 hx hZ e4 V_ga (j := (Int32.ofNat j)) oj.1 (i := j) oj.2.1 (v := (.int (ag.getD j 0))) (own_agat (by omega)) (g := (mkF m 30 #[.val (.ref a), .val (.int p1)] [(.int (Int32.ofNat j)), (.ref ga)])) rfl rfl (hb hby dag_30)) ?_
      refine own_go (U' := T4.setTop (mkF m 35 #[.val (.ref a), .val (.int p1)] [(.int (ag.getD j 0))])) (fun t k => XS.goto X4.here hx rfl (pc0 := 31) (pc' := 35) rfl (hb hby dag_31) (by decide) (by decide) k) ?_
      refine own_retI X4 hx hret hlk (hb hby dag_35) ?_ (by decide) (by decide)
      refine ⟨?_, rfl, e4⟩
      rw [own_age, if_neg h2, hj, Nat.add_sub_cancel]
  · refine own_go (U' := T1.setTop (mkF m 34 #[.val (.ref a), .val (.int p1)] [])) (fun t k => XS.icmpYes X1.here hx rfl (pc0 := 6) (pc' := 34) rfl (hb hby dag_6) rfl (flt h1).2.1 (by decide) (by decide) k) ?_
    have h0' : lt.getD p1.toNatClampNeg 0 = 0 := by rw [List.getD, List.getElem?_eq_none (Nat.not_lt.mp (fun q => h1 (hli.mpr q)))]; rfl
    refine own_go (U' := T1.setTop (mkF m 35 #[.val (.ref a), .val (.int p1)] [(.int (-1 : Int32))])) (fun t k => XS.iconst X1.here hx rfl (hb hby dag_34) k) ?_
    refine own_retI X1 hx hret hlk (hb hby dag_35) ?_ (by decide) (by decide)
    refine ⟨?_, rfl, e1⟩
    rw [own_age, if_pos h0']
theorem own_efa2 (m : MethodId) (a : Addr) (p1 p2 : Int32) : entryFrame m #[(.ref a), (.int p1), (.int p2)] 3 = mkF m 0 #[.val (.ref a), .val (.int p1), .val (.int p2)] [] := by first | (simp [entryFrame, mkF, argsToLocals, Value.category]; done) | rfl
set_option maxRecDepth 65536 in
set_option maxHeartbeats 40000000 in
theorem own_rma2 (l : Launch) (Z : State) (a0 : Array Value) (hw : ∀ d ∈ tables_1, d.before a0 Z = true) (a : Addr) (p1 p2 : Int32) (h0 : Heap) (n0 : Nat) (nu ha al : Addr) (lt : List Nat) (ag : List Int32) (en se : Nat) (tb : Value) (O : Old Z n0 h0) (J : own_J lt ag en se) (hen : en < 8) (i : Nat) (hi : i < 16) (hp : p1 = Int32.ofNat i) (hT : own_T Z h0 n0 a nu ha al lt ag en se tb) :
    own_C l Z (⟨"com/example/obedient_dog/obedientdog/topologydiscovery/AgeLog", "add", "(II)V"⟩ : MethodName) prog_39_method_5_code 3 none [] ({ frames := 2, cells := 1, slots := 16, locals := 55 } : Room) #[(.ref a), (.int p1), (.int p2)] h0 (fun v h L => v = none ∧ Fr n0 L ∧ Old Z n0 h ∧ own_T Z h n0 a nu ha al ((own_grow lt i).set i (en + 1)) (ag.set en p2) (en + 1) se .null) := by
  refine own_body (plainFor_of_name own_pn1) fun p e s m below meth c s₁ hx hby hml hret hlk hown hnm hZ X0 e0 => ?_
  rw [own_efa2 m a p1 p2]
  subst hp
  have oi := own_ofn (i := i) (by omega)
  have N0 := Fr.nil n0
  have hT0 := hT
  obtain ⟨la, ra, ga, sz, pr, hs, ea, lr, kl, kr, kg, kh, rs, F_a, V_la, V_ra, V_ga, h_ra, ⟨E_nu, F_hashes_nu, V_ha, F_links_nu, E_al, F_size_al⟩, hcg, htb, ⟨ne_la_ra, ne_la_ga, ne_ra_ga, ne_ha_la, ne_ha_ra, ne_ha_ga⟩, ⟨g_a, g_la, g_ra, g_ga⟩⟩ := hT
  have K := Keep.refl h0 [a, la, ra, ga]
  skip
  obtain ⟨jl, jg, jle, jse, jin⟩ := id J
  have h_ga : (ag.map Value.int).length = 8 := by rw [List.length_map]; exact jg
  have hea := hcg.refs.1
  have hlr := hcg.refs.2
  have E_a0 : Exa Z h0 a "com/example/obedient_dog/obedientdog/topologydiscovery/AgeLog" := F_a.1
  have hszK : h0.size ≤ h0.size := Nat.le_refl _
  obtain ⟨E_a, F_latest_a, F_raised_a, F_ages_a, F_numbers_a, F_entries_a, F_size_a, F_sealed_a, F_present_a, F_hash_a, F_table_a, F_earlier_a, F_later_a⟩ := F_a
  have ne_a_la : a ≠ la := by
    obtain ⟨cb, Ab, -⟩ := V_la
    exact ne_arr E_a (hw _ (List.mem_of_getElem? (i := 1) rfl)) Ab
  have ne_a_ra : a ≠ ra := by
    obtain ⟨cb, Ab, -⟩ := V_ra
    exact ne_arr E_a (hw _ (List.mem_of_getElem? (i := 1) rfl)) Ab
  have ne_a_ga : a ≠ ga := by
    obtain ⟨cb, Ab, -⟩ := V_ga
    exact ne_arr E_a (hw _ (List.mem_of_getElem? (i := 1) rfl)) Ab
  have ne_a_ha : a ≠ ha := by
    obtain ⟨cb, Ab, -⟩ := V_ha
    exact ne_arr E_a (hw _ (List.mem_of_getElem? (i := 1) rfl)) Ab
  have ne_nu_la : nu ≠ la := by
    obtain ⟨cb, Ab, -⟩ := V_la
    exact ne_arr E_nu (hw _ (List.mem_of_getElem? (i := 4) rfl)) Ab
  have ne_nu_ra : nu ≠ ra := by
    obtain ⟨cb, Ab, -⟩ := V_ra
    exact ne_arr E_nu (hw _ (List.mem_of_getElem? (i := 4) rfl)) Ab
  have ne_nu_ga : nu ≠ ga := by
    obtain ⟨cb, Ab, -⟩ := V_ga
    exact ne_arr E_nu (hw _ (List.mem_of_getElem? (i := 4) rfl)) Ab
  have ne_nu_ha : nu ≠ ha := by
    obtain ⟨cb, Ab, -⟩ := V_ha
    exact ne_arr E_nu (hw _ (List.mem_of_getElem? (i := 4) rfl)) Ab
  have ne_a_nu : a ≠ nu := ne_exa E_a E_nu (by decide)
  have ne_al_la : al ≠ la := by
    obtain ⟨cb, Ab, -⟩ := V_la
    exact ne_arr E_al (hw _ (List.mem_of_getElem? (i := 31) rfl)) Ab
  have ne_al_ra : al ≠ ra := by
    obtain ⟨cb, Ab, -⟩ := V_ra
    exact ne_arr E_al (hw _ (List.mem_of_getElem? (i := 31) rfl)) Ab
  have ne_al_ga : al ≠ ga := by
    obtain ⟨cb, Ab, -⟩ := V_ga
    exact ne_arr E_al (hw _ (List.mem_of_getElem? (i := 31) rfl)) Ab
  have ne_al_ha : al ≠ ha := by
    obtain ⟨cb, Ab, -⟩ := V_ha
    exact ne_arr E_al (hw _ (List.mem_of_getElem? (i := 31) rfl)) Ab
  have ne_a_al : a ≠ al := ne_exa E_a E_al (by decide)
  have ne_nu_al : nu ≠ al := ne_exa E_nu E_al (by decide)
  refine own_go (U' := s₁.setTop (mkF m 1 #[.val (.ref a), .val (.int (Int32.ofNat i)), .val (.int p2)] [(.int (Int32.ofNat i))])) (fun t k => XS.iloadN X0.here hx rfl (hb hby dad_0) rfl k) ?_
  refine own_go (U' := s₁.setTop (mkF m 2 #[.val (.ref a), .val (.int (Int32.ofNat i)), .val (.int p2)] [(.ref a), (.int (Int32.ofNat i))])) (fun t k => XS.aloadN X0.here hx rfl (hb hby dad_1) rfl rfl k) ?_
  obtain ⟨T1, X1, e1, st1⟩ := getF X0 hx hZ hown (host := "") (Or.inl (hw _ (List.mem_of_getElem? (i := 63) rfl))) Via.refl e0 F_latest_a (g := (mkF m 2 #[.val (.ref a), .val (.int (Int32.ofNat i)), .val (.int p2)] [(.ref a), (.int (Int32.ofNat i))])) rfl rfl (hb hby dad_2)
  refine own_go (U' := T1.setTop (mkF m 5 #[.val (.ref a), .val (.int (Int32.ofNat i)), .val (.int p2)] [(.ref la), (.int (Int32.ofNat i))])) st1 ?_
  refine own_go (U' := T1.setTop (mkF m 6 #[.val (.ref a), .val (.int (Int32.ofNat i)), .val (.int p2)] [(.int (Int32.ofNat lt.length)), (.int (Int32.ofNat i))])) (own_arrlen X1 hx hZ e1 V_la (n := (Int32.ofNat lt.length)) (by rw [List.length_map]) (g := (mkF m 5 #[.val (.ref a), .val (.int (Int32.ofNat i)), .val (.int p2)] [(.ref la), (.int (Int32.ofNat i))])) rfl rfl (hb hby dad_5)) ?_
  by_cases h1 : (Int32.ofNat i) < (Int32.ofNat lt.length)
  · refine own_go (U' := T1.setTop (mkF m 43 #[.val (.ref a), .val (.int (Int32.ofNat i)), .val (.int p2)] [])) (fun t k => XS.icmpYes X1.here hx rfl (pc0 := 6) (pc' := 43) rfl (hb hby dad_6) rfl (tlt h1).1 (by decide) (by decide) k) ?_
    have h1 := (own_lt (by omega) (by omega)).mp h1
    refine own_go (U' := T1.setTop (mkF m 44 #[.val (.ref a), .val (.int (Int32.ofNat i)), .val (.int p2)] [(.ref a)])) (fun t k => XS.aloadN X1.here hx rfl (hb hby dad_43) rfl rfl k) ?_
    obtain ⟨T2, X2, e2, st2⟩ := getF X1 hx hZ hown (host := "") (Or.inl (hw _ (List.mem_of_getElem? (i := 63) rfl))) Via.refl e1 F_latest_a (g := (mkF m 44 #[.val (.ref a), .val (.int (Int32.ofNat i)), .val (.int p2)] [(.ref a)])) rfl rfl (hb hby dad_44)
    refine own_go (U' := T2.setTop (mkF m 47 #[.val (.ref a), .val (.int (Int32.ofNat i)), .val (.int p2)] [(.ref la)])) st2 ?_
    refine own_go (U' := T2.setTop (mkF m 48 #[.val (.ref a), .val (.int (Int32.ofNat i)), .val (.int p2)] [(.int (Int32.ofNat i)), (.ref la)])) (fun t k => XS.iloadN X2.here hx rfl (hb hby dad_47) rfl k) ?_
    refine own_go (U' := T2.setTop (mkF m 49 #[.val (.ref a), .val (.int (Int32.ofNat i)), .val (.int p2)] [(.ref a), (.int (Int32.ofNat i)), (.ref la)])) (fun t k => XS.aloadN X2.here hx rfl (hb hby dad_48) rfl rfl k) ?_
    refine own_go (U' := T2.setTop (mkF m 50 #[.val (.ref a), .val (.int (Int32.ofNat i)), .val (.int p2)] [(.int (Int32.ofNat i)), (.ref a), (.int (Int32.ofNat i)), (.ref la)])) (fun t k => XS.iloadN X2.here hx rfl (hb hby dad_49) rfl k) ?_
    refine own_go (U' := T2.setTop (mkF m 51 #[.val (.ref a), .val (.int (Int32.ofNat i)), .val (.int p2)] [(.int p2), (.int (Int32.ofNat i)), (.ref a), (.int (Int32.ofNat i)), (.ref la)])) (fun t k => XS.iloadN X2.here hx rfl (hb hby dad_50) rfl k) ?_
    obtain ⟨v3, T3, h3, L3, e3, X3, hQ3, st3⟩ := own_callP X2 hx hZ (y := (⟨"com/example/obedient_dog/obedientdog/topologydiscovery/AgeLog", "append", "(II)I"⟩ : MethodName)) hown (hw _ (List.mem_of_getElem? (i := 81) rfl)) (hw _ (List.mem_of_getElem? (i := 82) rfl)) (own_selP (y0 := (⟨"com/example/obedient_dog/obedientdog/topologydiscovery/AgeLog", "raise", "(II)Z"⟩ : MethodName)) (hw _ (List.mem_of_getElem? (i := 74) rfl)) rfl (hw _ (List.mem_of_getElem? (i := 83) rfl)) (hw _ (List.mem_of_getElem? (i := 82) rfl)) (by decide)) (hw _ (List.mem_of_getElem? (i := 83) rfl)) (hw _ (List.mem_of_getElem? (i := 2) rfl)) (hw _ (List.mem_of_getElem? (i := 84) rfl)) (by decide) E_a (own_rmap l Z a0 hw a (Int32.ofNat i) p2 h0 n0 g_a la ra ga nu ha kh (Int32.ofNat en) sz (Int32.ofNat se) pr hs tb ea lr htb hea hlr en hen rfl _ _ kr kg g_ra g_ga ne_ra_ga ⟨E_a, F_latest_a, F_raised_a, F_ages_a, F_numbers_a, F_entries_a, F_size_a, F_sealed_a, F_present_a, F_hash_a, F_table_a, F_earlier_a, F_later_a⟩ V_ra h_ra V_ga h_ga) (W := 2) (by decide) (by decide) (g := (mkF m 51 #[.val (.ref a), .val (.int (Int32.ofNat i)), .val (.int p2)] [(.int p2), (.int (Int32.ofNat i)), (.ref a), (.int (Int32.ofNat i)), (.ref la)])) rfl (by rw [hml]; rfl) (argsL := [(.int (Int32.ofNat i)), (.int p2)]) (rest := [(.int (Int32.ofNat i)), (.ref la)]) (lenOf own_pd2 rfl) rfl rfl (by show 2 * 0 + _ ≤ _; exact Nat.le_of_eq rfl) (hb hby dad_51) e2 (by decide) (by decide)
    obtain ⟨rfl, Nq, Kq, F_a, V_ra, V_ga⟩ := hQ3
    have O := O.keep Kq (allS g_a (allS g_ra (allS g_ga all0)))
    have K := K.trans Kq (allS (Or.inl (List.mem_of_getElem? (i := 0) rfl)) (allS (Or.inl (List.mem_of_getElem? (i := 2) rfl)) (allS (Or.inl (List.mem_of_getElem? (i := 3) rfl)) all0)))
    have E_a := E_a.keep Kq
    have E_nu := E_nu.keep Kq
    have F_hashes_nu := F_hashes_nu.keep Kq (ninS (Ne.symm ne_a_nu) (ninS ne_nu_ra (ninS ne_nu_ga nin0)))
    have V_ha := V_ha.keep Kq (ninS (Ne.symm ne_a_ha) (ninS ne_ha_ra (ninS ne_ha_ga nin0)))
    have F_links_nu := F_links_nu.keep Kq (ninS (Ne.symm ne_a_nu) (ninS ne_nu_ra (ninS ne_nu_ga nin0)))
    have E_al := E_al.keep Kq
    have F_size_al := F_size_al.keep Kq (ninS (Ne.symm ne_a_al) (ninS ne_al_ra (ninS ne_al_ga nin0)))
    have V_la := V_la.keep Kq (ninS (Ne.symm ne_a_la) (ninS ne_la_ra (ninS ne_la_ga nin0)))
    obtain ⟨E_a, F_latest_a, F_raised_a, F_ages_a, F_numbers_a, F_entries_a, F_size_a, F_sealed_a, F_present_a, F_hash_a, F_table_a, F_earlier_a, F_later_a⟩ := F_a
    have N3 := Fr.app N0 Nq
    refine own_go (U' := T3.setTop (mkF m 54 #[.val (.ref a), .val (.int (Int32.ofNat i)), .val (.int p2)] [(.int (Int32.ofNat en)), (.int (Int32.ofNat i)), (.ref la)])) st3 ?_
    refine own_go (U' := T3.setTop (mkF m 55 #[.val (.ref a), .val (.int (Int32.ofNat i)), .val (.int p2)] [(.int (1 : Int32)), (.int (Int32.ofNat en)), (.int (Int32.ofNat i)), (.ref la)])) (fun t k => XS.iconst X3.here hx rfl (hb hby dad_54) k) ?_
    refine own_go (U' := T3.setTop (mkF m 56 #[.val (.ref a), .val (.int (Int32.ofNat i)), .val (.int p2)] [(.int ((Int32.ofNat en) + (1 : Int32))), (.int (Int32.ofNat i)), (.ref la)])) (fun t k => XS.iadd X3.here hx rfl (hb hby dad_55) rfl k) ?_
    rw [← own_succ]
    obtain ⟨T4, h4, X4, e4, W4, A4, st4⟩ := own_iastore X3 hx hZ e3 V_la (j := (Int32.ofNat i)) oi.1 (i := i) oi.2.1 (by rw [List.length_map]; exact h1) (g := (mkF m 56 #[.val (.ref a), .val (.int (Int32.ofNat i)), .val (.int p2)] [(.int (Int32.ofNat (en + 1))), (.int (Int32.ofNat i)), (.ref la)])) rfl rfl (hb hby dad_56)
    have O := O.wr W4 g_la
    have K := K.wr W4 (Or.inl (List.mem_of_getElem? (i := 1) rfl))
    have E_a := E_a.wr W4
    have E_nu := E_nu.wr W4
    have F_hashes_nu := F_hashes_nu.other W4 (Or.inl ne_nu_la)
    have V_ha := V_ha.other W4 ne_ha_la
    have F_links_nu := F_links_nu.other W4 (Or.inl ne_nu_la)
    have E_al := E_al.wr W4
    have F_size_al := F_size_al.other W4 (Or.inl ne_al_la)
    have F_latest_a := F_latest_a.other W4 (Or.inl ne_a_la)
    have F_raised_a := F_raised_a.other W4 (Or.inl ne_a_la)
    have F_ages_a := F_ages_a.other W4 (Or.inl ne_a_la)
    have F_numbers_a := F_numbers_a.other W4 (Or.inl ne_a_la)
    have F_entries_a := F_entries_a.other W4 (Or.inl ne_a_la)
    have F_size_a := F_size_a.other W4 (Or.inl ne_a_la)
    have F_sealed_a := F_sealed_a.other W4 (Or.inl ne_a_la)
    have F_present_a := F_present_a.other W4 (Or.inl ne_a_la)
    have F_hash_a := F_hash_a.other W4 (Or.inl ne_a_la)
    have F_table_a := F_table_a.other W4 (Or.inl ne_a_la)
    have F_earlier_a := F_earlier_a.other W4 (Or.inl ne_a_la)
    have F_later_a := F_later_a.other W4 (Or.inl ne_a_la)
    have V_ra := V_ra.other W4 (Ne.symm ne_la_ra)
    have V_ga := V_ga.other W4 (Ne.symm ne_la_ga)
    have V_la : own_Ar Z h4 la kl .int (own_is (lt.set i (en + 1))) := ((own_is_set _ _ _) : ((own_is lt)).set (i) (.int (Int32.ofNat (en + 1))) = (own_is (lt.set i (en + 1)))) ▸ A4
    have N4 := Fr.snoc X4 N3 g_la
    refine own_go (U' := T4.setTop (mkF m 57 #[.val (.ref a), .val (.int (Int32.ofNat i)), .val (.int p2)] [])) st4 ?_
    refine own_go (U' := T4.setTop (mkF m 58 #[.val (.ref a), .val (.int (Int32.ofNat i)), .val (.int p2)] [(.ref a)])) (fun t k => XS.aloadN X4.here hx rfl (hb hby dad_57) rfl rfl k) ?_
    refine own_go (U' := T4.setTop (mkF m 59 #[.val (.ref a), .val (.int (Int32.ofNat i)), .val (.int p2)] [(.ref a), (.ref a)])) (fun t k => XS.dup X4.here hx rfl (hb hby dad_58) rfl rfl k) ?_
    obtain ⟨T5, X5, e5, st5⟩ := getF X4 hx hZ hown (host := "") (Or.inl (hw _ (List.mem_of_getElem? (i := 87) rfl))) Via.refl e4 F_size_a (g := (mkF m 59 #[.val (.ref a), .val (.int (Int32.ofNat i)), .val (.int p2)] [(.ref a), (.ref a)])) rfl rfl (hb hby dad_59)
    refine own_go (U' := T5.setTop (mkF m 62 #[.val (.ref a), .val (.int (Int32.ofNat i)), .val (.int p2)] [(.int sz), (.ref a)])) st5 ?_
    refine own_go (U' := T5.setTop (mkF m 63 #[.val (.ref a), .val (.int (Int32.ofNat i)), .val (.int p2)] [(.int (1 : Int32)), (.int sz), (.ref a)])) (fun t k => XS.iconst X5.here hx rfl (hb hby dad_62) k) ?_
    refine own_go (U' := T5.setTop (mkF m 64 #[.val (.ref a), .val (.int (Int32.ofNat i)), .val (.int p2)] [(.int (sz + (1 : Int32))), (.ref a)])) (fun t k => XS.iadd X5.here hx rfl (hb hby dad_63) rfl k) ?_
    obtain ⟨T6, h6, X6, e6, W6, st6⟩ := putF X5 hx hZ hown (host := "") (Or.inl (hw _ (List.mem_of_getElem? (i := 87) rfl))) Via.refl e5 F_size_a E_a (Or.inl (hw _ (List.mem_of_getElem? (i := 88) rfl))) (hw _ (List.mem_of_getElem? (i := 1) rfl)) (ty := .int) (by decide) rfl rfl (g := (mkF m 64 #[.val (.ref a), .val (.int (Int32.ofNat i)), .val (.int p2)] [(.int (sz + (1 : Int32))), (.ref a)])) rfl rfl (hb hby dad_64)
    have O := O.wr W6 g_a
    have K := K.wr W6 (Or.inl (List.mem_of_getElem? (i := 0) rfl))
    have E_a := E_a.wr W6
    have E_nu := E_nu.wr W6
    have F_hashes_nu := F_hashes_nu.other W6 (Or.inl (Ne.symm ne_a_nu))
    have V_ha := V_ha.other W6 (Ne.symm ne_a_ha)
    have F_links_nu := F_links_nu.other W6 (Or.inl (Ne.symm ne_a_nu))
    have E_al := E_al.wr W6
    have F_size_al := F_size_al.other W6 (Or.inl (Ne.symm ne_a_al))
    have V_la := V_la.other W6 (Ne.symm ne_a_la)
    have F_latest_a := F_latest_a.other W6 (Or.inr (slot_ne (Or.inl (hw _ (List.mem_of_getElem? (i := 64) rfl))) (Or.inl (hw _ (List.mem_of_getElem? (i := 88) rfl))) (by decide) (t := (.array .int)) (t' := .int) (by decide) (by decide)))
    have F_raised_a := F_raised_a.other W6 (Or.inr (slot_ne (Or.inl (hw _ (List.mem_of_getElem? (i := 66) rfl))) (Or.inl (hw _ (List.mem_of_getElem? (i := 88) rfl))) (by decide) (t := (.array .int)) (t' := .int) (by decide) (by decide)))
    have F_ages_a := F_ages_a.other W6 (Or.inr (slot_ne (Or.inl (hw _ (List.mem_of_getElem? (i := 68) rfl))) (Or.inl (hw _ (List.mem_of_getElem? (i := 88) rfl))) (by decide) (t := (.array .int)) (t' := .int) (by decide) (by decide)))
    have F_numbers_a := F_numbers_a.other W6 (Or.inr (slot_ne (Or.inr (hw _ (List.mem_of_getElem? (i := 70) rfl))) (Or.inl (hw _ (List.mem_of_getElem? (i := 88) rfl))) (by decide) (t := (.object "com/example/obedient_dog/obedientdog/topologydiscovery/LinkNumbers")) (t' := .int) (by decide) (by decide)))
    have F_entries_a := F_entries_a.other W6 (Or.inr (slot_ne (Or.inl (hw _ (List.mem_of_getElem? (i := 86) rfl))) (Or.inl (hw _ (List.mem_of_getElem? (i := 88) rfl))) (by decide) (t := .int) (t' := .int) (by decide) (by decide)))
    have F_sealed_a := F_sealed_a.other W6 (Or.inr (slot_ne (Or.inl (hw _ (List.mem_of_getElem? (i := 110) rfl))) (Or.inl (hw _ (List.mem_of_getElem? (i := 88) rfl))) (by decide) (t := .int) (t' := .int) (by decide) (by decide)))
    have F_present_a := F_present_a.other W6 (Or.inr (slot_ne (Or.inl (hw _ (List.mem_of_getElem? (i := 94) rfl))) (Or.inl (hw _ (List.mem_of_getElem? (i := 88) rfl))) (by decide) (t := .int) (t' := .int) (by decide) (by decide)))
    have F_hash_a := F_hash_a.other W6 (Or.inr (slot_ne (Or.inl (hw _ (List.mem_of_getElem? (i := 96) rfl))) (Or.inl (hw _ (List.mem_of_getElem? (i := 88) rfl))) (by decide) (t := .int) (t' := .int) (by decide) (by decide)))
    have F_table_a := F_table_a.other W6 (Or.inr (slot_ne (Or.inl (hw _ (List.mem_of_getElem? (i := 103) rfl))) (Or.inl (hw _ (List.mem_of_getElem? (i := 88) rfl))) (by decide) (t := (.object "com/example/obedient_dog/obedientdog/topologydiscovery/AgeTable")) (t' := .int) (by decide) (by decide)))
    have F_earlier_a := F_earlier_a.other W6 (Or.inr (slot_ne (Or.inl (hw _ (List.mem_of_getElem? (i := 170) rfl))) (Or.inl (hw _ (List.mem_of_getElem? (i := 88) rfl))) (by decide) (t := (.array .int)) (t' := .int) (by decide) (by decide)))
    have F_later_a := F_later_a.other W6 (Or.inr (slot_ne (Or.inl (hw _ (List.mem_of_getElem? (i := 172) rfl))) (Or.inl (hw _ (List.mem_of_getElem? (i := 88) rfl))) (by decide) (t := (.array .int)) (t' := .int) (by decide) (by decide)))
    have V_ra := V_ra.other W6 (Ne.symm ne_a_ra)
    have V_ga := V_ga.other W6 (Ne.symm ne_a_ga)
    have F_size_a := F_size_a.same W6
    have N6 := Fr.snoc X6 N4 g_a
    refine own_go (U' := T6.setTop (mkF m 67 #[.val (.ref a), .val (.int (Int32.ofNat i)), .val (.int p2)] [])) st6 ?_
    refine own_go (U' := T6.setTop (mkF m 68 #[.val (.ref a), .val (.int (Int32.ofNat i)), .val (.int p2)] [(.ref a)])) (fun t k => XS.aloadN X6.here hx rfl (hb hby dad_67) rfl rfl k) ?_
    refine own_go (U' := T6.setTop (mkF m 69 #[.val (.ref a), .val (.int (Int32.ofNat i)), .val (.int p2)] [(.int (Int32.ofNat i)), (.ref a)])) (fun t k => XS.iloadN X6.here hx rfl (hb hby dad_68) rfl k) ?_
    refine own_go (U' := T6.setTop (mkF m 70 #[.val (.ref a), .val (.int (Int32.ofNat i)), .val (.int p2)] [(.int p2), (.int (Int32.ofNat i)), (.ref a)])) (fun t k => XS.iloadN X6.here hx rfl (hb hby dad_69) rfl k) ?_
    refine own_go (U' := T6.setTop (mkF m 71 #[.val (.ref a), .val (.int (Int32.ofNat i)), .val (.int p2)] [(.int (1 : Int32)), (.int p2), (.int (Int32.ofNat i)), (.ref a)])) (fun t k => XS.iconst X6.here hx rfl (hb hby dad_70) k) ?_
    obtain ⟨v7, T7, h7, L7, e7, X7, hQ7, st7⟩ := own_callP X6 hx hZ (y := (⟨"com/example/obedient_dog/obedientdog/topologydiscovery/AgeLog", "count", "(III)V"⟩ : MethodName)) hown (hw _ (List.mem_of_getElem? (i := 89) rfl)) (hw _ (List.mem_of_getElem? (i := 90) rfl)) (own_selP (y0 := (⟨"com/example/obedient_dog/obedientdog/topologydiscovery/AgeLog", "raise", "(II)Z"⟩ : MethodName)) (hw _ (List.mem_of_getElem? (i := 74) rfl)) rfl (hw _ (List.mem_of_getElem? (i := 91) rfl)) (hw _ (List.mem_of_getElem? (i := 90) rfl)) (by decide)) (hw _ (List.mem_of_getElem? (i := 91) rfl)) (hw _ (List.mem_of_getElem? (i := 2) rfl)) (hw _ (List.mem_of_getElem? (i := 92) rfl)) (by decide) E_a (own_rmct l Z a0 hw a (Int32.ofNat i) p2 1 h6 n0 g_a la ra ga nu ha kh _ _ _ _ _ _ _ _ htb hea hlr i hi rfl ⟨E_a, F_latest_a, F_raised_a, F_ages_a, F_numbers_a, F_entries_a, F_size_a, F_sealed_a, F_present_a, F_hash_a, F_table_a, F_earlier_a, F_later_a⟩ E_nu F_hashes_nu V_ha) (W := 0) (by decide) (by decide) (g := (mkF m 71 #[.val (.ref a), .val (.int (Int32.ofNat i)), .val (.int p2)] [(.int (1 : Int32)), (.int p2), (.int (Int32.ofNat i)), (.ref a)])) rfl (by rw [hml]; rfl) (argsL := [(.int (Int32.ofNat i)), (.int p2), (.int (1 : Int32))]) (rest := []) (lenOf own_pd1 rfl) rfl rfl (by show 2 * 0 + _ ≤ _; exact Nat.le_of_eq rfl) (hb hby dad_71) e6 (by decide) (by decide)
    obtain ⟨rfl, Nq, Kq, pr2, hs2, F_a⟩ := hQ7
    have O := O.keep Kq (allS g_a all0)
    have K := K.trans Kq (allS (Or.inl (List.mem_of_getElem? (i := 0) rfl)) all0)
    have E_a := E_a.keep Kq
    have E_nu := E_nu.keep Kq
    have F_hashes_nu := F_hashes_nu.keep Kq (ninS (Ne.symm ne_a_nu) nin0)
    have V_ha := V_ha.keep Kq (ninS (Ne.symm ne_a_ha) nin0)
    have F_links_nu := F_links_nu.keep Kq (ninS (Ne.symm ne_a_nu) nin0)
    have E_al := E_al.keep Kq
    have F_size_al := F_size_al.keep Kq (ninS (Ne.symm ne_a_al) nin0)
    have V_la := V_la.keep Kq (ninS (Ne.symm ne_a_la) nin0)
    have V_ra := V_ra.keep Kq (ninS (Ne.symm ne_a_ra) nin0)
    have V_ga := V_ga.keep Kq (ninS (Ne.symm ne_a_ga) nin0)
    obtain ⟨E_a, F_latest_a, F_raised_a, F_ages_a, F_numbers_a, F_entries_a, F_size_a, F_sealed_a, F_present_a, F_hash_a, F_table_a, F_earlier_a, F_later_a⟩ := F_a
    have N7 := Fr.app N6 Nq
    refine own_go (U' := T7.setTop (mkF m 74 #[.val (.ref a), .val (.int (Int32.ofNat i)), .val (.int p2)] [])) st7 ?_
    refine own_go (U' := T7.setTop (mkF m 75 #[.val (.ref a), .val (.int (Int32.ofNat i)), .val (.int p2)] [(.ref a)])) (fun t k => XS.aloadN X7.here hx rfl (hb hby dad_74) rfl rfl k) ?_
    refine own_go (U' := T7.setTop (mkF m 76 #[.val (.ref a), .val (.int (Int32.ofNat i)), .val (.int p2)] [.null, (.ref a)])) (fun t k => XS.aconstNull X7.here hx rfl (hb hby dad_75) k) ?_
    obtain ⟨T8, h8, X8, e8, W8, st8⟩ := putF X7 hx hZ hown (host := "") (Or.inl (hw _ (List.mem_of_getElem? (i := 102) rfl))) Via.refl e7 F_table_a E_a (Or.inl (hw _ (List.mem_of_getElem? (i := 103) rfl))) (hw _ (List.mem_of_getElem? (i := 1) rfl)) (ty := (.object "com/example/obedient_dog/obedientdog/topologydiscovery/AgeTable")) (by decide) rfl rfl (g := (mkF m 76 #[.val (.ref a), .val (.int (Int32.ofNat i)), .val (.int p2)] [.null, (.ref a)])) rfl rfl (hb hby dad_76)
    have O := O.wr W8 g_a
    have K := K.wr W8 (Or.inl (List.mem_of_getElem? (i := 0) rfl))
    have E_a := E_a.wr W8
    have E_nu := E_nu.wr W8
    have F_hashes_nu := F_hashes_nu.other W8 (Or.inl (Ne.symm ne_a_nu))
    have V_ha := V_ha.other W8 (Ne.symm ne_a_ha)
    have F_links_nu := F_links_nu.other W8 (Or.inl (Ne.symm ne_a_nu))
    have E_al := E_al.wr W8
    have F_size_al := F_size_al.other W8 (Or.inl (Ne.symm ne_a_al))
    have V_la := V_la.other W8 (Ne.symm ne_a_la)
    have V_ra := V_ra.other W8 (Ne.symm ne_a_ra)
    have V_ga := V_ga.other W8 (Ne.symm ne_a_ga)
    have F_latest_a := F_latest_a.other W8 (Or.inr (slot_ne (Or.inl (hw _ (List.mem_of_getElem? (i := 64) rfl))) (Or.inl (hw _ (List.mem_of_getElem? (i := 103) rfl))) (by decide) (t := (.array .int)) (t' := (.object "com/example/obedient_dog/obedientdog/topologydiscovery/AgeTable")) (by decide) (by decide)))
    have F_raised_a := F_raised_a.other W8 (Or.inr (slot_ne (Or.inl (hw _ (List.mem_of_getElem? (i := 66) rfl))) (Or.inl (hw _ (List.mem_of_getElem? (i := 103) rfl))) (by decide) (t := (.array .int)) (t' := (.object "com/example/obedient_dog/obedientdog/topologydiscovery/AgeTable")) (by decide) (by decide)))
    have F_ages_a := F_ages_a.other W8 (Or.inr (slot_ne (Or.inl (hw _ (List.mem_of_getElem? (i := 68) rfl))) (Or.inl (hw _ (List.mem_of_getElem? (i := 103) rfl))) (by decide) (t := (.array .int)) (t' := (.object "com/example/obedient_dog/obedientdog/topologydiscovery/AgeTable")) (by decide) (by decide)))
    have F_numbers_a := F_numbers_a.other W8 (Or.inr (slot_ne (Or.inr (hw _ (List.mem_of_getElem? (i := 70) rfl))) (Or.inl (hw _ (List.mem_of_getElem? (i := 103) rfl))) (by decide) (t := (.object "com/example/obedient_dog/obedientdog/topologydiscovery/LinkNumbers")) (t' := (.object "com/example/obedient_dog/obedientdog/topologydiscovery/AgeTable")) (by decide) (by decide)))
    have F_entries_a := F_entries_a.other W8 (Or.inr (slot_ne (Or.inl (hw _ (List.mem_of_getElem? (i := 86) rfl))) (Or.inl (hw _ (List.mem_of_getElem? (i := 103) rfl))) (by decide) (t := .int) (t' := (.object "com/example/obedient_dog/obedientdog/topologydiscovery/AgeTable")) (by decide) (by decide)))
    have F_size_a := F_size_a.other W8 (Or.inr (slot_ne (Or.inl (hw _ (List.mem_of_getElem? (i := 88) rfl))) (Or.inl (hw _ (List.mem_of_getElem? (i := 103) rfl))) (by decide) (t := .int) (t' := (.object "com/example/obedient_dog/obedientdog/topologydiscovery/AgeTable")) (by decide) (by decide)))
    have F_sealed_a := F_sealed_a.other W8 (Or.inr (slot_ne (Or.inl (hw _ (List.mem_of_getElem? (i := 110) rfl))) (Or.inl (hw _ (List.mem_of_getElem? (i := 103) rfl))) (by decide) (t := .int) (t' := (.object "com/example/obedient_dog/obedientdog/topologydiscovery/AgeTable")) (by decide) (by decide)))
    have F_present_a := F_present_a.other W8 (Or.inr (slot_ne (Or.inl (hw _ (List.mem_of_getElem? (i := 94) rfl))) (Or.inl (hw _ (List.mem_of_getElem? (i := 103) rfl))) (by decide) (t := .int) (t' := (.object "com/example/obedient_dog/obedientdog/topologydiscovery/AgeTable")) (by decide) (by decide)))
    have F_hash_a := F_hash_a.other W8 (Or.inr (slot_ne (Or.inl (hw _ (List.mem_of_getElem? (i := 96) rfl))) (Or.inl (hw _ (List.mem_of_getElem? (i := 103) rfl))) (by decide) (t := .int) (t' := (.object "com/example/obedient_dog/obedientdog/topologydiscovery/AgeTable")) (by decide) (by decide)))
    have F_earlier_a := F_earlier_a.other W8 (Or.inr (slot_ne (Or.inl (hw _ (List.mem_of_getElem? (i := 170) rfl))) (Or.inl (hw _ (List.mem_of_getElem? (i := 103) rfl))) (by decide) (t := (.array .int)) (t' := (.object "com/example/obedient_dog/obedientdog/topologydiscovery/AgeTable")) (by decide) (by decide)))
    have F_later_a := F_later_a.other W8 (Or.inr (slot_ne (Or.inl (hw _ (List.mem_of_getElem? (i := 172) rfl))) (Or.inl (hw _ (List.mem_of_getElem? (i := 103) rfl))) (by decide) (t := (.array .int)) (t' := (.object "com/example/obedient_dog/obedientdog/topologydiscovery/AgeTable")) (by decide) (by decide)))
    have F_table_a := F_table_a.same W8
    have N8 := Fr.snoc X8 N7 g_a
    refine own_go (U' := T8.setTop (mkF m 79 #[.val (.ref a), .val (.int (Int32.ofNat i)), .val (.int p2)] [])) st8 ?_
    refine own_retV X8 hx hret hlk (hb hby dad_79) ?_ (by decide) (by decide)
    rw [e8, show own_grow lt i = lt from if_pos h1]
    rw [← List.map_set] at V_ga
    exact ⟨rfl, N8, O, ⟨la, ra, ga, _, _, _, _, _, _, _, _, _, _, ⟨E_a, F_latest_a, F_raised_a, F_ages_a, F_numbers_a, F_entries_a, F_size_a, F_sealed_a, F_present_a, F_hash_a, F_table_a, F_earlier_a, F_later_a⟩, V_la, V_ra, V_ga, (by rw [List.length_set]; exact h_ra), ⟨E_nu, F_hashes_nu, V_ha, F_links_nu, E_al, F_size_al⟩, (hcg.keep hw E_a0 K (Or.inl rfl)), rfl, ⟨ne_la_ra, ne_la_ga, ne_ra_ga, ne_ha_la, ne_ha_ra, ne_ha_ga⟩, ⟨g_a, g_la, g_ra, g_ga⟩⟩⟩
  · refine own_go (U' := T1.setTop (mkF m 9 #[.val (.ref a), .val (.int (Int32.ofNat i)), .val (.int p2)] [])) (fun t k => XS.icmpNo X1.here hx rfl (hb hby dad_6) rfl (flt h1).1 k) ?_
    have h1 : ¬ i < lt.length := fun q => h1 ((own_lt (by omega) (by omega)).mpr q)
    have hl8 : lt.length = 8 := by omega
    refine own_go (U' := T1.setTop (mkF m 10 #[.val (.ref a), .val (.int (Int32.ofNat i)), .val (.int p2)] [(.ref a)])) (fun t k => XS.aloadN X1.here hx rfl (hb hby dad_9) rfl rfl k) ?_
    refine own_go (U' := T1.setTop (mkF m 11 #[.val (.ref a), .val (.int (Int32.ofNat i)), .val (.int p2)] [(.ref a), (.ref a)])) (fun t k => XS.aloadN X1.here hx rfl (hb hby dad_10) rfl rfl k) ?_
    obtain ⟨T9, X9, e9, st9⟩ := getF X1 hx hZ hown (host := "") (Or.inl (hw _ (List.mem_of_getElem? (i := 63) rfl))) Via.refl e1 F_latest_a (g := (mkF m 11 #[.val (.ref a), .val (.int (Int32.ofNat i)), .val (.int p2)] [(.ref a), (.ref a)])) rfl rfl (hb hby dad_11)
    refine own_go (U' := T9.setTop (mkF m 14 #[.val (.ref a), .val (.int (Int32.ofNat i)), .val (.int p2)] [(.ref la), (.ref a)])) st9 ?_
    refine own_go (U' := T9.setTop (mkF m 15 #[.val (.ref a), .val (.int (Int32.ofNat i)), .val (.int p2)] [(.int (2 : Int32)), (.ref la), (.ref a)])) (fun t k => XS.iconst X9.here hx rfl (hb hby dad_14) k) ?_
    refine own_go (U' := T9.setTop (mkF m 16 #[.val (.ref a), .val (.int (Int32.ofNat i)), .val (.int p2)] [(.ref a), (.int (2 : Int32)), (.ref la), (.ref a)])) (fun t k => XS.aloadN X9.here hx rfl (hb hby dad_15) rfl rfl k) ?_
    obtain ⟨T10, X10, e10, st10⟩ := getF X9 hx hZ hown (host := "") (Or.inl (hw _ (List.mem_of_getElem? (i := 63) rfl))) Via.refl e9 F_latest_a (g := (mkF m 16 #[.val (.ref a), .val (.int (Int32.ofNat i)), .val (.int p2)] [(.ref a), (.int (2 : Int32)), (.ref la), (.ref a)])) rfl rfl (hb hby dad_16)
    refine own_go (U' := T10.setTop (mkF m 19 #[.val (.ref a), .val (.int (Int32.ofNat i)), .val (.int p2)] [(.ref la), (.int (2 : Int32)), (.ref la), (.ref a)])) st10 ?_
    refine own_go (U' := T10.setTop (mkF m 20 #[.val (.ref a), .val (.int (Int32.ofNat i)), .val (.int p2)] [(.int (8 : Int32)), (.int (2 : Int32)), (.ref la), (.ref a)])) (own_arrlen X10 hx hZ e10 V_la (n := (8 : Int32)) (by rw [List.length_map, hl8]; rfl) (g := (mkF m 19 #[.val (.ref a), .val (.int (Int32.ofNat i)), .val (.int p2)] [(.ref la), (.int (2 : Int32)), (.ref la), (.ref a)])) rfl rfl (hb hby dad_19)) ?_
    refine own_go (U' := T10.setTop (mkF m 21 #[.val (.ref a), .val (.int (Int32.ofNat i)), .val (.int p2)] [(.int (16 : Int32)), (.ref la), (.ref a)])) (fun t k => XS.imul X10.here hx rfl (hb hby dad_20) rfl k) ?_
    refine own_go (U' := T10.setTop (mkF m 22 #[.val (.ref a), .val (.int (Int32.ofNat i)), .val (.int p2)] [(.int (Int32.ofNat i)), (.int (16 : Int32)), (.ref la), (.ref a)])) (fun t k => XS.iloadN X10.here hx rfl (hb hby dad_21) rfl k) ?_
    refine own_go (U' := T10.setTop (mkF m 23 #[.val (.ref a), .val (.int (Int32.ofNat i)), .val (.int p2)] [(.int (1 : Int32)), (.int (Int32.ofNat i)), (.int (16 : Int32)), (.ref la), (.ref a)])) (fun t k => XS.iconst X10.here hx rfl (hb hby dad_22) k) ?_
    refine own_go (U' := T10.setTop (mkF m 24 #[.val (.ref a), .val (.int (Int32.ofNat i)), .val (.int p2)] [(.int ((Int32.ofNat i) + (1 : Int32))), (.int (16 : Int32)), (.ref la), (.ref a)])) (fun t k => XS.iadd X10.here hx rfl (hb hby dad_23) rfl k) ?_
    obtain ⟨v11, T11, h11, L11, e11, X11, hQ11, st11⟩ := own_callS X10 hx hZ (y := (⟨"java/lang/Math", "max", "(II)I"⟩ : MethodName)) hown (hw _ (List.mem_of_getElem? (i := 111) rfl)) (hw _ (List.mem_of_getElem? (i := 112) rfl)) (hw _ (List.mem_of_getElem? (i := 113) rfl)) (hw _ (List.mem_of_getElem? (i := 114) rfl)) (by decide) (own_rmmx l Z a0 hw 16 (Int32.ofNat i + (1 : Int32)) h0) (W := 2) (by decide) (by decide) (g := (mkF m 24 #[.val (.ref a), .val (.int (Int32.ofNat i)), .val (.int p2)] [(.int ((Int32.ofNat i) + (1 : Int32))), (.int (16 : Int32)), (.ref la), (.ref a)])) rfl (by rw [hml]; rfl) (argsL := [(.int (16 : Int32)), (.int ((Int32.ofNat i) + (1 : Int32)))]) (rest := [(.ref la), (.ref a)]) (lenOf own_pd2 rfl) rfl rfl (by show 2 * 0 + _ ≤ _; exact Nat.le_of_eq rfl) (hb hby dad_24) e10 (by decide) (by decide)
    have hmx : own_max (16 : Int32) (Int32.ofNat i + (1 : Int32)) = 16 := by
      have q16 : ¬ (16 : Int32) < Int32.ofNat (i + 1) := fun q => absurd ((own_lt (i := 16) (j := i + 1) (by omega) (by omega)).mp q) (by omega)
      rw [← own_succ, own_max, if_neg q16]
    rw [hmx] at hQ11
    obtain ⟨rfl, rfl, eh11⟩ := hQ11
    have e11 := e11.trans eh11
    rw [List.append_nil] at X11
    refine own_go (U' := T11.setTop (mkF m 27 #[.val (.ref a), .val (.int (Int32.ofNat i)), .val (.int p2)] [(.int (16 : Int32)), (.ref la), (.ref a)])) st11 ?_
    refine own_go (U' := T11.setTop (mkF m 28 #[.val (.ref a), .val (.int (Int32.ofNat i)), .val (.int p2)] [(.ref a), (.int (16 : Int32)), (.ref la), (.ref a)])) (fun t k => XS.aloadN X11.here hx rfl (hb hby dad_27) rfl rfl k) ?_
    obtain ⟨T12, X12, e12, st12⟩ := getF X11 hx hZ hown (host := "") (Or.inl (hw _ (List.mem_of_getElem? (i := 69) rfl))) Via.refl e11 F_numbers_a (g := (mkF m 28 #[.val (.ref a), .val (.int (Int32.ofNat i)), .val (.int p2)] [(.ref a), (.int (16 : Int32)), (.ref la), (.ref a)])) rfl rfl (hb hby dad_28)
    refine own_go (U' := T12.setTop (mkF m 31 #[.val (.ref a), .val (.int (Int32.ofNat i)), .val (.int p2)] [(.ref nu), (.int (16 : Int32)), (.ref la), (.ref a)])) st12 ?_
    obtain ⟨v13, T13, h13, L13, e13, X13, hQ13, st13⟩ := own_callV X12 hx hZ (y := (⟨"com/example/obedient_dog/obedientdog/topologydiscovery/LinkNumbers", "size", "()I"⟩ : MethodName)) (z := (⟨"com/example/obedient_dog/obedientdog/topologydiscovery/LinkNumbers", "size", "()I"⟩ : MethodName)) hown (hw _ (List.mem_of_getElem? (i := 115) rfl)) (hw _ (List.mem_of_getElem? (i := 116) rfl)) (notFace_of_selects (args := #[]) (mvT hZ (hw _ (List.mem_of_getElem? (i := 118) rfl)))) (hw _ (List.mem_of_getElem? (i := 118) rfl)) (hw _ (List.mem_of_getElem? (i := 117) rfl)) (hw _ (List.mem_of_getElem? (i := 5) rfl)) (hw _ (List.mem_of_getElem? (i := 119) rfl)) (by decide) E_nu (own_rmls l Z a0 hw nu h0 al F_links_nu E_al F_size_al) (W := 3) (by decide) (by decide) (g := (mkF m 31 #[.val (.ref a), .val (.int (Int32.ofNat i)), .val (.int p2)] [(.ref nu), (.int (16 : Int32)), (.ref la), (.ref a)])) rfl (by rw [hml]; rfl) (argsL := []) (rest := [(.int (16 : Int32)), (.ref la), (.ref a)]) (lenOf own_pd6 rfl) rfl rfl (by show 2 * 0 + _ ≤ _; exact Nat.le_of_eq rfl) (hb hby dad_31) e12 (by decide) (by decide)
    obtain ⟨rfl, rfl, eh13⟩ := hQ13
    have e13 := e13.trans eh13
    rw [List.append_nil] at X13
    refine own_go (U' := T13.setTop (mkF m 34 #[.val (.ref a), .val (.int (Int32.ofNat i)), .val (.int p2)] [(.int (0 : Int32)), (.int (16 : Int32)), (.ref la), (.ref a)])) st13 ?_
    obtain ⟨v14, T14, h14, L14, e14, X14, hQ14, st14⟩ := own_callS X13 hx hZ (y := (⟨"java/lang/Math", "max", "(II)I"⟩ : MethodName)) hown (hw _ (List.mem_of_getElem? (i := 111) rfl)) (hw _ (List.mem_of_getElem? (i := 112) rfl)) (hw _ (List.mem_of_getElem? (i := 113) rfl)) (hw _ (List.mem_of_getElem? (i := 114) rfl)) (by decide) (own_rmmx l Z a0 hw 16 0 h0) (W := 2) (by decide) (by decide) (g := (mkF m 34 #[.val (.ref a), .val (.int (Int32.ofNat i)), .val (.int p2)] [(.int (0 : Int32)), (.int (16 : Int32)), (.ref la), (.ref a)])) rfl (by rw [hml]; rfl) (argsL := [(.int (16 : Int32)), (.int (0 : Int32))]) (rest := [(.ref la), (.ref a)]) (lenOf own_pd2 rfl) rfl rfl (by show 2 * 0 + _ ≤ _; exact Nat.le_of_eq rfl) (hb hby dad_34) e13 (by decide) (by decide)
    rw [show own_max 16 0 = 16 from by decide] at hQ14
    obtain ⟨rfl, rfl, eh14⟩ := hQ14
    have e14 := e14.trans eh14
    rw [List.append_nil] at X14
    refine own_go (U' := T14.setTop (mkF m 37 #[.val (.ref a), .val (.int (Int32.ofNat i)), .val (.int p2)] [(.int (16 : Int32)), (.ref la), (.ref a)])) st14 ?_
    obtain ⟨v15, T15, h15, L15, e15, X15, hQ15, st15⟩ := own_callS X14 hx hZ (y := (⟨"java/util/Arrays", "copyOf", "([II)[I"⟩ : MethodName)) hown (hw _ (List.mem_of_getElem? (i := 131) rfl)) (hw _ (List.mem_of_getElem? (i := 132) rfl)) (hw _ (List.mem_of_getElem? (i := 133) rfl)) (hw _ (List.mem_of_getElem? (i := 134) rfl)) (by decide) (own_rmcy l Z a0 hw la h0 n0 O lt hl8 _ V_la) (W := 1) (by decide) (by decide) (g := (mkF m 37 #[.val (.ref a), .val (.int (Int32.ofNat i)), .val (.int p2)] [(.int (16 : Int32)), (.ref la), (.ref a)])) rfl (by rw [hml]; rfl) (argsL := [(.ref la), (.int (16 : Int32))]) (rest := [(.ref a)]) (lenOf own_pd7 rfl) rfl rfl (by show 2 * 0 + _ ≤ _; exact Nat.le_of_eq rfl) (hb hby dad_37) e14 (by decide) (by decide)
    obtain ⟨lb, kb, rfl, Nq, Kq, sz_lb, g_lb, V_lb⟩ := hQ15
    have ne_lb_ra : lb ≠ ra := Ne.symm (Nat.ne_of_lt (Nat.lt_of_lt_of_le V_ra.lt sz_lb))
    have ne_lb_ga : lb ≠ ga := Ne.symm (Nat.ne_of_lt (Nat.lt_of_lt_of_le V_ga.lt sz_lb))
    have ne_ha_lb : ha ≠ lb := Nat.ne_of_lt (Nat.lt_of_lt_of_le V_ha.lt sz_lb)
    have ne_a_lb : a ≠ lb := Nat.ne_of_lt (Nat.lt_of_lt_of_le E_a.lt sz_lb)
    have ne_nu_lb : nu ≠ lb := Nat.ne_of_lt (Nat.lt_of_lt_of_le E_nu.lt sz_lb)
    have ne_al_lb : al ≠ lb := Nat.ne_of_lt (Nat.lt_of_lt_of_le E_al.lt sz_lb)
    have sz_lb : h0.size ≤ lb := Nat.le_trans K.1 sz_lb
    have O := O.keep Kq all0
    have K := K.trans Kq all0
    have E_a := E_a.keep Kq
    have F_latest_a := F_latest_a.keep Kq nin0
    have F_raised_a := F_raised_a.keep Kq nin0
    have F_ages_a := F_ages_a.keep Kq nin0
    have F_numbers_a := F_numbers_a.keep Kq nin0
    have F_entries_a := F_entries_a.keep Kq nin0
    have F_size_a := F_size_a.keep Kq nin0
    have F_sealed_a := F_sealed_a.keep Kq nin0
    have F_present_a := F_present_a.keep Kq nin0
    have F_hash_a := F_hash_a.keep Kq nin0
    have F_table_a := F_table_a.keep Kq nin0
    have F_earlier_a := F_earlier_a.keep Kq nin0
    have F_later_a := F_later_a.keep Kq nin0
    have E_nu := E_nu.keep Kq
    have F_hashes_nu := F_hashes_nu.keep Kq nin0
    have V_ha := V_ha.keep Kq nin0
    have F_links_nu := F_links_nu.keep Kq nin0
    have E_al := E_al.keep Kq
    have F_size_al := F_size_al.keep Kq nin0
    have V_la := V_la.keep Kq nin0
    have V_ra := V_ra.keep Kq nin0
    have V_ga := V_ga.keep Kq nin0
    have N15 := Fr.app N0 Nq
    refine own_go (U' := T15.setTop (mkF m 40 #[.val (.ref a), .val (.int (Int32.ofNat i)), .val (.int p2)] [(.ref lb), (.ref a)])) st15 ?_
    obtain ⟨T16, h16, X16, e16, W16, st16⟩ := putF X15 hx hZ hown (host := "") (Or.inl (hw _ (List.mem_of_getElem? (i := 63) rfl))) Via.refl e15 F_latest_a E_a (Or.inl (hw _ (List.mem_of_getElem? (i := 64) rfl))) (hw _ (List.mem_of_getElem? (i := 1) rfl)) (ty := (.array .int)) (by decide) rfl rfl (g := (mkF m 40 #[.val (.ref a), .val (.int (Int32.ofNat i)), .val (.int p2)] [(.ref lb), (.ref a)])) rfl rfl (hb hby dad_40)
    have O := O.wr W16 g_a
    have K := K.wr W16 (Or.inl (List.mem_of_getElem? (i := 0) rfl))
    have E_a := E_a.wr W16
    have F_raised_a := F_raised_a.other W16 (Or.inr (slot_ne (Or.inl (hw _ (List.mem_of_getElem? (i := 66) rfl))) (Or.inl (hw _ (List.mem_of_getElem? (i := 64) rfl))) (by decide) (t := (.array .int)) (t' := (.array .int)) (by decide) (by decide)))
    have F_ages_a := F_ages_a.other W16 (Or.inr (slot_ne (Or.inl (hw _ (List.mem_of_getElem? (i := 68) rfl))) (Or.inl (hw _ (List.mem_of_getElem? (i := 64) rfl))) (by decide) (t := (.array .int)) (t' := (.array .int)) (by decide) (by decide)))
    have F_numbers_a := F_numbers_a.other W16 (Or.inr (slot_ne (Or.inr (hw _ (List.mem_of_getElem? (i := 70) rfl))) (Or.inl (hw _ (List.mem_of_getElem? (i := 64) rfl))) (by decide) (t := (.object "com/example/obedient_dog/obedientdog/topologydiscovery/LinkNumbers")) (t' := (.array .int)) (by decide) (by decide)))
    have F_entries_a := F_entries_a.other W16 (Or.inr (slot_ne (Or.inl (hw _ (List.mem_of_getElem? (i := 86) rfl))) (Or.inl (hw _ (List.mem_of_getElem? (i := 64) rfl))) (by decide) (t := .int) (t' := (.array .int)) (by decide) (by decide)))
    have F_size_a := F_size_a.other W16 (Or.inr (slot_ne (Or.inl (hw _ (List.mem_of_getElem? (i := 88) rfl))) (Or.inl (hw _ (List.mem_of_getElem? (i := 64) rfl))) (by decide) (t := .int) (t' := (.array .int)) (by decide) (by decide)))
    have F_sealed_a := F_sealed_a.other W16 (Or.inr (slot_ne (Or.inl (hw _ (List.mem_of_getElem? (i := 110) rfl))) (Or.inl (hw _ (List.mem_of_getElem? (i := 64) rfl))) (by decide) (t := .int) (t' := (.array .int)) (by decide) (by decide)))
    have F_present_a := F_present_a.other W16 (Or.inr (slot_ne (Or.inl (hw _ (List.mem_of_getElem? (i := 94) rfl))) (Or.inl (hw _ (List.mem_of_getElem? (i := 64) rfl))) (by decide) (t := .int) (t' := (.array .int)) (by decide) (by decide)))
    have F_hash_a := F_hash_a.other W16 (Or.inr (slot_ne (Or.inl (hw _ (List.mem_of_getElem? (i := 96) rfl))) (Or.inl (hw _ (List.mem_of_getElem? (i := 64) rfl))) (by decide) (t := .int) (t' := (.array .int)) (by decide) (by decide)))
    have F_table_a := F_table_a.other W16 (Or.inr (slot_ne (Or.inl (hw _ (List.mem_of_getElem? (i := 103) rfl))) (Or.inl (hw _ (List.mem_of_getElem? (i := 64) rfl))) (by decide) (t := (.object "com/example/obedient_dog/obedientdog/topologydiscovery/AgeTable")) (t' := (.array .int)) (by decide) (by decide)))
    have F_earlier_a := F_earlier_a.other W16 (Or.inr (slot_ne (Or.inl (hw _ (List.mem_of_getElem? (i := 170) rfl))) (Or.inl (hw _ (List.mem_of_getElem? (i := 64) rfl))) (by decide) (t := (.array .int)) (t' := (.array .int)) (by decide) (by decide)))
    have F_later_a := F_later_a.other W16 (Or.inr (slot_ne (Or.inl (hw _ (List.mem_of_getElem? (i := 172) rfl))) (Or.inl (hw _ (List.mem_of_getElem? (i := 64) rfl))) (by decide) (t := (.array .int)) (t' := (.array .int)) (by decide) (by decide)))
    have E_nu := E_nu.wr W16
    have F_hashes_nu := F_hashes_nu.other W16 (Or.inl (Ne.symm ne_a_nu))
    have V_ha := V_ha.other W16 (Ne.symm ne_a_ha)
    have F_links_nu := F_links_nu.other W16 (Or.inl (Ne.symm ne_a_nu))
    have E_al := E_al.wr W16
    have F_size_al := F_size_al.other W16 (Or.inl (Ne.symm ne_a_al))
    have V_ra := V_ra.other W16 (Ne.symm ne_a_ra)
    have V_ga := V_ga.other W16 (Ne.symm ne_a_ga)
    have V_lb := V_lb.other W16 (Ne.symm ne_a_lb)
    have F_latest_a := F_latest_a.same W16
    have N16 := Fr.snoc X16 N15 g_a
    refine own_go (U' := T16.setTop (mkF m 43 #[.val (.ref a), .val (.int (Int32.ofNat i)), .val (.int p2)] [])) st16 ?_
    refine own_go (U' := T16.setTop (mkF m 44 #[.val (.ref a), .val (.int (Int32.ofNat i)), .val (.int p2)] [(.ref a)])) (fun t k => XS.aloadN X16.here hx rfl (hb hby dad_43) rfl rfl k) ?_
    obtain ⟨T17, X17, e17, st17⟩ := getF X16 hx hZ hown (host := "") (Or.inl (hw _ (List.mem_of_getElem? (i := 63) rfl))) Via.refl e16 F_latest_a (g := (mkF m 44 #[.val (.ref a), .val (.int (Int32.ofNat i)), .val (.int p2)] [(.ref a)])) rfl rfl (hb hby dad_44)
    refine own_go (U' := T17.setTop (mkF m 47 #[.val (.ref a), .val (.int (Int32.ofNat i)), .val (.int p2)] [(.ref lb)])) st17 ?_
    refine own_go (U' := T17.setTop (mkF m 48 #[.val (.ref a), .val (.int (Int32.ofNat i)), .val (.int p2)] [(.int (Int32.ofNat i)), (.ref lb)])) (fun t k => XS.iloadN X17.here hx rfl (hb hby dad_47) rfl k) ?_
    refine own_go (U' := T17.setTop (mkF m 49 #[.val (.ref a), .val (.int (Int32.ofNat i)), .val (.int p2)] [(.ref a), (.int (Int32.ofNat i)), (.ref lb)])) (fun t k => XS.aloadN X17.here hx rfl (hb hby dad_48) rfl rfl k) ?_
    refine own_go (U' := T17.setTop (mkF m 50 #[.val (.ref a), .val (.int (Int32.ofNat i)), .val (.int p2)] [(.int (Int32.ofNat i)), (.ref a), (.int (Int32.ofNat i)), (.ref lb)])) (fun t k => XS.iloadN X17.here hx rfl (hb hby dad_49) rfl k) ?_
    refine own_go (U' := T17.setTop (mkF m 51 #[.val (.ref a), .val (.int (Int32.ofNat i)), .val (.int p2)] [(.int p2), (.int (Int32.ofNat i)), (.ref a), (.int (Int32.ofNat i)), (.ref lb)])) (fun t k => XS.iloadN X17.here hx rfl (hb hby dad_50) rfl k) ?_
    obtain ⟨v18, T18, h18, L18, e18, X18, hQ18, st18⟩ := own_callP X17 hx hZ (y := (⟨"com/example/obedient_dog/obedientdog/topologydiscovery/AgeLog", "append", "(II)I"⟩ : MethodName)) hown (hw _ (List.mem_of_getElem? (i := 81) rfl)) (hw _ (List.mem_of_getElem? (i := 82) rfl)) (own_selP (y0 := (⟨"com/example/obedient_dog/obedientdog/topologydiscovery/AgeLog", "raise", "(II)Z"⟩ : MethodName)) (hw _ (List.mem_of_getElem? (i := 74) rfl)) rfl (hw _ (List.mem_of_getElem? (i := 83) rfl)) (hw _ (List.mem_of_getElem? (i := 82) rfl)) (by decide)) (hw _ (List.mem_of_getElem? (i := 83) rfl)) (hw _ (List.mem_of_getElem? (i := 2) rfl)) (hw _ (List.mem_of_getElem? (i := 84) rfl)) (by decide) E_a (own_rmap l Z a0 hw a (Int32.ofNat i) p2 h16 n0 g_a lb ra ga nu ha kh (Int32.ofNat en) sz (Int32.ofNat se) pr hs tb ea lr htb hea hlr en hen rfl _ _ kr kg g_ra g_ga ne_ra_ga ⟨E_a, F_latest_a, F_raised_a, F_ages_a, F_numbers_a, F_entries_a, F_size_a, F_sealed_a, F_present_a, F_hash_a, F_table_a, F_earlier_a, F_later_a⟩ V_ra h_ra V_ga h_ga) (W := 2) (by decide) (by decide) (g := (mkF m 51 #[.val (.ref a), .val (.int (Int32.ofNat i)), .val (.int p2)] [(.int p2), (.int (Int32.ofNat i)), (.ref a), (.int (Int32.ofNat i)), (.ref lb)])) rfl (by rw [hml]; rfl) (argsL := [(.int (Int32.ofNat i)), (.int p2)]) (rest := [(.int (Int32.ofNat i)), (.ref lb)]) (lenOf own_pd2 rfl) rfl rfl (by show 2 * 0 + _ ≤ _; exact Nat.le_of_eq rfl) (hb hby dad_51) e17 (by decide) (by decide)
    obtain ⟨rfl, Nq, Kq, F_a, V_ra, V_ga⟩ := hQ18
    have O := O.keep Kq (allS g_a (allS g_ra (allS g_ga all0)))
    have K := K.trans Kq (allS (Or.inl (List.mem_of_getElem? (i := 0) rfl)) (allS (Or.inl (List.mem_of_getElem? (i := 2) rfl)) (allS (Or.inl (List.mem_of_getElem? (i := 3) rfl)) all0)))
    have E_a := E_a.keep Kq
    have E_nu := E_nu.keep Kq
    have F_hashes_nu := F_hashes_nu.keep Kq (ninS (Ne.symm ne_a_nu) (ninS ne_nu_ra (ninS ne_nu_ga nin0)))
    have V_ha := V_ha.keep Kq (ninS (Ne.symm ne_a_ha) (ninS ne_ha_ra (ninS ne_ha_ga nin0)))
    have F_links_nu := F_links_nu.keep Kq (ninS (Ne.symm ne_a_nu) (ninS ne_nu_ra (ninS ne_nu_ga nin0)))
    have E_al := E_al.keep Kq
    have F_size_al := F_size_al.keep Kq (ninS (Ne.symm ne_a_al) (ninS ne_al_ra (ninS ne_al_ga nin0)))
    have V_lb := V_lb.keep Kq (ninS (Ne.symm ne_a_lb) (ninS ne_lb_ra (ninS ne_lb_ga nin0)))
    obtain ⟨E_a, F_latest_a, F_raised_a, F_ages_a, F_numbers_a, F_entries_a, F_size_a, F_sealed_a, F_present_a, F_hash_a, F_table_a, F_earlier_a, F_later_a⟩ := F_a
    have N18 := Fr.app N16 Nq
    refine own_go (U' := T18.setTop (mkF m 54 #[.val (.ref a), .val (.int (Int32.ofNat i)), .val (.int p2)] [(.int (Int32.ofNat en)), (.int (Int32.ofNat i)), (.ref lb)])) st18 ?_
    refine own_go (U' := T18.setTop (mkF m 55 #[.val (.ref a), .val (.int (Int32.ofNat i)), .val (.int p2)] [(.int (1 : Int32)), (.int (Int32.ofNat en)), (.int (Int32.ofNat i)), (.ref lb)])) (fun t k => XS.iconst X18.here hx rfl (hb hby dad_54) k) ?_
    refine own_go (U' := T18.setTop (mkF m 56 #[.val (.ref a), .val (.int (Int32.ofNat i)), .val (.int p2)] [(.int ((Int32.ofNat en) + (1 : Int32))), (.int (Int32.ofNat i)), (.ref lb)])) (fun t k => XS.iadd X18.here hx rfl (hb hby dad_55) rfl k) ?_
    rw [← own_succ]
    obtain ⟨T19, h19, X19, e19, W19, A19, st19⟩ := own_iastore X18 hx hZ e18 V_lb (j := (Int32.ofNat i)) oi.1 (i := i) oi.2.1 (by rw [List.length_map]; exact (by rw [List.length_append, List.length_replicate]; omega)) (g := (mkF m 56 #[.val (.ref a), .val (.int (Int32.ofNat i)), .val (.int p2)] [(.int (Int32.ofNat (en + 1))), (.int (Int32.ofNat i)), (.ref lb)])) rfl rfl (hb hby dad_56)
    have O := O.wr W19 g_lb
    have K := K.wr W19 (Or.inr sz_lb)
    have E_a := E_a.wr W19
    have E_nu := E_nu.wr W19
    have F_hashes_nu := F_hashes_nu.other W19 (Or.inl ne_nu_lb)
    have V_ha := V_ha.other W19 ne_ha_lb
    have F_links_nu := F_links_nu.other W19 (Or.inl ne_nu_lb)
    have E_al := E_al.wr W19
    have F_size_al := F_size_al.other W19 (Or.inl ne_al_lb)
    have F_latest_a := F_latest_a.other W19 (Or.inl ne_a_lb)
    have F_raised_a := F_raised_a.other W19 (Or.inl ne_a_lb)
    have F_ages_a := F_ages_a.other W19 (Or.inl ne_a_lb)
    have F_numbers_a := F_numbers_a.other W19 (Or.inl ne_a_lb)
    have F_entries_a := F_entries_a.other W19 (Or.inl ne_a_lb)
    have F_size_a := F_size_a.other W19 (Or.inl ne_a_lb)
    have F_sealed_a := F_sealed_a.other W19 (Or.inl ne_a_lb)
    have F_present_a := F_present_a.other W19 (Or.inl ne_a_lb)
    have F_hash_a := F_hash_a.other W19 (Or.inl ne_a_lb)
    have F_table_a := F_table_a.other W19 (Or.inl ne_a_lb)
    have F_earlier_a := F_earlier_a.other W19 (Or.inl ne_a_lb)
    have F_later_a := F_later_a.other W19 (Or.inl ne_a_lb)
    have V_ra := V_ra.other W19 (Ne.symm ne_lb_ra)
    have V_ga := V_ga.other W19 (Ne.symm ne_lb_ga)
    have V_lb : own_Ar Z h19 lb kb .int (own_is ((lt ++ List.replicate 8 0).set i (en + 1))) := ((own_is_set _ _ _) : ((own_is (lt ++ List.replicate 8 0))).set (i) (.int (Int32.ofNat (en + 1))) = (own_is ((lt ++ List.replicate 8 0).set i (en + 1)))) ▸ A19
    have N19 := Fr.snoc X19 N18 g_lb
    refine own_go (U' := T19.setTop (mkF m 57 #[.val (.ref a), .val (.int (Int32.ofNat i)), .val (.int p2)] [])) st19 ?_
    refine own_go (U' := T19.setTop (mkF m 58 #[.val (.ref a), .val (.int (Int32.ofNat i)), .val (.int p2)] [(.ref a)])) (fun t k => XS.aloadN X19.here hx rfl (hb hby dad_57) rfl rfl k) ?_
    refine own_go (U' := T19.setTop (mkF m 59 #[.val (.ref a), .val (.int (Int32.ofNat i)), .val (.int p2)] [(.ref a), (.ref a)])) (fun t k => XS.dup X19.here hx rfl (hb hby dad_58) rfl rfl k) ?_
    obtain ⟨T20, X20, e20, st20⟩ := getF X19 hx hZ hown (host := "") (Or.inl (hw _ (List.mem_of_getElem? (i := 87) rfl))) Via.refl e19 F_size_a (g := (mkF m 59 #[.val (.ref a), .val (.int (Int32.ofNat i)), .val (.int p2)] [(.ref a), (.ref a)])) rfl rfl (hb hby dad_59)
    refine own_go (U' := T20.setTop (mkF m 62 #[.val (.ref a), .val (.int (Int32.ofNat i)), .val (.int p2)] [(.int sz), (.ref a)])) st20 ?_
    refine own_go (U' := T20.setTop (mkF m 63 #[.val (.ref a), .val (.int (Int32.ofNat i)), .val (.int p2)] [(.int (1 : Int32)), (.int sz), (.ref a)])) (fun t k => XS.iconst X20.here hx rfl (hb hby dad_62) k) ?_
    refine own_go (U' := T20.setTop (mkF m 64 #[.val (.ref a), .val (.int (Int32.ofNat i)), .val (.int p2)] [(.int (sz + (1 : Int32))), (.ref a)])) (fun t k => XS.iadd X20.here hx rfl (hb hby dad_63) rfl k) ?_
    obtain ⟨T21, h21, X21, e21, W21, st21⟩ := putF X20 hx hZ hown (host := "") (Or.inl (hw _ (List.mem_of_getElem? (i := 87) rfl))) Via.refl e20 F_size_a E_a (Or.inl (hw _ (List.mem_of_getElem? (i := 88) rfl))) (hw _ (List.mem_of_getElem? (i := 1) rfl)) (ty := .int) (by decide) rfl rfl (g := (mkF m 64 #[.val (.ref a), .val (.int (Int32.ofNat i)), .val (.int p2)] [(.int (sz + (1 : Int32))), (.ref a)])) rfl rfl (hb hby dad_64)
    have O := O.wr W21 g_a
    have K := K.wr W21 (Or.inl (List.mem_of_getElem? (i := 0) rfl))
    have E_a := E_a.wr W21
    have E_nu := E_nu.wr W21
    have F_hashes_nu := F_hashes_nu.other W21 (Or.inl (Ne.symm ne_a_nu))
    have V_ha := V_ha.other W21 (Ne.symm ne_a_ha)
    have F_links_nu := F_links_nu.other W21 (Or.inl (Ne.symm ne_a_nu))
    have E_al := E_al.wr W21
    have F_size_al := F_size_al.other W21 (Or.inl (Ne.symm ne_a_al))
    have V_lb := V_lb.other W21 (Ne.symm ne_a_lb)
    have F_latest_a := F_latest_a.other W21 (Or.inr (slot_ne (Or.inl (hw _ (List.mem_of_getElem? (i := 64) rfl))) (Or.inl (hw _ (List.mem_of_getElem? (i := 88) rfl))) (by decide) (t := (.array .int)) (t' := .int) (by decide) (by decide)))
    have F_raised_a := F_raised_a.other W21 (Or.inr (slot_ne (Or.inl (hw _ (List.mem_of_getElem? (i := 66) rfl))) (Or.inl (hw _ (List.mem_of_getElem? (i := 88) rfl))) (by decide) (t := (.array .int)) (t' := .int) (by decide) (by decide)))
    have F_ages_a := F_ages_a.other W21 (Or.inr (slot_ne (Or.inl (hw _ (List.mem_of_getElem? (i := 68) rfl))) (Or.inl (hw _ (List.mem_of_getElem? (i := 88) rfl))) (by decide) (t := (.array .int)) (t' := .int) (by decide) (by decide)))
    have F_numbers_a := F_numbers_a.other W21 (Or.inr (slot_ne (Or.inr (hw _ (List.mem_of_getElem? (i := 70) rfl))) (Or.inl (hw _ (List.mem_of_getElem? (i := 88) rfl))) (by decide) (t := (.object "com/example/obedient_dog/obedientdog/topologydiscovery/LinkNumbers")) (t' := .int) (by decide) (by decide)))
    have F_entries_a := F_entries_a.other W21 (Or.inr (slot_ne (Or.inl (hw _ (List.mem_of_getElem? (i := 86) rfl))) (Or.inl (hw _ (List.mem_of_getElem? (i := 88) rfl))) (by decide) (t := .int) (t' := .int) (by decide) (by decide)))
    have F_sealed_a := F_sealed_a.other W21 (Or.inr (slot_ne (Or.inl (hw _ (List.mem_of_getElem? (i := 110) rfl))) (Or.inl (hw _ (List.mem_of_getElem? (i := 88) rfl))) (by decide) (t := .int) (t' := .int) (by decide) (by decide)))
    have F_present_a := F_present_a.other W21 (Or.inr (slot_ne (Or.inl (hw _ (List.mem_of_getElem? (i := 94) rfl))) (Or.inl (hw _ (List.mem_of_getElem? (i := 88) rfl))) (by decide) (t := .int) (t' := .int) (by decide) (by decide)))
    have F_hash_a := F_hash_a.other W21 (Or.inr (slot_ne (Or.inl (hw _ (List.mem_of_getElem? (i := 96) rfl))) (Or.inl (hw _ (List.mem_of_getElem? (i := 88) rfl))) (by decide) (t := .int) (t' := .int) (by decide) (by decide)))
    have F_table_a := F_table_a.other W21 (Or.inr (slot_ne (Or.inl (hw _ (List.mem_of_getElem? (i := 103) rfl))) (Or.inl (hw _ (List.mem_of_getElem? (i := 88) rfl))) (by decide) (t := (.object "com/example/obedient_dog/obedientdog/topologydiscovery/AgeTable")) (t' := .int) (by decide) (by decide)))
    have F_earlier_a := F_earlier_a.other W21 (Or.inr (slot_ne (Or.inl (hw _ (List.mem_of_getElem? (i := 170) rfl))) (Or.inl (hw _ (List.mem_of_getElem? (i := 88) rfl))) (by decide) (t := (.array .int)) (t' := .int) (by decide) (by decide)))
    have F_later_a := F_later_a.other W21 (Or.inr (slot_ne (Or.inl (hw _ (List.mem_of_getElem? (i := 172) rfl))) (Or.inl (hw _ (List.mem_of_getElem? (i := 88) rfl))) (by decide) (t := (.array .int)) (t' := .int) (by decide) (by decide)))
    have V_ra := V_ra.other W21 (Ne.symm ne_a_ra)
    have V_ga := V_ga.other W21 (Ne.symm ne_a_ga)
    have F_size_a := F_size_a.same W21
    have N21 := Fr.snoc X21 N19 g_a
    refine own_go (U' := T21.setTop (mkF m 67 #[.val (.ref a), .val (.int (Int32.ofNat i)), .val (.int p2)] [])) st21 ?_
    refine own_go (U' := T21.setTop (mkF m 68 #[.val (.ref a), .val (.int (Int32.ofNat i)), .val (.int p2)] [(.ref a)])) (fun t k => XS.aloadN X21.here hx rfl (hb hby dad_67) rfl rfl k) ?_
    refine own_go (U' := T21.setTop (mkF m 69 #[.val (.ref a), .val (.int (Int32.ofNat i)), .val (.int p2)] [(.int (Int32.ofNat i)), (.ref a)])) (fun t k => XS.iloadN X21.here hx rfl (hb hby dad_68) rfl k) ?_
    refine own_go (U' := T21.setTop (mkF m 70 #[.val (.ref a), .val (.int (Int32.ofNat i)), .val (.int p2)] [(.int p2), (.int (Int32.ofNat i)), (.ref a)])) (fun t k => XS.iloadN X21.here hx rfl (hb hby dad_69) rfl k) ?_
    refine own_go (U' := T21.setTop (mkF m 71 #[.val (.ref a), .val (.int (Int32.ofNat i)), .val (.int p2)] [(.int (1 : Int32)), (.int p2), (.int (Int32.ofNat i)), (.ref a)])) (fun t k => XS.iconst X21.here hx rfl (hb hby dad_70) k) ?_
    obtain ⟨v22, T22, h22, L22, e22, X22, hQ22, st22⟩ := own_callP X21 hx hZ (y := (⟨"com/example/obedient_dog/obedientdog/topologydiscovery/AgeLog", "count", "(III)V"⟩ : MethodName)) hown (hw _ (List.mem_of_getElem? (i := 89) rfl)) (hw _ (List.mem_of_getElem? (i := 90) rfl)) (own_selP (y0 := (⟨"com/example/obedient_dog/obedientdog/topologydiscovery/AgeLog", "raise", "(II)Z"⟩ : MethodName)) (hw _ (List.mem_of_getElem? (i := 74) rfl)) rfl (hw _ (List.mem_of_getElem? (i := 91) rfl)) (hw _ (List.mem_of_getElem? (i := 90) rfl)) (by decide)) (hw _ (List.mem_of_getElem? (i := 91) rfl)) (hw _ (List.mem_of_getElem? (i := 2) rfl)) (hw _ (List.mem_of_getElem? (i := 92) rfl)) (by decide) E_a (own_rmct l Z a0 hw a (Int32.ofNat i) p2 1 h21 n0 g_a lb ra ga nu ha kh _ _ _ _ _ _ _ _ htb hea hlr i hi rfl ⟨E_a, F_latest_a, F_raised_a, F_ages_a, F_numbers_a, F_entries_a, F_size_a, F_sealed_a, F_present_a, F_hash_a, F_table_a, F_earlier_a, F_later_a⟩ E_nu F_hashes_nu V_ha) (W := 0) (by decide) (by decide) (g := (mkF m 71 #[.val (.ref a), .val (.int (Int32.ofNat i)), .val (.int p2)] [(.int (1 : Int32)), (.int p2), (.int (Int32.ofNat i)), (.ref a)])) rfl (by rw [hml]; rfl) (argsL := [(.int (Int32.ofNat i)), (.int p2), (.int (1 : Int32))]) (rest := []) (lenOf own_pd1 rfl) rfl rfl (by show 2 * 0 + _ ≤ _; exact Nat.le_of_eq rfl) (hb hby dad_71) e21 (by decide) (by decide)
    obtain ⟨rfl, Nq, Kq, pr2, hs2, F_a⟩ := hQ22
    have O := O.keep Kq (allS g_a all0)
    have K := K.trans Kq (allS (Or.inl (List.mem_of_getElem? (i := 0) rfl)) all0)
    have E_a := E_a.keep Kq
    have E_nu := E_nu.keep Kq
    have F_hashes_nu := F_hashes_nu.keep Kq (ninS (Ne.symm ne_a_nu) nin0)
    have V_ha := V_ha.keep Kq (ninS (Ne.symm ne_a_ha) nin0)
    have F_links_nu := F_links_nu.keep Kq (ninS (Ne.symm ne_a_nu) nin0)
    have E_al := E_al.keep Kq
    have F_size_al := F_size_al.keep Kq (ninS (Ne.symm ne_a_al) nin0)
    have V_lb := V_lb.keep Kq (ninS (Ne.symm ne_a_lb) nin0)
    have V_ra := V_ra.keep Kq (ninS (Ne.symm ne_a_ra) nin0)
    have V_ga := V_ga.keep Kq (ninS (Ne.symm ne_a_ga) nin0)
    obtain ⟨E_a, F_latest_a, F_raised_a, F_ages_a, F_numbers_a, F_entries_a, F_size_a, F_sealed_a, F_present_a, F_hash_a, F_table_a, F_earlier_a, F_later_a⟩ := F_a
    have N22 := Fr.app N21 Nq
    refine own_go (U' := T22.setTop (mkF m 74 #[.val (.ref a), .val (.int (Int32.ofNat i)), .val (.int p2)] [])) st22 ?_
    refine own_go (U' := T22.setTop (mkF m 75 #[.val (.ref a), .val (.int (Int32.ofNat i)), .val (.int p2)] [(.ref a)])) (fun t k => XS.aloadN X22.here hx rfl (hb hby dad_74) rfl rfl k) ?_
    refine own_go (U' := T22.setTop (mkF m 76 #[.val (.ref a), .val (.int (Int32.ofNat i)), .val (.int p2)] [.null, (.ref a)])) (fun t k => XS.aconstNull X22.here hx rfl (hb hby dad_75) k) ?_
    obtain ⟨T23, h23, X23, e23, W23, st23⟩ := putF X22 hx hZ hown (host := "") (Or.inl (hw _ (List.mem_of_getElem? (i := 102) rfl))) Via.refl e22 F_table_a E_a (Or.inl (hw _ (List.mem_of_getElem? (i := 103) rfl))) (hw _ (List.mem_of_getElem? (i := 1) rfl)) (ty := (.object "com/example/obedient_dog/obedientdog/topologydiscovery/AgeTable")) (by decide) rfl rfl (g := (mkF m 76 #[.val (.ref a), .val (.int (Int32.ofNat i)), .val (.int p2)] [.null, (.ref a)])) rfl rfl (hb hby dad_76)
    have O := O.wr W23 g_a
    have K := K.wr W23 (Or.inl (List.mem_of_getElem? (i := 0) rfl))
    have E_a := E_a.wr W23
    have E_nu := E_nu.wr W23
    have F_hashes_nu := F_hashes_nu.other W23 (Or.inl (Ne.symm ne_a_nu))
    have V_ha := V_ha.other W23 (Ne.symm ne_a_ha)
    have F_links_nu := F_links_nu.other W23 (Or.inl (Ne.symm ne_a_nu))
    have E_al := E_al.wr W23
    have F_size_al := F_size_al.other W23 (Or.inl (Ne.symm ne_a_al))
    have V_lb := V_lb.other W23 (Ne.symm ne_a_lb)
    have V_ra := V_ra.other W23 (Ne.symm ne_a_ra)
    have V_ga := V_ga.other W23 (Ne.symm ne_a_ga)
    have F_latest_a := F_latest_a.other W23 (Or.inr (slot_ne (Or.inl (hw _ (List.mem_of_getElem? (i := 64) rfl))) (Or.inl (hw _ (List.mem_of_getElem? (i := 103) rfl))) (by decide) (t := (.array .int)) (t' := (.object "com/example/obedient_dog/obedientdog/topologydiscovery/AgeTable")) (by decide) (by decide)))
    have F_raised_a := F_raised_a.other W23 (Or.inr (slot_ne (Or.inl (hw _ (List.mem_of_getElem? (i := 66) rfl))) (Or.inl (hw _ (List.mem_of_getElem? (i := 103) rfl))) (by decide) (t := (.array .int)) (t' := (.object "com/example/obedient_dog/obedientdog/topologydiscovery/AgeTable")) (by decide) (by decide)))
    have F_ages_a := F_ages_a.other W23 (Or.inr (slot_ne (Or.inl (hw _ (List.mem_of_getElem? (i := 68) rfl))) (Or.inl (hw _ (List.mem_of_getElem? (i := 103) rfl))) (by decide) (t := (.array .int)) (t' := (.object "com/example/obedient_dog/obedientdog/topologydiscovery/AgeTable")) (by decide) (by decide)))
    have F_numbers_a := F_numbers_a.other W23 (Or.inr (slot_ne (Or.inr (hw _ (List.mem_of_getElem? (i := 70) rfl))) (Or.inl (hw _ (List.mem_of_getElem? (i := 103) rfl))) (by decide) (t := (.object "com/example/obedient_dog/obedientdog/topologydiscovery/LinkNumbers")) (t' := (.object "com/example/obedient_dog/obedientdog/topologydiscovery/AgeTable")) (by decide) (by decide)))
    have F_entries_a := F_entries_a.other W23 (Or.inr (slot_ne (Or.inl (hw _ (List.mem_of_getElem? (i := 86) rfl))) (Or.inl (hw _ (List.mem_of_getElem? (i := 103) rfl))) (by decide) (t := .int) (t' := (.object "com/example/obedient_dog/obedientdog/topologydiscovery/AgeTable")) (by decide) (by decide)))
    have F_size_a := F_size_a.other W23 (Or.inr (slot_ne (Or.inl (hw _ (List.mem_of_getElem? (i := 88) rfl))) (Or.inl (hw _ (List.mem_of_getElem? (i := 103) rfl))) (by decide) (t := .int) (t' := (.object "com/example/obedient_dog/obedientdog/topologydiscovery/AgeTable")) (by decide) (by decide)))
    have F_sealed_a := F_sealed_a.other W23 (Or.inr (slot_ne (Or.inl (hw _ (List.mem_of_getElem? (i := 110) rfl))) (Or.inl (hw _ (List.mem_of_getElem? (i := 103) rfl))) (by decide) (t := .int) (t' := (.object "com/example/obedient_dog/obedientdog/topologydiscovery/AgeTable")) (by decide) (by decide)))
    have F_present_a := F_present_a.other W23 (Or.inr (slot_ne (Or.inl (hw _ (List.mem_of_getElem? (i := 94) rfl))) (Or.inl (hw _ (List.mem_of_getElem? (i := 103) rfl))) (by decide) (t := .int) (t' := (.object "com/example/obedient_dog/obedientdog/topologydiscovery/AgeTable")) (by decide) (by decide)))
    have F_hash_a := F_hash_a.other W23 (Or.inr (slot_ne (Or.inl (hw _ (List.mem_of_getElem? (i := 96) rfl))) (Or.inl (hw _ (List.mem_of_getElem? (i := 103) rfl))) (by decide) (t := .int) (t' := (.object "com/example/obedient_dog/obedientdog/topologydiscovery/AgeTable")) (by decide) (by decide)))
    have F_earlier_a := F_earlier_a.other W23 (Or.inr (slot_ne (Or.inl (hw _ (List.mem_of_getElem? (i := 170) rfl))) (Or.inl (hw _ (List.mem_of_getElem? (i := 103) rfl))) (by decide) (t := (.array .int)) (t' := (.object "com/example/obedient_dog/obedientdog/topologydiscovery/AgeTable")) (by decide) (by decide)))
    have F_later_a := F_later_a.other W23 (Or.inr (slot_ne (Or.inl (hw _ (List.mem_of_getElem? (i := 172) rfl))) (Or.inl (hw _ (List.mem_of_getElem? (i := 103) rfl))) (by decide) (t := (.array .int)) (t' := (.object "com/example/obedient_dog/obedientdog/topologydiscovery/AgeTable")) (by decide) (by decide)))
    have F_table_a := F_table_a.same W23
    have N23 := Fr.snoc X23 N22 g_a
    refine own_go (U' := T23.setTop (mkF m 79 #[.val (.ref a), .val (.int (Int32.ofNat i)), .val (.int p2)] [])) st23 ?_
    refine own_retV X23 hx hret hlk (hb hby dad_79) ?_ (by decide) (by decide)
    rw [e23, show own_grow lt i = lt ++ List.replicate 8 0 from if_neg h1]
    rw [← List.map_set] at V_ga
    exact ⟨rfl, N23, O, ⟨lb, ra, ga, _, _, _, _, _, _, _, _, _, _, ⟨E_a, F_latest_a, F_raised_a, F_ages_a, F_numbers_a, F_entries_a, F_size_a, F_sealed_a, F_present_a, F_hash_a, F_table_a, F_earlier_a, F_later_a⟩, V_lb, V_ra, V_ga, (by rw [List.length_set]; exact h_ra), ⟨E_nu, F_hashes_nu, V_ha, F_links_nu, E_al, F_size_al⟩, (hcg.keep hw E_a0 K (Or.inr sz_lb)), rfl, ⟨ne_lb_ra, ne_lb_ga, ne_ra_ga, ne_ha_lb, ne_ha_ra, ne_ha_ga⟩, ⟨g_a, g_lb, g_ra, g_ga⟩⟩⟩
theorem dr2_0 : decode prog_39_method_6_code 0 = .ok (.iload_n 1, 1) := by decide +kernel
theorem dr2_1 : decode prog_39_method_6_code 1 = .ok (.aload_n 0, 1) := by decide +kernel
theorem dr2_2 : decode prog_39_method_6_code 2 = .ok (.getfield 9, 3) := by decide +kernel
theorem dr2_5 : decode prog_39_method_6_code 5 = .ok (.arraylength, 1) := by decide +kernel
theorem dr2_6 : decode prog_39_method_6_code 6 = .ok (.if_icmp .ge 14, 3) := by decide +kernel
theorem dr2_9 : decode prog_39_method_6_code 9 = .ok (.aload_n 0, 1) := by decide +kernel
theorem dr2_10 : decode prog_39_method_6_code 10 = .ok (.getfield 9, 3) := by decide +kernel
theorem dr2_13 : decode prog_39_method_6_code 13 = .ok (.iload_n 1, 1) := by decide +kernel
theorem dr2_14 : decode prog_39_method_6_code 14 = .ok (.iaload, 1) := by decide +kernel
theorem dr2_15 : decode prog_39_method_6_code 15 = .ok (.iconst 1, 1) := by decide +kernel
theorem dr2_16 : decode prog_39_method_6_code 16 = .ok (.isub, 1) := by decide +kernel
theorem dr2_17 : decode prog_39_method_6_code 17 = .ok (.goto 4, 3) := by decide +kernel
theorem dr2_20 : decode prog_39_method_6_code 20 = .ok (.iconst (-1), 1) := by decide +kernel
theorem dr2_21 : decode prog_39_method_6_code 21 = .ok (.istore_n 3, 1) := by decide +kernel
theorem dr2_22 : decode prog_39_method_6_code 22 = .ok (.iload_n 3, 1) := by decide +kernel
theorem dr2_23 : decode prog_39_method_6_code 23 = .ok (.ifCond .ge 7, 3) := by decide +kernel
theorem dr2_26 : decode prog_39_method_6_code 26 = .ok (.iconst (-1), 1) := by decide +kernel
theorem dr2_27 : decode prog_39_method_6_code 27 = .ok (.goto 9, 3) := by decide +kernel
theorem dr2_30 : decode prog_39_method_6_code 30 = .ok (.aload_n 0, 1) := by decide +kernel
theorem dr2_31 : decode prog_39_method_6_code 31 = .ok (.getfield 16, 3) := by decide +kernel
theorem dr2_34 : decode prog_39_method_6_code 34 = .ok (.iload_n 3, 1) := by decide +kernel
theorem dr2_35 : decode prog_39_method_6_code 35 = .ok (.iaload, 1) := by decide +kernel
theorem dr2_36 : decode prog_39_method_6_code 36 = .ok (.istore 4, 2) := by decide +kernel
theorem dr2_38 : decode prog_39_method_6_code 38 = .ok (.iload_n 2, 1) := by decide +kernel
theorem dr2_39 : decode prog_39_method_6_code 39 = .ok (.iload 4, 2) := by decide +kernel
theorem dr2_41 : decode prog_39_method_6_code 41 = .ok (.if_icmp .gt 5, 3) := by decide +kernel
theorem dr2_44 : decode prog_39_method_6_code 44 = .ok (.iconst 0, 1) := by decide +kernel
theorem dr2_45 : decode prog_39_method_6_code 45 = .ok (.ireturn, 1) := by decide +kernel
theorem dr2_46 : decode prog_39_method_6_code 46 = .ok (.iload_n 3, 1) := by decide +kernel
theorem dr2_47 : decode prog_39_method_6_code 47 = .ok (.ifCond .ge 11, 3) := by decide +kernel
theorem dr2_50 : decode prog_39_method_6_code 50 = .ok (.aload_n 0, 1) := by decide +kernel
theorem dr2_51 : decode prog_39_method_6_code 51 = .ok (.iload_n 1, 1) := by decide +kernel
theorem dr2_52 : decode prog_39_method_6_code 52 = .ok (.iload_n 2, 1) := by decide +kernel
theorem dr2_53 : decode prog_39_method_6_code 53 = .ok (.invokevirtual 74, 3) := by decide +kernel
theorem dr2_56 : decode prog_39_method_6_code 56 = .ok (.iconst 1, 1) := by decide +kernel
theorem dr2_57 : decode prog_39_method_6_code 57 = .ok (.ireturn, 1) := by decide +kernel
theorem dr2_58 : decode prog_39_method_6_code 58 = .ok (.iload_n 3, 1) := by decide +kernel
theorem dr2_59 : decode prog_39_method_6_code 59 = .ok (.aload_n 0, 1) := by decide +kernel
theorem dr2_60 : decode prog_39_method_6_code 60 = .ok (.getfield 78, 3) := by decide +kernel
theorem dr2_63 : decode prog_39_method_6_code 63 = .ok (.if_icmp .ge 31, 3) := by decide +kernel
theorem dr2_66 : decode prog_39_method_6_code 66 = .ok (.aload_n 0, 1) := by decide +kernel
theorem dr2_67 : decode prog_39_method_6_code 67 = .ok (.iload_n 1, 1) := by decide +kernel
theorem dr2_68 : decode prog_39_method_6_code 68 = .ok (.iload_n 2, 1) := by decide +kernel
theorem dr2_69 : decode prog_39_method_6_code 69 = .ok (.invokevirtual 60, 3) := by decide +kernel
theorem dr2_72 : decode prog_39_method_6_code 72 = .ok (.istore 5, 2) := by decide +kernel
theorem dr2_74 : decode prog_39_method_6_code 74 = .ok (.aload_n 0, 1) := by decide +kernel
theorem dr2_75 : decode prog_39_method_6_code 75 = .ok (.iload_n 3, 1) := by decide +kernel
theorem dr2_76 : decode prog_39_method_6_code 76 = .ok (.iload 5, 2) := by decide +kernel
theorem dr2_78 : decode prog_39_method_6_code 78 = .ok (.invokevirtual 81, 3) := by decide +kernel
theorem dr2_81 : decode prog_39_method_6_code 81 = .ok (.aload_n 0, 1) := by decide +kernel
theorem dr2_82 : decode prog_39_method_6_code 82 = .ok (.getfield 9, 3) := by decide +kernel
theorem dr2_85 : decode prog_39_method_6_code 85 = .ok (.iload_n 1, 1) := by decide +kernel
theorem dr2_86 : decode prog_39_method_6_code 86 = .ok (.iload 5, 2) := by decide +kernel
theorem dr2_88 : decode prog_39_method_6_code 88 = .ok (.iconst 1, 1) := by decide +kernel
theorem dr2_89 : decode prog_39_method_6_code 89 = .ok (.iadd, 1) := by decide +kernel
theorem dr2_90 : decode prog_39_method_6_code 90 = .ok (.iastore, 1) := by decide +kernel
theorem dr2_91 : decode prog_39_method_6_code 91 = .ok (.goto 10, 3) := by decide +kernel
theorem dr2_94 : decode prog_39_method_6_code 94 = .ok (.aload_n 0, 1) := by decide +kernel
theorem dr2_95 : decode prog_39_method_6_code 95 = .ok (.getfield 16, 3) := by decide +kernel
theorem dr2_98 : decode prog_39_method_6_code 98 = .ok (.iload_n 3, 1) := by decide +kernel
theorem dr2_99 : decode prog_39_method_6_code 99 = .ok (.iload_n 2, 1) := by decide +kernel
theorem dr2_100 : decode prog_39_method_6_code 100 = .ok (.iastore, 1) := by decide +kernel
theorem dr2_101 : decode prog_39_method_6_code 101 = .ok (.aload_n 0, 1) := by decide +kernel
theorem dr2_102 : decode prog_39_method_6_code 102 = .ok (.iload_n 1, 1) := by decide +kernel
theorem dr2_103 : decode prog_39_method_6_code 103 = .ok (.iload 4, 2) := by decide +kernel
theorem dr2_105 : decode prog_39_method_6_code 105 = .ok (.iconst (-1), 1) := by decide +kernel
theorem dr2_106 : decode prog_39_method_6_code 106 = .ok (.invokevirtual 66, 3) := by decide +kernel
theorem dr2_109 : decode prog_39_method_6_code 109 = .ok (.aload_n 0, 1) := by decide +kernel
theorem dr2_110 : decode prog_39_method_6_code 110 = .ok (.iload_n 1, 1) := by decide +kernel
theorem dr2_111 : decode prog_39_method_6_code 111 = .ok (.iload_n 2, 1) := by decide +kernel
theorem dr2_112 : decode prog_39_method_6_code 112 = .ok (.iconst 1, 1) := by decide +kernel
theorem dr2_113 : decode prog_39_method_6_code 113 = .ok (.invokevirtual 66, 3) := by decide +kernel
theorem dr2_116 : decode prog_39_method_6_code 116 = .ok (.aload_n 0, 1) := by decide +kernel
theorem dr2_117 : decode prog_39_method_6_code 117 = .ok (.aconst_null, 1) := by decide +kernel
theorem dr2_118 : decode prog_39_method_6_code 118 = .ok (.putfield 70, 3) := by decide +kernel
theorem dr2_121 : decode prog_39_method_6_code 121 = .ok (.iconst 1, 1) := by decide +kernel
theorem dr2_122 : decode prog_39_method_6_code 122 = .ok (.ireturn, 1) := by decide +kernel
theorem own_efr2 (m : MethodId) (a : Addr) (p1 p2 : Int32) : entryFrame m #[(.ref a), (.int p1), (.int p2)] 6 = mkF m 0 #[.val (.ref a), .val (.int p1), .val (.int p2), .unset, .unset, .unset] [] := by first | (simp [entryFrame, mkF, argsToLocals, Value.category]; done) | rfl
set_option maxRecDepth 65536 in
set_option maxHeartbeats 40000000 in
theorem own_rmr2 (l : Launch) (Z : State) (a0 : Array Value) (hw : ∀ d ∈ tables_1, d.before a0 Z = true) (a : Addr) (p1 p2 : Int32) (h0 : Heap) (n0 : Nat) (nu ha al : Addr) (lt : List Nat) (ag : List Int32) (en se : Nat) (tb : Value) (O : Old Z n0 h0) (J : own_J lt ag en se) (hen : en < 8) (n : Nat) (hn : n < 16) (hp : p1 = Int32.ofNat n) (hT : own_T Z h0 n0 a nu ha al lt ag en se tb) :
    own_C l Z (⟨"com/example/obedient_dog/obedientdog/topologydiscovery/AgeLog", "raise", "(II)Z"⟩ : MethodName) prog_39_method_6_code 6 (some .boolean) [] ({ frames := 3, cells := 2, slots := 16, locals := 69 } : Room) #[(.ref a), (.int p1), (.int p2)] h0 (fun v h L => ∃ lt' ag' en' tb', v = some (.int (if own_age lt ag n < p2 then 1 else 0)) ∧ Fr n0 L ∧ Old Z n0 h ∧ own_T Z h n0 a nu ha al lt' ag' en' se tb' ∧ own_J lt' ag' en' se ∧ en' ≤ en + 1 ∧ own_age lt' ag' = own_up (own_age lt ag) n p2) := by
  refine own_body (plainFor_of_name own_pn1) fun p e s m below meth c s₁ hx hby hml hret hlk hown hnm hZ X0 e0 => ?_
  rw [own_efr2 m a p1 p2]
  subst hp
  have on := own_ofn (i := n) (by omega)
  have N0 := Fr.nil n0
  have hT0 := hT
  obtain ⟨la, ra, ga, sz, pr, hs, ea, lr, kl, kr, kg, kh, rs, F_a, V_la, V_ra, V_ga, h_ra, ⟨E_nu, F_hashes_nu, V_ha, F_links_nu, E_al, F_size_al⟩, hcg, htb, ⟨ne_la_ra, ne_la_ga, ne_ra_ga, ne_ha_la, ne_ha_ra, ne_ha_ga⟩, ⟨g_a, g_la, g_ra, g_ga⟩⟩ := hT
  skip
  obtain ⟨jl, jg, jle, jse, jin⟩ := id J
  have h_ga : (ag.map Value.int).length = 8 := by rw [List.length_map]; exact jg
  have hea := hcg.refs.1
  have hlr := hcg.refs.2
  by_cases hnl : n < lt.length
  · cases hv : lt.getD n 0 with
    | zero =>
      obtain ⟨E_a, F_latest_a, F_raised_a, F_ages_a, F_numbers_a, F_entries_a, F_size_a, F_sealed_a, F_present_a, F_hash_a, F_table_a, F_earlier_a, F_later_a⟩ := F_a
      have ne_a_la : a ≠ la := by
        obtain ⟨cb, Ab, -⟩ := V_la
        exact ne_arr E_a (hw _ (List.mem_of_getElem? (i := 1) rfl)) Ab
      have ne_a_ra : a ≠ ra := by
        obtain ⟨cb, Ab, -⟩ := V_ra
        exact ne_arr E_a (hw _ (List.mem_of_getElem? (i := 1) rfl)) Ab
      have ne_a_ga : a ≠ ga := by
        obtain ⟨cb, Ab, -⟩ := V_ga
        exact ne_arr E_a (hw _ (List.mem_of_getElem? (i := 1) rfl)) Ab
      have ne_a_ha : a ≠ ha := by
        obtain ⟨cb, Ab, -⟩ := V_ha
        exact ne_arr E_a (hw _ (List.mem_of_getElem? (i := 1) rfl)) Ab
      have ne_nu_la : nu ≠ la := by
        obtain ⟨cb, Ab, -⟩ := V_la
        exact ne_arr E_nu (hw _ (List.mem_of_getElem? (i := 4) rfl)) Ab
      have ne_nu_ra : nu ≠ ra := by
        obtain ⟨cb, Ab, -⟩ := V_ra
        exact ne_arr E_nu (hw _ (List.mem_of_getElem? (i := 4) rfl)) Ab
      have ne_nu_ga : nu ≠ ga := by
        obtain ⟨cb, Ab, -⟩ := V_ga
        exact ne_arr E_nu (hw _ (List.mem_of_getElem? (i := 4) rfl)) Ab
      have ne_nu_ha : nu ≠ ha := by
        obtain ⟨cb, Ab, -⟩ := V_ha
        exact ne_arr E_nu (hw _ (List.mem_of_getElem? (i := 4) rfl)) Ab
      have ne_a_nu : a ≠ nu := ne_exa E_a E_nu (by decide)
      have ne_al_la : al ≠ la := by
        obtain ⟨cb, Ab, -⟩ := V_la
        exact ne_arr E_al (hw _ (List.mem_of_getElem? (i := 31) rfl)) Ab
      have ne_al_ra : al ≠ ra := by
        obtain ⟨cb, Ab, -⟩ := V_ra
        exact ne_arr E_al (hw _ (List.mem_of_getElem? (i := 31) rfl)) Ab
      have ne_al_ga : al ≠ ga := by
        obtain ⟨cb, Ab, -⟩ := V_ga
        exact ne_arr E_al (hw _ (List.mem_of_getElem? (i := 31) rfl)) Ab
      have ne_al_ha : al ≠ ha := by
        obtain ⟨cb, Ab, -⟩ := V_ha
        exact ne_arr E_al (hw _ (List.mem_of_getElem? (i := 31) rfl)) Ab
      have ne_a_al : a ≠ al := ne_exa E_a E_al (by decide)
      have ne_nu_al : nu ≠ al := ne_exa E_nu E_al (by decide)
      refine own_go (U' := s₁.setTop (mkF m 1 #[.val (.ref a), .val (.int (Int32.ofNat n)), .val (.int p2), .unset, .unset, .unset] [(.int (Int32.ofNat n))])) (fun t k => XS.iloadN X0.here hx rfl (hb hby dr2_0) rfl k) ?_
      refine own_go (U' := s₁.setTop (mkF m 2 #[.val (.ref a), .val (.int (Int32.ofNat n)), .val (.int p2), .unset, .unset, .unset] [(.ref a), (.int (Int32.ofNat n))])) (fun t k => XS.aloadN X0.here hx rfl (hb hby dr2_1) rfl rfl k) ?_
      obtain ⟨T1, X1, e1, st1⟩ := getF X0 hx hZ hown (host := "") (Or.inl (hw _ (List.mem_of_getElem? (i := 63) rfl))) Via.refl e0 F_latest_a (g := (mkF m 2 #[.val (.ref a), .val (.int (Int32.ofNat n)), .val (.int p2), .unset, .unset, .unset] [(.ref a), (.int (Int32.ofNat n))])) rfl rfl (hb hby dr2_2)
      refine own_go (U' := T1.setTop (mkF m 5 #[.val (.ref a), .val (.int (Int32.ofNat n)), .val (.int p2), .unset, .unset, .unset] [(.ref la), (.int (Int32.ofNat n))])) st1 ?_
      refine own_go (U' := T1.setTop (mkF m 6 #[.val (.ref a), .val (.int (Int32.ofNat n)), .val (.int p2), .unset, .unset, .unset] [(.int (Int32.ofNat lt.length)), (.int (Int32.ofNat n))])) (own_arrlen X1 hx hZ e1 V_la (n := (Int32.ofNat lt.length)) (by rw [List.length_map]) (g := (mkF m 5 #[.val (.ref a), .val (.int (Int32.ofNat n)), .val (.int p2), .unset, .unset, .unset] [(.ref la), (.int (Int32.ofNat n))])) rfl rfl (hb hby dr2_5)) ?_
      refine own_go (U' := T1.setTop (mkF m 9 #[.val (.ref a), .val (.int (Int32.ofNat n)), .val (.int p2), .unset, .unset, .unset] [])) (fun t k => XS.icmpNo X1.here hx rfl (hb hby dr2_6) rfl (tlt ((own_lt (by omega) (by omega)).mpr hnl)).2.1 k) ?_
      refine own_go (U' := T1.setTop (mkF m 10 #[.val (.ref a), .val (.int (Int32.ofNat n)), .val (.int p2), .unset, .unset, .unset] [(.ref a)])) (fun t k => XS.aloadN X1.here hx rfl (hb hby dr2_9) rfl rfl k) ?_
      obtain ⟨T2, X2, e2, st2⟩ := getF X1 hx hZ hown (host := "") (Or.inl (hw _ (List.mem_of_getElem? (i := 63) rfl))) Via.refl e1 F_latest_a (g := (mkF m 10 #[.val (.ref a), .val (.int (Int32.ofNat n)), .val (.int p2), .unset, .unset, .unset] [(.ref a)])) rfl rfl (hb hby dr2_10)
      refine own_go (U' := T2.setTop (mkF m 13 #[.val (.ref a), .val (.int (Int32.ofNat n)), .val (.int p2), .unset, .unset, .unset] [(.ref la)])) st2 ?_
      refine own_go (U' := T2.setTop (mkF m 14 #[.val (.ref a), .val (.int (Int32.ofNat n)), .val (.int p2), .unset, .unset, .unset] [(.int (Int32.ofNat n)), (.ref la)])) (fun t k => XS.iloadN X2.here hx rfl (hb hby dr2_13) rfl k) ?_
      refine own_go (U' := T2.setTop (mkF m 15 #[.val (.ref a), .val (.int (Int32.ofNat n)), .val (.int p2), .unset, .unset, .unset] [(.int (Int32.ofNat (lt.getD n 0)))])) (own_iaload X2 hx hZ e2 V_la (j := (Int32.ofNat n)) on.1 (i := n) on.2.1 (v := (.int (Int32.ofNat (lt.getD n 0)))) (own_is_at (by omega)) (g := (mkF m 14 #[.val (.ref a), .val (.int (Int32.ofNat n)), .val (.int p2), .unset, .unset, .unset] [(.int (Int32.ofNat n)), (.ref la)])) rfl rfl (hb hby dr2_14)) ?_
      refine own_go (U' := T2.setTop (mkF m 16 #[.val (.ref a), .val (.int (Int32.ofNat n)), .val (.int p2), .unset, .unset, .unset] [(.int (1 : Int32)), (.int (Int32.ofNat (lt.getD n 0)))])) (fun t k => XS.iconst X2.here hx rfl (hb hby dr2_15) k) ?_
      refine own_go (U' := T2.setTop (mkF m 17 #[.val (.ref a), .val (.int (Int32.ofNat n)), .val (.int p2), .unset, .unset, .unset] [(.int ((Int32.ofNat (lt.getD n 0)) - (1 : Int32)))])) (fun t k => XS.isub X2.here hx rfl (hb hby dr2_16) rfl k) ?_
      refine own_go (U' := T2.setTop (mkF m 21 #[.val (.ref a), .val (.int (Int32.ofNat n)), .val (.int p2), .unset, .unset, .unset] [(.int ((Int32.ofNat (lt.getD n 0)) - (1 : Int32)))])) (fun t k => XS.goto X2.here hx rfl (pc0 := 17) (pc' := 21) rfl (hb hby dr2_17) (by decide) (by decide) k) ?_
      rw [hv, show Int32.ofNat 0 - (1 : Int32) = (-1 : Int32) from by decide]
      have hag : own_age lt ag n = -1 := if_pos hv
      refine own_go (U' := T2.setTop (mkF m 22 #[.val (.ref a), .val (.int (Int32.ofNat n)), .val (.int p2), .val (.int (-1 : Int32)), .unset, .unset] [])) (fun t k => XS.istoreN X2.here hx rfl (hb hby dr2_21) rfl (l' := #[.val (.ref a), .val (.int (Int32.ofNat n)), .val (.int p2), .val (.int (-1 : Int32)), .unset, .unset]) rfl k) ?_
      refine own_go (U' := T2.setTop (mkF m 23 #[.val (.ref a), .val (.int (Int32.ofNat n)), .val (.int p2), .val (.int (-1 : Int32)), .unset, .unset] [(.int (-1 : Int32))])) (fun t k => XS.iloadN X2.here hx rfl (hb hby dr2_22) rfl k) ?_
      refine own_go (U' := T2.setTop (mkF m 26 #[.val (.ref a), .val (.int (Int32.ofNat n)), .val (.int p2), .val (.int (-1 : Int32)), .unset, .unset] [])) (fun t k => XS.ifNo X2.here hx rfl (hb hby dr2_23) rfl ((if0 _ _).trans (tlt (by decide)).2.1) k) ?_
      refine own_go (U' := T2.setTop (mkF m 27 #[.val (.ref a), .val (.int (Int32.ofNat n)), .val (.int p2), .val (.int (-1 : Int32)), .unset, .unset] [(.int (-1 : Int32))])) (fun t k => XS.iconst X2.here hx rfl (hb hby dr2_26) k) ?_
      refine own_go (U' := T2.setTop (mkF m 36 #[.val (.ref a), .val (.int (Int32.ofNat n)), .val (.int p2), .val (.int (-1 : Int32)), .unset, .unset] [(.int (-1 : Int32))])) (fun t k => XS.goto X2.here hx rfl (pc0 := 27) (pc' := 36) rfl (hb hby dr2_27) (by decide) (by decide) k) ?_
      refine own_go (U' := T2.setTop (mkF m 38 #[.val (.ref a), .val (.int (Int32.ofNat n)), .val (.int p2), .val (.int (-1 : Int32)), .val (.int (-1 : Int32)), .unset] [])) (fun t k => XS.istore X2.here hx rfl (hb hby dr2_36) rfl (l' := #[.val (.ref a), .val (.int (Int32.ofNat n)), .val (.int p2), .val (.int (-1 : Int32)), .val (.int (-1 : Int32)), .unset]) rfl k) ?_
      refine own_go (U' := T2.setTop (mkF m 39 #[.val (.ref a), .val (.int (Int32.ofNat n)), .val (.int p2), .val (.int (-1 : Int32)), .val (.int (-1 : Int32)), .unset] [(.int p2)])) (fun t k => XS.iloadN X2.here hx rfl (hb hby dr2_38) rfl k) ?_
      refine own_go (U' := T2.setTop (mkF m 41 #[.val (.ref a), .val (.int (Int32.ofNat n)), .val (.int p2), .val (.int (-1 : Int32)), .val (.int (-1 : Int32)), .unset] [(.int (-1 : Int32)), (.int p2)])) (fun t k => XS.iload X2.here hx rfl (hb hby dr2_39) rfl k) ?_
      by_cases hpos : (-1 : Int32) < p2
      · refine own_go (U' := T2.setTop (mkF m 46 #[.val (.ref a), .val (.int (Int32.ofNat n)), .val (.int p2), .val (.int (-1 : Int32)), .val (.int (-1 : Int32)), .unset] [])) (fun t k => XS.icmpYes X2.here hx rfl (pc0 := 41) (pc' := 46) rfl (hb hby dr2_41) rfl (tlt hpos).2.2.1 (by decide) (by decide) k) ?_
        have hlt : own_age lt ag n < p2 := by rw [hag]; exact hpos
        refine own_go (U' := T2.setTop (mkF m 47 #[.val (.ref a), .val (.int (Int32.ofNat n)), .val (.int p2), .val (.int (-1 : Int32)), .val (.int (-1 : Int32)), .unset] [(.int (-1 : Int32))])) (fun t k => XS.iloadN X2.here hx rfl (hb hby dr2_46) rfl k) ?_
        refine own_go (U' := T2.setTop (mkF m 50 #[.val (.ref a), .val (.int (Int32.ofNat n)), .val (.int p2), .val (.int (-1 : Int32)), .val (.int (-1 : Int32)), .unset] [])) (fun t k => XS.ifNo X2.here hx rfl (hb hby dr2_47) rfl ((if0 _ _).trans (tlt (by decide)).2.1) k) ?_
        refine own_go (U' := T2.setTop (mkF m 51 #[.val (.ref a), .val (.int (Int32.ofNat n)), .val (.int p2), .val (.int (-1 : Int32)), .val (.int (-1 : Int32)), .unset] [(.ref a)])) (fun t k => XS.aloadN X2.here hx rfl (hb hby dr2_50) rfl rfl k) ?_
        refine own_go (U' := T2.setTop (mkF m 52 #[.val (.ref a), .val (.int (Int32.ofNat n)), .val (.int p2), .val (.int (-1 : Int32)), .val (.int (-1 : Int32)), .unset] [(.int (Int32.ofNat n)), (.ref a)])) (fun t k => XS.iloadN X2.here hx rfl (hb hby dr2_51) rfl k) ?_
        refine own_go (U' := T2.setTop (mkF m 53 #[.val (.ref a), .val (.int (Int32.ofNat n)), .val (.int p2), .val (.int (-1 : Int32)), .val (.int (-1 : Int32)), .unset] [(.int p2), (.int (Int32.ofNat n)), (.ref a)])) (fun t k => XS.iloadN X2.here hx rfl (hb hby dr2_52) rfl k) ?_
        obtain ⟨v3, T3, h3, L3, e3, X3, hQ3, st3⟩ := own_callV X2 hx hZ (y := (⟨"com/example/obedient_dog/obedientdog/topologydiscovery/AgeLog", "add", "(II)V"⟩ : MethodName)) (z := (⟨"com/example/obedient_dog/obedientdog/topologydiscovery/AgeLog", "add", "(II)V"⟩ : MethodName)) hown (hw _ (List.mem_of_getElem? (i := 76) rfl)) (hw _ (List.mem_of_getElem? (i := 77) rfl)) (notFace_of_selects (args := #[]) (mvT hZ (hw _ (List.mem_of_getElem? (i := 79) rfl)))) (hw _ (List.mem_of_getElem? (i := 79) rfl)) (hw _ (List.mem_of_getElem? (i := 78) rfl)) (hw _ (List.mem_of_getElem? (i := 2) rfl)) (hw _ (List.mem_of_getElem? (i := 80) rfl)) (by decide) E_a (own_rma2 l Z a0 hw a (Int32.ofNat n) p2 h0 n0 nu ha al lt ag en se tb O J hen n hn rfl hT0) (W := 0) (by decide) (by decide) (g := (mkF m 53 #[.val (.ref a), .val (.int (Int32.ofNat n)), .val (.int p2), .val (.int (-1 : Int32)), .val (.int (-1 : Int32)), .unset] [(.int p2), (.int (Int32.ofNat n)), (.ref a)])) rfl (by rw [hml]; rfl) (argsL := [(.int (Int32.ofNat n)), (.int p2)]) (rest := []) (lenOf own_pd3 rfl) rfl rfl (by show 2 * 0 + _ ≤ _; exact Nat.le_of_eq rfl) (hb hby dr2_53) e2 (by decide) (by decide)
        obtain ⟨rfl, Nq, O, hT⟩ := hQ3
        obtain ⟨J1, J2⟩ := own_J_add p2 J hen hn
        have N3 := Fr.app N0 Nq
        refine own_go (U' := T3.setTop (mkF m 56 #[.val (.ref a), .val (.int (Int32.ofNat n)), .val (.int p2), .val (.int (-1 : Int32)), .val (.int (-1 : Int32)), .unset] [])) st3 ?_
        refine own_go (U' := T3.setTop (mkF m 57 #[.val (.ref a), .val (.int (Int32.ofNat n)), .val (.int p2), .val (.int (-1 : Int32)), .val (.int (-1 : Int32)), .unset] [(.int (1 : Int32))])) (fun t k => XS.iconst X3.here hx rfl (hb hby dr2_56) k) ?_
        refine own_retN X3 hx (t := .boolean) hret (by simp) hlk (hb hby dr2_57) ?_ (by decide) (by decide)
        rw [e3]
        refine ⟨_, _, _, _, ?_, N3, O, hT, J1, Nat.le_refl _, ?_⟩
        · rw [if_pos hlt]; rfl
        · rw [own_up, if_pos hlt]; exact J2
      · refine own_go (U' := T2.setTop (mkF m 44 #[.val (.ref a), .val (.int (Int32.ofNat n)), .val (.int p2), .val (.int (-1 : Int32)), .val (.int (-1 : Int32)), .unset] [])) (fun t k => XS.icmpNo X2.here hx rfl (hb hby dr2_41) rfl (flt hpos).2.2.1 k) ?_
        refine own_go (U' := T2.setTop (mkF m 45 #[.val (.ref a), .val (.int (Int32.ofNat n)), .val (.int p2), .val (.int (-1 : Int32)), .val (.int (-1 : Int32)), .unset] [(.int (0 : Int32))])) (fun t k => XS.iconst X2.here hx rfl (hb hby dr2_44) k) ?_
        refine own_retN X2 hx (t := .boolean) hret (by simp) hlk (hb hby dr2_45) ?_ (by decide) (by decide)
        rw [e2]
        refine ⟨lt, ag, en, tb, ?_, N0, O, hT0, J, Nat.le_succ _, ?_⟩
        · rw [if_neg (fun q => hpos (by rw [← hag]; exact q))]; rfl
        · rw [own_up, if_neg (fun q => hpos (by rw [← hag]; exact q))]
    | succ j =>
      have hj3 := jle n
      have oj := own_ofn (i := j) (by omega)
      rcases hcg with ⟨rfl, rfl⟩ | ⟨xe, xl, ke, kl2, es, ls, rfl, rfl, V_xe, V_xl, hes, hls, g_xe, g_xl, ne_xe_xl, ⟨ne_xe_la, ne_xe_ra, ne_xe_ga, ne_xe_ha⟩, ⟨ne_xl_la, ne_xl_ra, ne_xl_ga, ne_xl_ha⟩⟩
      · obtain ⟨E_a, F_latest_a, F_raised_a, F_ages_a, F_numbers_a, F_entries_a, F_size_a, F_sealed_a, F_present_a, F_hash_a, F_table_a, F_earlier_a, F_later_a⟩ := F_a
        have ne_a_la : a ≠ la := by
          obtain ⟨cb, Ab, -⟩ := V_la
          exact ne_arr E_a (hw _ (List.mem_of_getElem? (i := 1) rfl)) Ab
        have ne_a_ra : a ≠ ra := by
          obtain ⟨cb, Ab, -⟩ := V_ra
          exact ne_arr E_a (hw _ (List.mem_of_getElem? (i := 1) rfl)) Ab
        have ne_a_ga : a ≠ ga := by
          obtain ⟨cb, Ab, -⟩ := V_ga
          exact ne_arr E_a (hw _ (List.mem_of_getElem? (i := 1) rfl)) Ab
        have ne_a_ha : a ≠ ha := by
          obtain ⟨cb, Ab, -⟩ := V_ha
          exact ne_arr E_a (hw _ (List.mem_of_getElem? (i := 1) rfl)) Ab
        have ne_nu_la : nu ≠ la := by
          obtain ⟨cb, Ab, -⟩ := V_la
          exact ne_arr E_nu (hw _ (List.mem_of_getElem? (i := 4) rfl)) Ab
        have ne_nu_ra : nu ≠ ra := by
          obtain ⟨cb, Ab, -⟩ := V_ra
          exact ne_arr E_nu (hw _ (List.mem_of_getElem? (i := 4) rfl)) Ab
        have ne_nu_ga : nu ≠ ga := by
          obtain ⟨cb, Ab, -⟩ := V_ga
          exact ne_arr E_nu (hw _ (List.mem_of_getElem? (i := 4) rfl)) Ab
        have ne_nu_ha : nu ≠ ha := by
          obtain ⟨cb, Ab, -⟩ := V_ha
          exact ne_arr E_nu (hw _ (List.mem_of_getElem? (i := 4) rfl)) Ab
        have ne_a_nu : a ≠ nu := ne_exa E_a E_nu (by decide)
        have ne_al_la : al ≠ la := by
          obtain ⟨cb, Ab, -⟩ := V_la
          exact ne_arr E_al (hw _ (List.mem_of_getElem? (i := 31) rfl)) Ab
        have ne_al_ra : al ≠ ra := by
          obtain ⟨cb, Ab, -⟩ := V_ra
          exact ne_arr E_al (hw _ (List.mem_of_getElem? (i := 31) rfl)) Ab
        have ne_al_ga : al ≠ ga := by
          obtain ⟨cb, Ab, -⟩ := V_ga
          exact ne_arr E_al (hw _ (List.mem_of_getElem? (i := 31) rfl)) Ab
        have ne_al_ha : al ≠ ha := by
          obtain ⟨cb, Ab, -⟩ := V_ha
          exact ne_arr E_al (hw _ (List.mem_of_getElem? (i := 31) rfl)) Ab
        have ne_a_al : a ≠ al := ne_exa E_a E_al (by decide)
        have ne_nu_al : nu ≠ al := ne_exa E_nu E_al (by decide)
        refine own_go (U' := s₁.setTop (mkF m 1 #[.val (.ref a), .val (.int (Int32.ofNat n)), .val (.int p2), .unset, .unset, .unset] [(.int (Int32.ofNat n))])) (fun t k => XS.iloadN X0.here hx rfl (hb hby dr2_0) rfl k) ?_
        refine own_go (U' := s₁.setTop (mkF m 2 #[.val (.ref a), .val (.int (Int32.ofNat n)), .val (.int p2), .unset, .unset, .unset] [(.ref a), (.int (Int32.ofNat n))])) (fun t k => XS.aloadN X0.here hx rfl (hb hby dr2_1) rfl rfl k) ?_
        obtain ⟨T4, X4, e4, st4⟩ := getF X0 hx hZ hown (host := "") (Or.inl (hw _ (List.mem_of_getElem? (i := 63) rfl))) Via.refl e0 F_latest_a (g := (mkF m 2 #[.val (.ref a), .val (.int (Int32.ofNat n)), .val (.int p2), .unset, .unset, .unset] [(.ref a), (.int (Int32.ofNat n))])) rfl rfl (hb hby dr2_2)
        refine own_go (U' := T4.setTop (mkF m 5 #[.val (.ref a), .val (.int (Int32.ofNat n)), .val (.int p2), .unset, .unset, .unset] [(.ref la), (.int (Int32.ofNat n))])) st4 ?_
        refine own_go (U' := T4.setTop (mkF m 6 #[.val (.ref a), .val (.int (Int32.ofNat n)), .val (.int p2), .unset, .unset, .unset] [(.int (Int32.ofNat lt.length)), (.int (Int32.ofNat n))])) (own_arrlen X4 hx hZ e4 V_la (n := (Int32.ofNat lt.length)) (by rw [List.length_map]) (g := (mkF m 5 #[.val (.ref a), .val (.int (Int32.ofNat n)), .val (.int p2), .unset, .unset, .unset] [(.ref la), (.int (Int32.ofNat n))])) rfl rfl (hb hby dr2_5)) ?_
        refine own_go (U' := T4.setTop (mkF m 9 #[.val (.ref a), .val (.int (Int32.ofNat n)), .val (.int p2), .unset, .unset, .unset] [])) (fun t k => XS.icmpNo X4.here hx rfl (hb hby dr2_6) rfl (tlt ((own_lt (by omega) (by omega)).mpr hnl)).2.1 k) ?_
        refine own_go (U' := T4.setTop (mkF m 10 #[.val (.ref a), .val (.int (Int32.ofNat n)), .val (.int p2), .unset, .unset, .unset] [(.ref a)])) (fun t k => XS.aloadN X4.here hx rfl (hb hby dr2_9) rfl rfl k) ?_
        obtain ⟨T5, X5, e5, st5⟩ := getF X4 hx hZ hown (host := "") (Or.inl (hw _ (List.mem_of_getElem? (i := 63) rfl))) Via.refl e4 F_latest_a (g := (mkF m 10 #[.val (.ref a), .val (.int (Int32.ofNat n)), .val (.int p2), .unset, .unset, .unset] [(.ref a)])) rfl rfl (hb hby dr2_10)
        refine own_go (U' := T5.setTop (mkF m 13 #[.val (.ref a), .val (.int (Int32.ofNat n)), .val (.int p2), .unset, .unset, .unset] [(.ref la)])) st5 ?_
        refine own_go (U' := T5.setTop (mkF m 14 #[.val (.ref a), .val (.int (Int32.ofNat n)), .val (.int p2), .unset, .unset, .unset] [(.int (Int32.ofNat n)), (.ref la)])) (fun t k => XS.iloadN X5.here hx rfl (hb hby dr2_13) rfl k) ?_
        refine own_go (U' := T5.setTop (mkF m 15 #[.val (.ref a), .val (.int (Int32.ofNat n)), .val (.int p2), .unset, .unset, .unset] [(.int (Int32.ofNat (lt.getD n 0)))])) (own_iaload X5 hx hZ e5 V_la (j := (Int32.ofNat n)) on.1 (i := n) on.2.1 (v := (.int (Int32.ofNat (lt.getD n 0)))) (own_is_at (by omega)) (g := (mkF m 14 #[.val (.ref a), .val (.int (Int32.ofNat n)), .val (.int p2), .unset, .unset, .unset] [(.int (Int32.ofNat n)), (.ref la)])) rfl rfl (hb hby dr2_14)) ?_
        refine own_go (U' := T5.setTop (mkF m 16 #[.val (.ref a), .val (.int (Int32.ofNat n)), .val (.int p2), .unset, .unset, .unset] [(.int (1 : Int32)), (.int (Int32.ofNat (lt.getD n 0)))])) (fun t k => XS.iconst X5.here hx rfl (hb hby dr2_15) k) ?_
        refine own_go (U' := T5.setTop (mkF m 17 #[.val (.ref a), .val (.int (Int32.ofNat n)), .val (.int p2), .unset, .unset, .unset] [(.int ((Int32.ofNat (lt.getD n 0)) - (1 : Int32)))])) (fun t k => XS.isub X5.here hx rfl (hb hby dr2_16) rfl k) ?_
        refine own_go (U' := T5.setTop (mkF m 21 #[.val (.ref a), .val (.int (Int32.ofNat n)), .val (.int p2), .unset, .unset, .unset] [(.int ((Int32.ofNat (lt.getD n 0)) - (1 : Int32)))])) (fun t k => XS.goto X5.here hx rfl (pc0 := 17) (pc' := 21) rfl (hb hby dr2_17) (by decide) (by decide) k) ?_
        rw [hv, own_up1]
        refine own_go (U' := T5.setTop (mkF m 22 #[.val (.ref a), .val (.int (Int32.ofNat n)), .val (.int p2), .val (.int (Int32.ofNat j)), .unset, .unset] [])) (fun t k => XS.istoreN X5.here hx rfl (hb hby dr2_21) rfl (l' := #[.val (.ref a), .val (.int (Int32.ofNat n)), .val (.int p2), .val (.int (Int32.ofNat j)), .unset, .unset]) rfl k) ?_
        refine own_go (U' := T5.setTop (mkF m 23 #[.val (.ref a), .val (.int (Int32.ofNat n)), .val (.int p2), .val (.int (Int32.ofNat j)), .unset, .unset] [(.int (Int32.ofNat j))])) (fun t k => XS.iloadN X5.here hx rfl (hb hby dr2_22) rfl k) ?_
        refine own_go (U' := T5.setTop (mkF m 30 #[.val (.ref a), .val (.int (Int32.ofNat n)), .val (.int p2), .val (.int (Int32.ofNat j)), .unset, .unset] [])) (fun t k => XS.ifYes X5.here hx rfl (pc0 := 23) (pc' := 30) rfl (hb hby dr2_23) rfl ((if0 _ _).trans (flt oj.1).2.1) (by decide) (by decide) k) ?_
        refine own_go (U' := T5.setTop (mkF m 31 #[.val (.ref a), .val (.int (Int32.ofNat n)), .val (.int p2), .val (.int (Int32.ofNat j)), .unset, .unset] [(.ref a)])) (fun t k => XS.aloadN X5.here hx rfl (hb hby dr2_30) rfl rfl k) ?_
        obtain ⟨T6, X6, e6, st6⟩ := getF X5 hx hZ hown (host := "") (Or.inl (hw _ (List.mem_of_getElem? (i := 67) rfl))) Via.refl e5 F_ages_a (g := (mkF m 31 #[.val (.ref a), .val (.int (Int32.ofNat n)), .val (.int p2), .val (.int (Int32.ofNat j)), .unset, .unset] [(.ref a)])) rfl rfl (hb hby dr2_31)
        refine own_go (U' := T6.setTop (mkF m 34 #[.val (.ref a), .val (.int (Int32.ofNat n)), .val (.int p2), .val (.int (Int32.ofNat j)), .unset, .unset] [(.ref ga)])) st6 ?_
        refine own_go (U' := T6.setTop (mkF m 35 #[.val (.ref a), .val (.int (Int32.ofNat n)), .val (.int p2), .val (.int (Int32.ofNat j)), .unset, .unset] [(.int (Int32.ofNat j)), (.ref ga)])) (fun t k => XS.iloadN X6.here hx rfl (hb hby dr2_34) rfl k) ?_
        refine own_go (U' := T6.setTop (mkF m 36 #[.val (.ref a), .val (.int (Int32.ofNat n)), .val (.int p2), .val (.int (Int32.ofNat j)), .unset, .unset] [(.int (ag.getD j 0))])) (own_iaload X6 hx hZ e6 V_ga (j := (Int32.ofNat j)) oj.1 (i := j) oj.2.1 (v := (.int (ag.getD j 0))) (own_agat (by omega)) (g := (mkF m 35 #[.val (.ref a), .val (.int (Int32.ofNat n)), .val (.int p2), .val (.int (Int32.ofNat j)), .unset, .unset] [(.int (Int32.ofNat j)), (.ref ga)])) rfl rfl (hb hby dr2_35)) ?_
        have hag : own_age lt ag n = ag.getD j 0 := by rw [own_age, if_neg (by omega), hv, Nat.add_sub_cancel]
        refine own_go (U' := T6.setTop (mkF m 38 #[.val (.ref a), .val (.int (Int32.ofNat n)), .val (.int p2), .val (.int (Int32.ofNat j)), .val (.int (ag.getD j 0)), .unset] [])) (fun t k => XS.istore X6.here hx rfl (hb hby dr2_36) rfl (l' := #[.val (.ref a), .val (.int (Int32.ofNat n)), .val (.int p2), .val (.int (Int32.ofNat j)), .val (.int (ag.getD j 0)), .unset]) rfl k) ?_
        refine own_go (U' := T6.setTop (mkF m 39 #[.val (.ref a), .val (.int (Int32.ofNat n)), .val (.int p2), .val (.int (Int32.ofNat j)), .val (.int (ag.getD j 0)), .unset] [(.int p2)])) (fun t k => XS.iloadN X6.here hx rfl (hb hby dr2_38) rfl k) ?_
        refine own_go (U' := T6.setTop (mkF m 41 #[.val (.ref a), .val (.int (Int32.ofNat n)), .val (.int p2), .val (.int (Int32.ofNat j)), .val (.int (ag.getD j 0)), .unset] [(.int (ag.getD j 0)), (.int p2)])) (fun t k => XS.iload X6.here hx rfl (hb hby dr2_39) rfl k) ?_
        by_cases hpos : (ag.getD j 0) < p2
        · refine own_go (U' := T6.setTop (mkF m 46 #[.val (.ref a), .val (.int (Int32.ofNat n)), .val (.int p2), .val (.int (Int32.ofNat j)), .val (.int (ag.getD j 0)), .unset] [])) (fun t k => XS.icmpYes X6.here hx rfl (pc0 := 41) (pc' := 46) rfl (hb hby dr2_41) rfl (tlt hpos).2.2.1 (by decide) (by decide) k) ?_
          have hlt : own_age lt ag n < p2 := by rw [hag]; exact hpos
          refine own_go (U' := T6.setTop (mkF m 47 #[.val (.ref a), .val (.int (Int32.ofNat n)), .val (.int p2), .val (.int (Int32.ofNat j)), .val (.int (ag.getD j 0)), .unset] [(.int (Int32.ofNat j))])) (fun t k => XS.iloadN X6.here hx rfl (hb hby dr2_46) rfl k) ?_
          refine own_go (U' := T6.setTop (mkF m 58 #[.val (.ref a), .val (.int (Int32.ofNat n)), .val (.int p2), .val (.int (Int32.ofNat j)), .val (.int (ag.getD j 0)), .unset] [])) (fun t k => XS.ifYes X6.here hx rfl (pc0 := 47) (pc' := 58) rfl (hb hby dr2_47) rfl ((if0 _ _).trans (flt oj.1).2.1) (by decide) (by decide) k) ?_
          refine own_go (U' := T6.setTop (mkF m 59 #[.val (.ref a), .val (.int (Int32.ofNat n)), .val (.int p2), .val (.int (Int32.ofNat j)), .val (.int (ag.getD j 0)), .unset] [(.int (Int32.ofNat j))])) (fun t k => XS.iloadN X6.here hx rfl (hb hby dr2_58) rfl k) ?_
          refine own_go (U' := T6.setTop (mkF m 60 #[.val (.ref a), .val (.int (Int32.ofNat n)), .val (.int p2), .val (.int (Int32.ofNat j)), .val (.int (ag.getD j 0)), .unset] [(.ref a), (.int (Int32.ofNat j))])) (fun t k => XS.aloadN X6.here hx rfl (hb hby dr2_59) rfl rfl k) ?_
          obtain ⟨T7, X7, e7, st7⟩ := getF X6 hx hZ hown (host := "") (Or.inl (hw _ (List.mem_of_getElem? (i := 109) rfl))) Via.refl e6 F_sealed_a (g := (mkF m 60 #[.val (.ref a), .val (.int (Int32.ofNat n)), .val (.int p2), .val (.int (Int32.ofNat j)), .val (.int (ag.getD j 0)), .unset] [(.ref a), (.int (Int32.ofNat j))])) rfl rfl (hb hby dr2_60)
          refine own_go (U' := T7.setTop (mkF m 63 #[.val (.ref a), .val (.int (Int32.ofNat n)), .val (.int p2), .val (.int (Int32.ofNat j)), .val (.int (ag.getD j 0)), .unset] [(.int (Int32.ofNat se)), (.int (Int32.ofNat j))])) st7 ?_
          by_cases hjs : (Int32.ofNat j) < (Int32.ofNat se)
          · refine own_go (U' := T7.setTop (mkF m 66 #[.val (.ref a), .val (.int (Int32.ofNat n)), .val (.int p2), .val (.int (Int32.ofNat j)), .val (.int (ag.getD j 0)), .unset] [])) (fun t k => XS.icmpNo X7.here hx rfl (hb hby dr2_63) rfl (tlt hjs).2.1 k) ?_
            have hjs := (own_lt (by omega) (by omega)).mp hjs
            refine own_go (U' := T7.setTop (mkF m 67 #[.val (.ref a), .val (.int (Int32.ofNat n)), .val (.int p2), .val (.int (Int32.ofNat j)), .val (.int (ag.getD j 0)), .unset] [(.ref a)])) (fun t k => XS.aloadN X7.here hx rfl (hb hby dr2_66) rfl rfl k) ?_
            refine own_go (U' := T7.setTop (mkF m 68 #[.val (.ref a), .val (.int (Int32.ofNat n)), .val (.int p2), .val (.int (Int32.ofNat j)), .val (.int (ag.getD j 0)), .unset] [(.int (Int32.ofNat n)), (.ref a)])) (fun t k => XS.iloadN X7.here hx rfl (hb hby dr2_67) rfl k) ?_
            refine own_go (U' := T7.setTop (mkF m 69 #[.val (.ref a), .val (.int (Int32.ofNat n)), .val (.int p2), .val (.int (Int32.ofNat j)), .val (.int (ag.getD j 0)), .unset] [(.int p2), (.int (Int32.ofNat n)), (.ref a)])) (fun t k => XS.iloadN X7.here hx rfl (hb hby dr2_68) rfl k) ?_
            obtain ⟨v8, T8, h8, L8, e8, X8, hQ8, st8⟩ := own_callP X7 hx hZ (y := (⟨"com/example/obedient_dog/obedientdog/topologydiscovery/AgeLog", "append", "(II)I"⟩ : MethodName)) hown (hw _ (List.mem_of_getElem? (i := 81) rfl)) (hw _ (List.mem_of_getElem? (i := 82) rfl)) (own_selP (y0 := (⟨"com/example/obedient_dog/obedientdog/topologydiscovery/AgeLog", "raise", "(II)Z"⟩ : MethodName)) (hw _ (List.mem_of_getElem? (i := 74) rfl)) rfl (hw _ (List.mem_of_getElem? (i := 83) rfl)) (hw _ (List.mem_of_getElem? (i := 82) rfl)) (by decide)) (hw _ (List.mem_of_getElem? (i := 83) rfl)) (hw _ (List.mem_of_getElem? (i := 2) rfl)) (hw _ (List.mem_of_getElem? (i := 84) rfl)) (by decide) E_a (own_rmap l Z a0 hw a (Int32.ofNat n) p2 h0 n0 g_a la ra ga nu ha kh (Int32.ofNat en) sz (Int32.ofNat se) pr hs tb .null .null htb rfl rfl en hen rfl _ _ kr kg g_ra g_ga ne_ra_ga ⟨E_a, F_latest_a, F_raised_a, F_ages_a, F_numbers_a, F_entries_a, F_size_a, F_sealed_a, F_present_a, F_hash_a, F_table_a, F_earlier_a, F_later_a⟩ V_ra h_ra V_ga h_ga) (W := 0) (by decide) (by decide) (g := (mkF m 69 #[.val (.ref a), .val (.int (Int32.ofNat n)), .val (.int p2), .val (.int (Int32.ofNat j)), .val (.int (ag.getD j 0)), .unset] [(.int p2), (.int (Int32.ofNat n)), (.ref a)])) rfl (by rw [hml]; rfl) (argsL := [(.int (Int32.ofNat n)), (.int p2)]) (rest := []) (lenOf own_pd2 rfl) rfl rfl (by show 2 * 0 + _ ≤ _; exact Nat.le_of_eq rfl) (hb hby dr2_69) e7 (by decide) (by decide)
            obtain ⟨rfl, Nq, Kq, F_a, V_ra, V_ga⟩ := hQ8
            have O := O.keep Kq (allS g_a (allS g_ra (allS g_ga all0)))
            have E_a := E_a.keep Kq
            have E_nu := E_nu.keep Kq
            have F_hashes_nu := F_hashes_nu.keep Kq (ninS (Ne.symm ne_a_nu) (ninS ne_nu_ra (ninS ne_nu_ga nin0)))
            have V_ha := V_ha.keep Kq (ninS (Ne.symm ne_a_ha) (ninS ne_ha_ra (ninS ne_ha_ga nin0)))
            have F_links_nu := F_links_nu.keep Kq (ninS (Ne.symm ne_a_nu) (ninS ne_nu_ra (ninS ne_nu_ga nin0)))
            have E_al := E_al.keep Kq
            have F_size_al := F_size_al.keep Kq (ninS (Ne.symm ne_a_al) (ninS ne_al_ra (ninS ne_al_ga nin0)))
            have V_la := V_la.keep Kq (ninS (Ne.symm ne_a_la) (ninS ne_la_ra (ninS ne_la_ga nin0)))
            obtain ⟨E_a, F_latest_a, F_raised_a, F_ages_a, F_numbers_a, F_entries_a, F_size_a, F_sealed_a, F_present_a, F_hash_a, F_table_a, F_earlier_a, F_later_a⟩ := F_a
            have N8 := Fr.app N0 Nq
            refine own_go (U' := T8.setTop (mkF m 72 #[.val (.ref a), .val (.int (Int32.ofNat n)), .val (.int p2), .val (.int (Int32.ofNat j)), .val (.int (ag.getD j 0)), .unset] [(.int (Int32.ofNat en))])) st8 ?_
            refine own_go (U' := T8.setTop (mkF m 74 #[.val (.ref a), .val (.int (Int32.ofNat n)), .val (.int p2), .val (.int (Int32.ofNat j)), .val (.int (ag.getD j 0)), .val (.int (Int32.ofNat en))] [])) (fun t k => XS.istore X8.here hx rfl (hb hby dr2_72) rfl (l' := #[.val (.ref a), .val (.int (Int32.ofNat n)), .val (.int p2), .val (.int (Int32.ofNat j)), .val (.int (ag.getD j 0)), .val (.int (Int32.ofNat en))]) rfl k) ?_
            refine own_go (U' := T8.setTop (mkF m 75 #[.val (.ref a), .val (.int (Int32.ofNat n)), .val (.int p2), .val (.int (Int32.ofNat j)), .val (.int (ag.getD j 0)), .val (.int (Int32.ofNat en))] [(.ref a)])) (fun t k => XS.aloadN X8.here hx rfl (hb hby dr2_74) rfl rfl k) ?_
            refine own_go (U' := T8.setTop (mkF m 76 #[.val (.ref a), .val (.int (Int32.ofNat n)), .val (.int p2), .val (.int (Int32.ofNat j)), .val (.int (ag.getD j 0)), .val (.int (Int32.ofNat en))] [(.int (Int32.ofNat j)), (.ref a)])) (fun t k => XS.iloadN X8.here hx rfl (hb hby dr2_75) rfl k) ?_
            refine own_go (U' := T8.setTop (mkF m 78 #[.val (.ref a), .val (.int (Int32.ofNat n)), .val (.int p2), .val (.int (Int32.ofNat j)), .val (.int (ag.getD j 0)), .val (.int (Int32.ofNat en))] [(.int (Int32.ofNat en)), (.int (Int32.ofNat j)), (.ref a)])) (fun t k => XS.iload X8.here hx rfl (hb hby dr2_76) rfl k) ?_
            obtain ⟨v9, T9, h9, L9, e9, X9, hQ9, st9⟩ := own_callP X8 hx hZ (y := (⟨"com/example/obedient_dog/obedientdog/topologydiscovery/AgeLog", "chain", "(II)V"⟩ : MethodName)) hown (hw _ (List.mem_of_getElem? (i := 165) rfl)) (hw _ (List.mem_of_getElem? (i := 166) rfl)) (own_selP (y0 := (⟨"com/example/obedient_dog/obedientdog/topologydiscovery/AgeLog", "raise", "(II)Z"⟩ : MethodName)) (hw _ (List.mem_of_getElem? (i := 74) rfl)) rfl (hw _ (List.mem_of_getElem? (i := 167) rfl)) (hw _ (List.mem_of_getElem? (i := 166) rfl)) (by decide)) (hw _ (List.mem_of_getElem? (i := 167) rfl)) (hw _ (List.mem_of_getElem? (i := 2) rfl)) (hw _ (List.mem_of_getElem? (i := 168) rfl)) (by decide) E_a (own_rmc0 l Z a0 hw a (Int32.ofNat j) (Int32.ofNat en) h8 n0 O g_a la ra ga nu ha kh _ _ _ _ _ _ htb j en (by omega) hen rfl rfl _ kr ⟨E_a, F_latest_a, F_raised_a, F_ages_a, F_numbers_a, F_entries_a, F_size_a, F_sealed_a, F_present_a, F_hash_a, F_table_a, F_earlier_a, F_later_a⟩ V_ra (by rw [List.length_set]; exact h_ra)) (W := 0) (by decide) (by decide) (g := (mkF m 78 #[.val (.ref a), .val (.int (Int32.ofNat n)), .val (.int p2), .val (.int (Int32.ofNat j)), .val (.int (ag.getD j 0)), .val (.int (Int32.ofNat en))] [(.int (Int32.ofNat en)), (.int (Int32.ofNat j)), (.ref a)])) rfl (by rw [hml]; rfl) (argsL := [(.int (Int32.ofNat j)), (.int (Int32.ofNat en))]) (rest := []) (lenOf own_pd3 rfl) rfl rfl (by show 2 * 0 + _ ≤ _; exact Nat.le_of_eq rfl) (hb hby dr2_78) e8 (by decide) (by decide)
            obtain ⟨rfl, Nq, Kq, xe, xl, ke, kl2, F_a, V_xe, V_xl, sx_xe, sx_xl, g_xe, g_xl, ne_xe_xl⟩ := hQ9
            have ne_xe_la : xe ≠ la := Ne.symm (Nat.ne_of_lt (Nat.lt_of_lt_of_le V_la.lt sx_xe))
            have ne_xl_la : xl ≠ la := Ne.symm (Nat.ne_of_lt (Nat.lt_of_lt_of_le V_la.lt sx_xl))
            have ne_xe_ra : xe ≠ ra := Ne.symm (Nat.ne_of_lt (Nat.lt_of_lt_of_le V_ra.lt sx_xe))
            have ne_xl_ra : xl ≠ ra := Ne.symm (Nat.ne_of_lt (Nat.lt_of_lt_of_le V_ra.lt sx_xl))
            have ne_xe_ga : xe ≠ ga := Ne.symm (Nat.ne_of_lt (Nat.lt_of_lt_of_le V_ga.lt sx_xe))
            have ne_xl_ga : xl ≠ ga := Ne.symm (Nat.ne_of_lt (Nat.lt_of_lt_of_le V_ga.lt sx_xl))
            have ne_xe_ha : xe ≠ ha := Ne.symm (Nat.ne_of_lt (Nat.lt_of_lt_of_le V_ha.lt sx_xe))
            have ne_xl_ha : xl ≠ ha := Ne.symm (Nat.ne_of_lt (Nat.lt_of_lt_of_le V_ha.lt sx_xl))
            have ne_a_xe : a ≠ xe := Nat.ne_of_lt (Nat.lt_of_lt_of_le E_a.lt sx_xe)
            have ne_a_xl : a ≠ xl := Nat.ne_of_lt (Nat.lt_of_lt_of_le E_a.lt sx_xl)
            have ne_nu_xe : nu ≠ xe := Nat.ne_of_lt (Nat.lt_of_lt_of_le E_nu.lt sx_xe)
            have ne_nu_xl : nu ≠ xl := Nat.ne_of_lt (Nat.lt_of_lt_of_le E_nu.lt sx_xl)
            have ne_al_xe : al ≠ xe := Nat.ne_of_lt (Nat.lt_of_lt_of_le E_al.lt sx_xe)
            have ne_al_xl : al ≠ xl := Nat.ne_of_lt (Nat.lt_of_lt_of_le E_al.lt sx_xl)
            have O := O.keep Kq (allS g_a all0)
            have E_a := E_a.keep Kq
            have E_nu := E_nu.keep Kq
            have F_hashes_nu := F_hashes_nu.keep Kq (ninS (Ne.symm ne_a_nu) nin0)
            have V_ha := V_ha.keep Kq (ninS (Ne.symm ne_a_ha) nin0)
            have F_links_nu := F_links_nu.keep Kq (ninS (Ne.symm ne_a_nu) nin0)
            have E_al := E_al.keep Kq
            have F_size_al := F_size_al.keep Kq (ninS (Ne.symm ne_a_al) nin0)
            have V_la := V_la.keep Kq (ninS (Ne.symm ne_a_la) nin0)
            have V_ra := V_ra.keep Kq (ninS (Ne.symm ne_a_ra) nin0)
            have V_ga := V_ga.keep Kq (ninS (Ne.symm ne_a_ga) nin0)
            obtain ⟨E_a, F_latest_a, F_raised_a, F_ages_a, F_numbers_a, F_entries_a, F_size_a, F_sealed_a, F_present_a, F_hash_a, F_table_a, F_earlier_a, F_later_a⟩ := F_a
            have N9 := Fr.app N8 Nq
            refine own_go (U' := T9.setTop (mkF m 81 #[.val (.ref a), .val (.int (Int32.ofNat n)), .val (.int p2), .val (.int (Int32.ofNat j)), .val (.int (ag.getD j 0)), .val (.int (Int32.ofNat en))] [])) st9 ?_
            refine own_go (U' := T9.setTop (mkF m 82 #[.val (.ref a), .val (.int (Int32.ofNat n)), .val (.int p2), .val (.int (Int32.ofNat j)), .val (.int (ag.getD j 0)), .val (.int (Int32.ofNat en))] [(.ref a)])) (fun t k => XS.aloadN X9.here hx rfl (hb hby dr2_81) rfl rfl k) ?_
            obtain ⟨T10, X10, e10, st10⟩ := getF X9 hx hZ hown (host := "") (Or.inl (hw _ (List.mem_of_getElem? (i := 63) rfl))) Via.refl e9 F_latest_a (g := (mkF m 82 #[.val (.ref a), .val (.int (Int32.ofNat n)), .val (.int p2), .val (.int (Int32.ofNat j)), .val (.int (ag.getD j 0)), .val (.int (Int32.ofNat en))] [(.ref a)])) rfl rfl (hb hby dr2_82)
            refine own_go (U' := T10.setTop (mkF m 85 #[.val (.ref a), .val (.int (Int32.ofNat n)), .val (.int p2), .val (.int (Int32.ofNat j)), .val (.int (ag.getD j 0)), .val (.int (Int32.ofNat en))] [(.ref la)])) st10 ?_
            refine own_go (U' := T10.setTop (mkF m 86 #[.val (.ref a), .val (.int (Int32.ofNat n)), .val (.int p2), .val (.int (Int32.ofNat j)), .val (.int (ag.getD j 0)), .val (.int (Int32.ofNat en))] [(.int (Int32.ofNat n)), (.ref la)])) (fun t k => XS.iloadN X10.here hx rfl (hb hby dr2_85) rfl k) ?_
            refine own_go (U' := T10.setTop (mkF m 88 #[.val (.ref a), .val (.int (Int32.ofNat n)), .val (.int p2), .val (.int (Int32.ofNat j)), .val (.int (ag.getD j 0)), .val (.int (Int32.ofNat en))] [(.int (Int32.ofNat en)), (.int (Int32.ofNat n)), (.ref la)])) (fun t k => XS.iload X10.here hx rfl (hb hby dr2_86) rfl k) ?_
            refine own_go (U' := T10.setTop (mkF m 89 #[.val (.ref a), .val (.int (Int32.ofNat n)), .val (.int p2), .val (.int (Int32.ofNat j)), .val (.int (ag.getD j 0)), .val (.int (Int32.ofNat en))] [(.int (1 : Int32)), (.int (Int32.ofNat en)), (.int (Int32.ofNat n)), (.ref la)])) (fun t k => XS.iconst X10.here hx rfl (hb hby dr2_88) k) ?_
            refine own_go (U' := T10.setTop (mkF m 90 #[.val (.ref a), .val (.int (Int32.ofNat n)), .val (.int p2), .val (.int (Int32.ofNat j)), .val (.int (ag.getD j 0)), .val (.int (Int32.ofNat en))] [(.int ((Int32.ofNat en) + (1 : Int32))), (.int (Int32.ofNat n)), (.ref la)])) (fun t k => XS.iadd X10.here hx rfl (hb hby dr2_89) rfl k) ?_
            rw [← own_succ]
            obtain ⟨T11, h11, X11, e11, W11, A11, st11⟩ := own_iastore X10 hx hZ e10 V_la (j := (Int32.ofNat n)) on.1 (i := n) on.2.1 (by rw [List.length_map]; exact hnl) (g := (mkF m 90 #[.val (.ref a), .val (.int (Int32.ofNat n)), .val (.int p2), .val (.int (Int32.ofNat j)), .val (.int (ag.getD j 0)), .val (.int (Int32.ofNat en))] [(.int (Int32.ofNat (en + 1))), (.int (Int32.ofNat n)), (.ref la)])) rfl rfl (hb hby dr2_90)
            have O := O.wr W11 g_la
            have E_a := E_a.wr W11
            have E_nu := E_nu.wr W11
            have F_hashes_nu := F_hashes_nu.other W11 (Or.inl ne_nu_la)
            have V_ha := V_ha.other W11 ne_ha_la
            have F_links_nu := F_links_nu.other W11 (Or.inl ne_nu_la)
            have E_al := E_al.wr W11
            have F_size_al := F_size_al.other W11 (Or.inl ne_al_la)
            have V_ra := V_ra.other W11 (Ne.symm ne_la_ra)
            have V_ga := V_ga.other W11 (Ne.symm ne_la_ga)
            have F_latest_a := F_latest_a.other W11 (Or.inl ne_a_la)
            have F_raised_a := F_raised_a.other W11 (Or.inl ne_a_la)
            have F_ages_a := F_ages_a.other W11 (Or.inl ne_a_la)
            have F_numbers_a := F_numbers_a.other W11 (Or.inl ne_a_la)
            have F_entries_a := F_entries_a.other W11 (Or.inl ne_a_la)
            have F_size_a := F_size_a.other W11 (Or.inl ne_a_la)
            have F_sealed_a := F_sealed_a.other W11 (Or.inl ne_a_la)
            have F_present_a := F_present_a.other W11 (Or.inl ne_a_la)
            have F_hash_a := F_hash_a.other W11 (Or.inl ne_a_la)
            have F_table_a := F_table_a.other W11 (Or.inl ne_a_la)
            have F_earlier_a := F_earlier_a.other W11 (Or.inl ne_a_la)
            have F_later_a := F_later_a.other W11 (Or.inl ne_a_la)
            have V_xe := V_xe.other W11 ne_xe_la
            have V_xl := V_xl.other W11 ne_xl_la
            have V_la : own_Ar Z h11 la kl .int (own_is (lt.set n (en + 1))) := ((own_is_set _ _ _) : ((own_is lt)).set (n) (.int (Int32.ofNat (en + 1))) = (own_is (lt.set n (en + 1)))) ▸ A11
            have N11 := Fr.snoc X11 N9 g_la
            refine own_go (U' := T11.setTop (mkF m 91 #[.val (.ref a), .val (.int (Int32.ofNat n)), .val (.int p2), .val (.int (Int32.ofNat j)), .val (.int (ag.getD j 0)), .val (.int (Int32.ofNat en))] [])) st11 ?_
            refine own_go (U' := T11.setTop (mkF m 101 #[.val (.ref a), .val (.int (Int32.ofNat n)), .val (.int p2), .val (.int (Int32.ofNat j)), .val (.int (ag.getD j 0)), .val (.int (Int32.ofNat en))] [])) (fun t k => XS.goto X11.here hx rfl (pc0 := 91) (pc' := 101) rfl (hb hby dr2_91) (by decide) (by decide) k) ?_
            refine own_go (U' := T11.setTop (mkF m 102 #[.val (.ref a), .val (.int (Int32.ofNat n)), .val (.int p2), .val (.int (Int32.ofNat j)), .val (.int (ag.getD j 0)), .val (.int (Int32.ofNat en))] [(.ref a)])) (fun t k => XS.aloadN X11.here hx rfl (hb hby dr2_101) rfl rfl k) ?_
            refine own_go (U' := T11.setTop (mkF m 103 #[.val (.ref a), .val (.int (Int32.ofNat n)), .val (.int p2), .val (.int (Int32.ofNat j)), .val (.int (ag.getD j 0)), .val (.int (Int32.ofNat en))] [(.int (Int32.ofNat n)), (.ref a)])) (fun t k => XS.iloadN X11.here hx rfl (hb hby dr2_102) rfl k) ?_
            refine own_go (U' := T11.setTop (mkF m 105 #[.val (.ref a), .val (.int (Int32.ofNat n)), .val (.int p2), .val (.int (Int32.ofNat j)), .val (.int (ag.getD j 0)), .val (.int (Int32.ofNat en))] [(.int (ag.getD j 0)), (.int (Int32.ofNat n)), (.ref a)])) (fun t k => XS.iload X11.here hx rfl (hb hby dr2_103) rfl k) ?_
            refine own_go (U' := T11.setTop (mkF m 106 #[.val (.ref a), .val (.int (Int32.ofNat n)), .val (.int p2), .val (.int (Int32.ofNat j)), .val (.int (ag.getD j 0)), .val (.int (Int32.ofNat en))] [(.int (-1 : Int32)), (.int (ag.getD j 0)), (.int (Int32.ofNat n)), (.ref a)])) (fun t k => XS.iconst X11.here hx rfl (hb hby dr2_105) k) ?_
            obtain ⟨v12, T12, h12, L12, e12, X12, hQ12, st12⟩ := own_callP X11 hx hZ (y := (⟨"com/example/obedient_dog/obedientdog/topologydiscovery/AgeLog", "count", "(III)V"⟩ : MethodName)) hown (hw _ (List.mem_of_getElem? (i := 89) rfl)) (hw _ (List.mem_of_getElem? (i := 90) rfl)) (own_selP (y0 := (⟨"com/example/obedient_dog/obedientdog/topologydiscovery/AgeLog", "raise", "(II)Z"⟩ : MethodName)) (hw _ (List.mem_of_getElem? (i := 74) rfl)) rfl (hw _ (List.mem_of_getElem? (i := 91) rfl)) (hw _ (List.mem_of_getElem? (i := 90) rfl)) (by decide)) (hw _ (List.mem_of_getElem? (i := 91) rfl)) (hw _ (List.mem_of_getElem? (i := 2) rfl)) (hw _ (List.mem_of_getElem? (i := 92) rfl)) (by decide) E_a (own_rmct l Z a0 hw a (Int32.ofNat n) (ag.getD j 0) (-1) h11 n0 g_a la ra ga nu ha kh _ _ _ _ _ _ _ _ htb (by rfl) (by rfl) n hn rfl ⟨E_a, F_latest_a, F_raised_a, F_ages_a, F_numbers_a, F_entries_a, F_size_a, F_sealed_a, F_present_a, F_hash_a, F_table_a, F_earlier_a, F_later_a⟩ E_nu F_hashes_nu V_ha) (W := 0) (by decide) (by decide) (g := (mkF m 106 #[.val (.ref a), .val (.int (Int32.ofNat n)), .val (.int p2), .val (.int (Int32.ofNat j)), .val (.int (ag.getD j 0)), .val (.int (Int32.ofNat en))] [(.int (-1 : Int32)), (.int (ag.getD j 0)), (.int (Int32.ofNat n)), (.ref a)])) rfl (by rw [hml]; rfl) (argsL := [(.int (Int32.ofNat n)), (.int (ag.getD j 0)), (.int (-1 : Int32))]) (rest := []) (lenOf own_pd1 rfl) rfl rfl (by show 2 * 0 + _ ≤ _; exact Nat.le_of_eq rfl) (hb hby dr2_106) e11 (by decide) (by decide)
            obtain ⟨rfl, Nq, Kq, pr0, hs0, F_a⟩ := hQ12
            have O := O.keep Kq (allS g_a all0)
            have E_a := E_a.keep Kq
            have E_nu := E_nu.keep Kq
            have F_hashes_nu := F_hashes_nu.keep Kq (ninS (Ne.symm ne_a_nu) nin0)
            have V_ha := V_ha.keep Kq (ninS (Ne.symm ne_a_ha) nin0)
            have F_links_nu := F_links_nu.keep Kq (ninS (Ne.symm ne_a_nu) nin0)
            have E_al := E_al.keep Kq
            have F_size_al := F_size_al.keep Kq (ninS (Ne.symm ne_a_al) nin0)
            have V_la := V_la.keep Kq (ninS (Ne.symm ne_a_la) nin0)
            have V_ra := V_ra.keep Kq (ninS (Ne.symm ne_a_ra) nin0)
            have V_ga := V_ga.keep Kq (ninS (Ne.symm ne_a_ga) nin0)
            have V_xe := V_xe.keep Kq (ninS (Ne.symm ne_a_xe) nin0)
            have V_xl := V_xl.keep Kq (ninS (Ne.symm ne_a_xl) nin0)
            obtain ⟨E_a, F_latest_a, F_raised_a, F_ages_a, F_numbers_a, F_entries_a, F_size_a, F_sealed_a, F_present_a, F_hash_a, F_table_a, F_earlier_a, F_later_a⟩ := F_a
            have N12 := Fr.app N11 Nq
            refine own_go (U' := T12.setTop (mkF m 109 #[.val (.ref a), .val (.int (Int32.ofNat n)), .val (.int p2), .val (.int (Int32.ofNat j)), .val (.int (ag.getD j 0)), .val (.int (Int32.ofNat en))] [])) st12 ?_
            refine own_go (U' := T12.setTop (mkF m 110 #[.val (.ref a), .val (.int (Int32.ofNat n)), .val (.int p2), .val (.int (Int32.ofNat j)), .val (.int (ag.getD j 0)), .val (.int (Int32.ofNat en))] [(.ref a)])) (fun t k => XS.aloadN X12.here hx rfl (hb hby dr2_109) rfl rfl k) ?_
            refine own_go (U' := T12.setTop (mkF m 111 #[.val (.ref a), .val (.int (Int32.ofNat n)), .val (.int p2), .val (.int (Int32.ofNat j)), .val (.int (ag.getD j 0)), .val (.int (Int32.ofNat en))] [(.int (Int32.ofNat n)), (.ref a)])) (fun t k => XS.iloadN X12.here hx rfl (hb hby dr2_110) rfl k) ?_
            refine own_go (U' := T12.setTop (mkF m 112 #[.val (.ref a), .val (.int (Int32.ofNat n)), .val (.int p2), .val (.int (Int32.ofNat j)), .val (.int (ag.getD j 0)), .val (.int (Int32.ofNat en))] [(.int p2), (.int (Int32.ofNat n)), (.ref a)])) (fun t k => XS.iloadN X12.here hx rfl (hb hby dr2_111) rfl k) ?_
            refine own_go (U' := T12.setTop (mkF m 113 #[.val (.ref a), .val (.int (Int32.ofNat n)), .val (.int p2), .val (.int (Int32.ofNat j)), .val (.int (ag.getD j 0)), .val (.int (Int32.ofNat en))] [(.int (1 : Int32)), (.int p2), (.int (Int32.ofNat n)), (.ref a)])) (fun t k => XS.iconst X12.here hx rfl (hb hby dr2_112) k) ?_
            obtain ⟨v13, T13, h13, L13, e13, X13, hQ13, st13⟩ := own_callP X12 hx hZ (y := (⟨"com/example/obedient_dog/obedientdog/topologydiscovery/AgeLog", "count", "(III)V"⟩ : MethodName)) hown (hw _ (List.mem_of_getElem? (i := 89) rfl)) (hw _ (List.mem_of_getElem? (i := 90) rfl)) (own_selP (y0 := (⟨"com/example/obedient_dog/obedientdog/topologydiscovery/AgeLog", "raise", "(II)Z"⟩ : MethodName)) (hw _ (List.mem_of_getElem? (i := 74) rfl)) rfl (hw _ (List.mem_of_getElem? (i := 91) rfl)) (hw _ (List.mem_of_getElem? (i := 90) rfl)) (by decide)) (hw _ (List.mem_of_getElem? (i := 91) rfl)) (hw _ (List.mem_of_getElem? (i := 2) rfl)) (hw _ (List.mem_of_getElem? (i := 92) rfl)) (by decide) E_a (own_rmct l Z a0 hw a (Int32.ofNat n) p2 1 h12 n0 g_a la ra ga nu ha kh _ _ _ _ _ _ _ _ htb (by rfl) (by rfl) n hn rfl ⟨E_a, F_latest_a, F_raised_a, F_ages_a, F_numbers_a, F_entries_a, F_size_a, F_sealed_a, F_present_a, F_hash_a, F_table_a, F_earlier_a, F_later_a⟩ E_nu F_hashes_nu V_ha) (W := 0) (by decide) (by decide) (g := (mkF m 113 #[.val (.ref a), .val (.int (Int32.ofNat n)), .val (.int p2), .val (.int (Int32.ofNat j)), .val (.int (ag.getD j 0)), .val (.int (Int32.ofNat en))] [(.int (1 : Int32)), (.int p2), (.int (Int32.ofNat n)), (.ref a)])) rfl (by rw [hml]; rfl) (argsL := [(.int (Int32.ofNat n)), (.int p2), (.int (1 : Int32))]) (rest := []) (lenOf own_pd1 rfl) rfl rfl (by show 2 * 0 + _ ≤ _; exact Nat.le_of_eq rfl) (hb hby dr2_113) e12 (by decide) (by decide)
            obtain ⟨rfl, Nq, Kq, pr1, hs1, F_a⟩ := hQ13
            have O := O.keep Kq (allS g_a all0)
            have E_a := E_a.keep Kq
            have E_nu := E_nu.keep Kq
            have F_hashes_nu := F_hashes_nu.keep Kq (ninS (Ne.symm ne_a_nu) nin0)
            have V_ha := V_ha.keep Kq (ninS (Ne.symm ne_a_ha) nin0)
            have F_links_nu := F_links_nu.keep Kq (ninS (Ne.symm ne_a_nu) nin0)
            have E_al := E_al.keep Kq
            have F_size_al := F_size_al.keep Kq (ninS (Ne.symm ne_a_al) nin0)
            have V_la := V_la.keep Kq (ninS (Ne.symm ne_a_la) nin0)
            have V_ra := V_ra.keep Kq (ninS (Ne.symm ne_a_ra) nin0)
            have V_ga := V_ga.keep Kq (ninS (Ne.symm ne_a_ga) nin0)
            have V_xe := V_xe.keep Kq (ninS (Ne.symm ne_a_xe) nin0)
            have V_xl := V_xl.keep Kq (ninS (Ne.symm ne_a_xl) nin0)
            obtain ⟨E_a, F_latest_a, F_raised_a, F_ages_a, F_numbers_a, F_entries_a, F_size_a, F_sealed_a, F_present_a, F_hash_a, F_table_a, F_earlier_a, F_later_a⟩ := F_a
            have N13 := Fr.app N12 Nq
            refine own_go (U' := T13.setTop (mkF m 116 #[.val (.ref a), .val (.int (Int32.ofNat n)), .val (.int p2), .val (.int (Int32.ofNat j)), .val (.int (ag.getD j 0)), .val (.int (Int32.ofNat en))] [])) st13 ?_
            refine own_go (U' := T13.setTop (mkF m 117 #[.val (.ref a), .val (.int (Int32.ofNat n)), .val (.int p2), .val (.int (Int32.ofNat j)), .val (.int (ag.getD j 0)), .val (.int (Int32.ofNat en))] [(.ref a)])) (fun t k => XS.aloadN X13.here hx rfl (hb hby dr2_116) rfl rfl k) ?_
            refine own_go (U' := T13.setTop (mkF m 118 #[.val (.ref a), .val (.int (Int32.ofNat n)), .val (.int p2), .val (.int (Int32.ofNat j)), .val (.int (ag.getD j 0)), .val (.int (Int32.ofNat en))] [.null, (.ref a)])) (fun t k => XS.aconstNull X13.here hx rfl (hb hby dr2_117) k) ?_
            obtain ⟨T14, h14, X14, e14, W14, st14⟩ := putF X13 hx hZ hown (host := "") (Or.inl (hw _ (List.mem_of_getElem? (i := 102) rfl))) Via.refl e13 F_table_a E_a (Or.inl (hw _ (List.mem_of_getElem? (i := 103) rfl))) (hw _ (List.mem_of_getElem? (i := 1) rfl)) (ty := (.object "com/example/obedient_dog/obedientdog/topologydiscovery/AgeTable")) (by decide) rfl rfl (g := (mkF m 118 #[.val (.ref a), .val (.int (Int32.ofNat n)), .val (.int p2), .val (.int (Int32.ofNat j)), .val (.int (ag.getD j 0)), .val (.int (Int32.ofNat en))] [.null, (.ref a)])) rfl rfl (hb hby dr2_118)
            have O := O.wr W14 g_a
            have E_a := E_a.wr W14
            have E_nu := E_nu.wr W14
            have F_hashes_nu := F_hashes_nu.other W14 (Or.inl (Ne.symm ne_a_nu))
            have V_ha := V_ha.other W14 (Ne.symm ne_a_ha)
            have F_links_nu := F_links_nu.other W14 (Or.inl (Ne.symm ne_a_nu))
            have E_al := E_al.wr W14
            have F_size_al := F_size_al.other W14 (Or.inl (Ne.symm ne_a_al))
            have V_la := V_la.other W14 (Ne.symm ne_a_la)
            have V_ra := V_ra.other W14 (Ne.symm ne_a_ra)
            have V_ga := V_ga.other W14 (Ne.symm ne_a_ga)
            have V_xe := V_xe.other W14 (Ne.symm ne_a_xe)
            have V_xl := V_xl.other W14 (Ne.symm ne_a_xl)
            have F_latest_a := F_latest_a.other W14 (Or.inr (slot_ne (Or.inl (hw _ (List.mem_of_getElem? (i := 64) rfl))) (Or.inl (hw _ (List.mem_of_getElem? (i := 103) rfl))) (by decide) (t := (.array .int)) (t' := (.object "com/example/obedient_dog/obedientdog/topologydiscovery/AgeTable")) (by decide) (by decide)))
            have F_raised_a := F_raised_a.other W14 (Or.inr (slot_ne (Or.inl (hw _ (List.mem_of_getElem? (i := 66) rfl))) (Or.inl (hw _ (List.mem_of_getElem? (i := 103) rfl))) (by decide) (t := (.array .int)) (t' := (.object "com/example/obedient_dog/obedientdog/topologydiscovery/AgeTable")) (by decide) (by decide)))
            have F_ages_a := F_ages_a.other W14 (Or.inr (slot_ne (Or.inl (hw _ (List.mem_of_getElem? (i := 68) rfl))) (Or.inl (hw _ (List.mem_of_getElem? (i := 103) rfl))) (by decide) (t := (.array .int)) (t' := (.object "com/example/obedient_dog/obedientdog/topologydiscovery/AgeTable")) (by decide) (by decide)))
            have F_numbers_a := F_numbers_a.other W14 (Or.inr (slot_ne (Or.inr (hw _ (List.mem_of_getElem? (i := 70) rfl))) (Or.inl (hw _ (List.mem_of_getElem? (i := 103) rfl))) (by decide) (t := (.object "com/example/obedient_dog/obedientdog/topologydiscovery/LinkNumbers")) (t' := (.object "com/example/obedient_dog/obedientdog/topologydiscovery/AgeTable")) (by decide) (by decide)))
            have F_entries_a := F_entries_a.other W14 (Or.inr (slot_ne (Or.inl (hw _ (List.mem_of_getElem? (i := 86) rfl))) (Or.inl (hw _ (List.mem_of_getElem? (i := 103) rfl))) (by decide) (t := .int) (t' := (.object "com/example/obedient_dog/obedientdog/topologydiscovery/AgeTable")) (by decide) (by decide)))
            have F_size_a := F_size_a.other W14 (Or.inr (slot_ne (Or.inl (hw _ (List.mem_of_getElem? (i := 88) rfl))) (Or.inl (hw _ (List.mem_of_getElem? (i := 103) rfl))) (by decide) (t := .int) (t' := (.object "com/example/obedient_dog/obedientdog/topologydiscovery/AgeTable")) (by decide) (by decide)))
            have F_sealed_a := F_sealed_a.other W14 (Or.inr (slot_ne (Or.inl (hw _ (List.mem_of_getElem? (i := 110) rfl))) (Or.inl (hw _ (List.mem_of_getElem? (i := 103) rfl))) (by decide) (t := .int) (t' := (.object "com/example/obedient_dog/obedientdog/topologydiscovery/AgeTable")) (by decide) (by decide)))
            have F_present_a := F_present_a.other W14 (Or.inr (slot_ne (Or.inl (hw _ (List.mem_of_getElem? (i := 94) rfl))) (Or.inl (hw _ (List.mem_of_getElem? (i := 103) rfl))) (by decide) (t := .int) (t' := (.object "com/example/obedient_dog/obedientdog/topologydiscovery/AgeTable")) (by decide) (by decide)))
            have F_hash_a := F_hash_a.other W14 (Or.inr (slot_ne (Or.inl (hw _ (List.mem_of_getElem? (i := 96) rfl))) (Or.inl (hw _ (List.mem_of_getElem? (i := 103) rfl))) (by decide) (t := .int) (t' := (.object "com/example/obedient_dog/obedientdog/topologydiscovery/AgeTable")) (by decide) (by decide)))
            have F_earlier_a := F_earlier_a.other W14 (Or.inr (slot_ne (Or.inl (hw _ (List.mem_of_getElem? (i := 170) rfl))) (Or.inl (hw _ (List.mem_of_getElem? (i := 103) rfl))) (by decide) (t := (.array .int)) (t' := (.object "com/example/obedient_dog/obedientdog/topologydiscovery/AgeTable")) (by decide) (by decide)))
            have F_later_a := F_later_a.other W14 (Or.inr (slot_ne (Or.inl (hw _ (List.mem_of_getElem? (i := 172) rfl))) (Or.inl (hw _ (List.mem_of_getElem? (i := 103) rfl))) (by decide) (t := (.array .int)) (t' := (.object "com/example/obedient_dog/obedientdog/topologydiscovery/AgeTable")) (by decide) (by decide)))
            have F_table_a := F_table_a.same W14
            have N14 := Fr.snoc X14 N13 g_a
            refine own_go (U' := T14.setTop (mkF m 121 #[.val (.ref a), .val (.int (Int32.ofNat n)), .val (.int p2), .val (.int (Int32.ofNat j)), .val (.int (ag.getD j 0)), .val (.int (Int32.ofNat en))] [])) st14 ?_
            refine own_go (U' := T14.setTop (mkF m 122 #[.val (.ref a), .val (.int (Int32.ofNat n)), .val (.int p2), .val (.int (Int32.ofNat j)), .val (.int (ag.getD j 0)), .val (.int (Int32.ofNat en))] [(.int (1 : Int32))])) (fun t k => XS.iconst X14.here hx rfl (hb hby dr2_121) k) ?_
            refine own_retN X14 hx (t := .boolean) hret (by simp) hlk (hb hby dr2_122) ?_ (by decide) (by decide)
            rw [e14]
            obtain ⟨J1, J2⟩ := own_J_add p2 J hen hn
            rw [show own_grow lt n = lt from if_pos hnl] at J1 J2
            rw [← List.map_set] at V_ga
            refine ⟨_, _, _, _, ?_, N14, O, ⟨la, ra, ga, _, _, _, _, _, _, _, _, _, _, ⟨E_a, F_latest_a, F_raised_a, F_ages_a, F_numbers_a, F_entries_a, F_size_a, F_sealed_a, F_present_a, F_hash_a, F_table_a, F_earlier_a, F_later_a⟩, V_la, V_ra, V_ga, (by rw [List.length_set]; exact h_ra), ⟨E_nu, F_hashes_nu, V_ha, F_links_nu, E_al, F_size_al⟩, (Or.inr ⟨xe, xl, _, _, _, _, rfl, rfl, V_xe, V_xl, (by rw [List.length_set, List.length_replicate]), (by rw [List.length_set, List.length_replicate]), g_xe, g_xl, ne_xe_xl, ⟨ne_xe_la, ne_xe_ra, ne_xe_ga, ne_xe_ha⟩, ⟨ne_xl_la, ne_xl_ra, ne_xl_ga, ne_xl_ha⟩⟩), rfl, ⟨ne_la_ra, ne_la_ga, ne_ra_ga, ne_ha_la, ne_ha_ra, ne_ha_ga⟩, ⟨g_a, g_la, g_ra, g_ga⟩⟩, J1, by omega, ?_⟩
            · rw [if_pos hlt]; rfl
            · rw [own_up, if_pos hlt]; exact J2
          · refine own_go (U' := T7.setTop (mkF m 94 #[.val (.ref a), .val (.int (Int32.ofNat n)), .val (.int p2), .val (.int (Int32.ofNat j)), .val (.int (ag.getD j 0)), .unset] [])) (fun t k => XS.icmpYes X7.here hx rfl (pc0 := 63) (pc' := 94) rfl (hb hby dr2_63) rfl (flt hjs).2.1 (by decide) (by decide) k) ?_
            refine own_go (U' := T7.setTop (mkF m 95 #[.val (.ref a), .val (.int (Int32.ofNat n)), .val (.int p2), .val (.int (Int32.ofNat j)), .val (.int (ag.getD j 0)), .unset] [(.ref a)])) (fun t k => XS.aloadN X7.here hx rfl (hb hby dr2_94) rfl rfl k) ?_
            obtain ⟨T15, X15, e15, st15⟩ := getF X7 hx hZ hown (host := "") (Or.inl (hw _ (List.mem_of_getElem? (i := 67) rfl))) Via.refl e7 F_ages_a (g := (mkF m 95 #[.val (.ref a), .val (.int (Int32.ofNat n)), .val (.int p2), .val (.int (Int32.ofNat j)), .val (.int (ag.getD j 0)), .unset] [(.ref a)])) rfl rfl (hb hby dr2_95)
            refine own_go (U' := T15.setTop (mkF m 98 #[.val (.ref a), .val (.int (Int32.ofNat n)), .val (.int p2), .val (.int (Int32.ofNat j)), .val (.int (ag.getD j 0)), .unset] [(.ref ga)])) st15 ?_
            refine own_go (U' := T15.setTop (mkF m 99 #[.val (.ref a), .val (.int (Int32.ofNat n)), .val (.int p2), .val (.int (Int32.ofNat j)), .val (.int (ag.getD j 0)), .unset] [(.int (Int32.ofNat j)), (.ref ga)])) (fun t k => XS.iloadN X15.here hx rfl (hb hby dr2_98) rfl k) ?_
            refine own_go (U' := T15.setTop (mkF m 100 #[.val (.ref a), .val (.int (Int32.ofNat n)), .val (.int p2), .val (.int (Int32.ofNat j)), .val (.int (ag.getD j 0)), .unset] [(.int p2), (.int (Int32.ofNat j)), (.ref ga)])) (fun t k => XS.iloadN X15.here hx rfl (hb hby dr2_99) rfl k) ?_
            obtain ⟨T16, h16, X16, e16, W16, A16, st16⟩ := own_iastore X15 hx hZ e15 V_ga (j := (Int32.ofNat j)) oj.1 (i := j) oj.2.1 (by rw [h_ga]; omega) (g := (mkF m 100 #[.val (.ref a), .val (.int (Int32.ofNat n)), .val (.int p2), .val (.int (Int32.ofNat j)), .val (.int (ag.getD j 0)), .unset] [(.int p2), (.int (Int32.ofNat j)), (.ref ga)])) rfl rfl (hb hby dr2_100)
            have O := O.wr W16 g_ga
            have E_a := E_a.wr W16
            have F_latest_a := F_latest_a.other W16 (Or.inl ne_a_ga)
            have F_raised_a := F_raised_a.other W16 (Or.inl ne_a_ga)
            have F_ages_a := F_ages_a.other W16 (Or.inl ne_a_ga)
            have F_numbers_a := F_numbers_a.other W16 (Or.inl ne_a_ga)
            have F_entries_a := F_entries_a.other W16 (Or.inl ne_a_ga)
            have F_size_a := F_size_a.other W16 (Or.inl ne_a_ga)
            have F_sealed_a := F_sealed_a.other W16 (Or.inl ne_a_ga)
            have F_present_a := F_present_a.other W16 (Or.inl ne_a_ga)
            have F_hash_a := F_hash_a.other W16 (Or.inl ne_a_ga)
            have F_table_a := F_table_a.other W16 (Or.inl ne_a_ga)
            have F_earlier_a := F_earlier_a.other W16 (Or.inl ne_a_ga)
            have F_later_a := F_later_a.other W16 (Or.inl ne_a_ga)
            have E_nu := E_nu.wr W16
            have F_hashes_nu := F_hashes_nu.other W16 (Or.inl ne_nu_ga)
            have V_ha := V_ha.other W16 ne_ha_ga
            have F_links_nu := F_links_nu.other W16 (Or.inl ne_nu_ga)
            have E_al := E_al.wr W16
            have F_size_al := F_size_al.other W16 (Or.inl ne_al_ga)
            have V_la := V_la.other W16 ne_la_ga
            have V_ra := V_ra.other W16 ne_ra_ga
            have V_ga : own_Ar Z h16 ga kg .int ((ag.set j p2).map Value.int) := ((by rw [List.map_set]) : ((ag.map Value.int)).set (j) (.int p2) = ((ag.set j p2).map Value.int)) ▸ A16
            have N16 := Fr.snoc X16 N0 g_ga
            refine own_go (U' := T16.setTop (mkF m 101 #[.val (.ref a), .val (.int (Int32.ofNat n)), .val (.int p2), .val (.int (Int32.ofNat j)), .val (.int (ag.getD j 0)), .unset] [])) st16 ?_
            refine own_go (U' := T16.setTop (mkF m 102 #[.val (.ref a), .val (.int (Int32.ofNat n)), .val (.int p2), .val (.int (Int32.ofNat j)), .val (.int (ag.getD j 0)), .unset] [(.ref a)])) (fun t k => XS.aloadN X16.here hx rfl (hb hby dr2_101) rfl rfl k) ?_
            refine own_go (U' := T16.setTop (mkF m 103 #[.val (.ref a), .val (.int (Int32.ofNat n)), .val (.int p2), .val (.int (Int32.ofNat j)), .val (.int (ag.getD j 0)), .unset] [(.int (Int32.ofNat n)), (.ref a)])) (fun t k => XS.iloadN X16.here hx rfl (hb hby dr2_102) rfl k) ?_
            refine own_go (U' := T16.setTop (mkF m 105 #[.val (.ref a), .val (.int (Int32.ofNat n)), .val (.int p2), .val (.int (Int32.ofNat j)), .val (.int (ag.getD j 0)), .unset] [(.int (ag.getD j 0)), (.int (Int32.ofNat n)), (.ref a)])) (fun t k => XS.iload X16.here hx rfl (hb hby dr2_103) rfl k) ?_
            refine own_go (U' := T16.setTop (mkF m 106 #[.val (.ref a), .val (.int (Int32.ofNat n)), .val (.int p2), .val (.int (Int32.ofNat j)), .val (.int (ag.getD j 0)), .unset] [(.int (-1 : Int32)), (.int (ag.getD j 0)), (.int (Int32.ofNat n)), (.ref a)])) (fun t k => XS.iconst X16.here hx rfl (hb hby dr2_105) k) ?_
            obtain ⟨v17, T17, h17, L17, e17, X17, hQ17, st17⟩ := own_callP X16 hx hZ (y := (⟨"com/example/obedient_dog/obedientdog/topologydiscovery/AgeLog", "count", "(III)V"⟩ : MethodName)) hown (hw _ (List.mem_of_getElem? (i := 89) rfl)) (hw _ (List.mem_of_getElem? (i := 90) rfl)) (own_selP (y0 := (⟨"com/example/obedient_dog/obedientdog/topologydiscovery/AgeLog", "raise", "(II)Z"⟩ : MethodName)) (hw _ (List.mem_of_getElem? (i := 74) rfl)) rfl (hw _ (List.mem_of_getElem? (i := 91) rfl)) (hw _ (List.mem_of_getElem? (i := 90) rfl)) (by decide)) (hw _ (List.mem_of_getElem? (i := 91) rfl)) (hw _ (List.mem_of_getElem? (i := 2) rfl)) (hw _ (List.mem_of_getElem? (i := 92) rfl)) (by decide) E_a (own_rmct l Z a0 hw a (Int32.ofNat n) (ag.getD j 0) (-1) h16 n0 g_a la ra ga nu ha kh _ _ _ _ _ _ _ _ htb (by rfl) (by rfl) n hn rfl ⟨E_a, F_latest_a, F_raised_a, F_ages_a, F_numbers_a, F_entries_a, F_size_a, F_sealed_a, F_present_a, F_hash_a, F_table_a, F_earlier_a, F_later_a⟩ E_nu F_hashes_nu V_ha) (W := 0) (by decide) (by decide) (g := (mkF m 106 #[.val (.ref a), .val (.int (Int32.ofNat n)), .val (.int p2), .val (.int (Int32.ofNat j)), .val (.int (ag.getD j 0)), .unset] [(.int (-1 : Int32)), (.int (ag.getD j 0)), (.int (Int32.ofNat n)), (.ref a)])) rfl (by rw [hml]; rfl) (argsL := [(.int (Int32.ofNat n)), (.int (ag.getD j 0)), (.int (-1 : Int32))]) (rest := []) (lenOf own_pd1 rfl) rfl rfl (by show 2 * 0 + _ ≤ _; exact Nat.le_of_eq rfl) (hb hby dr2_106) e16 (by decide) (by decide)
            obtain ⟨rfl, Nq, Kq, pr0, hs0, F_a⟩ := hQ17
            have O := O.keep Kq (allS g_a all0)
            have E_a := E_a.keep Kq
            have E_nu := E_nu.keep Kq
            have F_hashes_nu := F_hashes_nu.keep Kq (ninS (Ne.symm ne_a_nu) nin0)
            have V_ha := V_ha.keep Kq (ninS (Ne.symm ne_a_ha) nin0)
            have F_links_nu := F_links_nu.keep Kq (ninS (Ne.symm ne_a_nu) nin0)
            have E_al := E_al.keep Kq
            have F_size_al := F_size_al.keep Kq (ninS (Ne.symm ne_a_al) nin0)
            have V_la := V_la.keep Kq (ninS (Ne.symm ne_a_la) nin0)
            have V_ra := V_ra.keep Kq (ninS (Ne.symm ne_a_ra) nin0)
            have V_ga := V_ga.keep Kq (ninS (Ne.symm ne_a_ga) nin0)
            obtain ⟨E_a, F_latest_a, F_raised_a, F_ages_a, F_numbers_a, F_entries_a, F_size_a, F_sealed_a, F_present_a, F_hash_a, F_table_a, F_earlier_a, F_later_a⟩ := F_a
            have N17 := Fr.app N16 Nq
            refine own_go (U' := T17.setTop (mkF m 109 #[.val (.ref a), .val (.int (Int32.ofNat n)), .val (.int p2), .val (.int (Int32.ofNat j)), .val (.int (ag.getD j 0)), .unset] [])) st17 ?_
            refine own_go (U' := T17.setTop (mkF m 110 #[.val (.ref a), .val (.int (Int32.ofNat n)), .val (.int p2), .val (.int (Int32.ofNat j)), .val (.int (ag.getD j 0)), .unset] [(.ref a)])) (fun t k => XS.aloadN X17.here hx rfl (hb hby dr2_109) rfl rfl k) ?_
            refine own_go (U' := T17.setTop (mkF m 111 #[.val (.ref a), .val (.int (Int32.ofNat n)), .val (.int p2), .val (.int (Int32.ofNat j)), .val (.int (ag.getD j 0)), .unset] [(.int (Int32.ofNat n)), (.ref a)])) (fun t k => XS.iloadN X17.here hx rfl (hb hby dr2_110) rfl k) ?_
            refine own_go (U' := T17.setTop (mkF m 112 #[.val (.ref a), .val (.int (Int32.ofNat n)), .val (.int p2), .val (.int (Int32.ofNat j)), .val (.int (ag.getD j 0)), .unset] [(.int p2), (.int (Int32.ofNat n)), (.ref a)])) (fun t k => XS.iloadN X17.here hx rfl (hb hby dr2_111) rfl k) ?_
            refine own_go (U' := T17.setTop (mkF m 113 #[.val (.ref a), .val (.int (Int32.ofNat n)), .val (.int p2), .val (.int (Int32.ofNat j)), .val (.int (ag.getD j 0)), .unset] [(.int (1 : Int32)), (.int p2), (.int (Int32.ofNat n)), (.ref a)])) (fun t k => XS.iconst X17.here hx rfl (hb hby dr2_112) k) ?_
            obtain ⟨v18, T18, h18, L18, e18, X18, hQ18, st18⟩ := own_callP X17 hx hZ (y := (⟨"com/example/obedient_dog/obedientdog/topologydiscovery/AgeLog", "count", "(III)V"⟩ : MethodName)) hown (hw _ (List.mem_of_getElem? (i := 89) rfl)) (hw _ (List.mem_of_getElem? (i := 90) rfl)) (own_selP (y0 := (⟨"com/example/obedient_dog/obedientdog/topologydiscovery/AgeLog", "raise", "(II)Z"⟩ : MethodName)) (hw _ (List.mem_of_getElem? (i := 74) rfl)) rfl (hw _ (List.mem_of_getElem? (i := 91) rfl)) (hw _ (List.mem_of_getElem? (i := 90) rfl)) (by decide)) (hw _ (List.mem_of_getElem? (i := 91) rfl)) (hw _ (List.mem_of_getElem? (i := 2) rfl)) (hw _ (List.mem_of_getElem? (i := 92) rfl)) (by decide) E_a (own_rmct l Z a0 hw a (Int32.ofNat n) p2 1 h17 n0 g_a la ra ga nu ha kh _ _ _ _ _ _ _ _ htb (by rfl) (by rfl) n hn rfl ⟨E_a, F_latest_a, F_raised_a, F_ages_a, F_numbers_a, F_entries_a, F_size_a, F_sealed_a, F_present_a, F_hash_a, F_table_a, F_earlier_a, F_later_a⟩ E_nu F_hashes_nu V_ha) (W := 0) (by decide) (by decide) (g := (mkF m 113 #[.val (.ref a), .val (.int (Int32.ofNat n)), .val (.int p2), .val (.int (Int32.ofNat j)), .val (.int (ag.getD j 0)), .unset] [(.int (1 : Int32)), (.int p2), (.int (Int32.ofNat n)), (.ref a)])) rfl (by rw [hml]; rfl) (argsL := [(.int (Int32.ofNat n)), (.int p2), (.int (1 : Int32))]) (rest := []) (lenOf own_pd1 rfl) rfl rfl (by show 2 * 0 + _ ≤ _; exact Nat.le_of_eq rfl) (hb hby dr2_113) e17 (by decide) (by decide)
            obtain ⟨rfl, Nq, Kq, pr1, hs1, F_a⟩ := hQ18
            have O := O.keep Kq (allS g_a all0)
            have E_a := E_a.keep Kq
            have E_nu := E_nu.keep Kq
            have F_hashes_nu := F_hashes_nu.keep Kq (ninS (Ne.symm ne_a_nu) nin0)
            have V_ha := V_ha.keep Kq (ninS (Ne.symm ne_a_ha) nin0)
            have F_links_nu := F_links_nu.keep Kq (ninS (Ne.symm ne_a_nu) nin0)
            have E_al := E_al.keep Kq
            have F_size_al := F_size_al.keep Kq (ninS (Ne.symm ne_a_al) nin0)
            have V_la := V_la.keep Kq (ninS (Ne.symm ne_a_la) nin0)
            have V_ra := V_ra.keep Kq (ninS (Ne.symm ne_a_ra) nin0)
            have V_ga := V_ga.keep Kq (ninS (Ne.symm ne_a_ga) nin0)
            obtain ⟨E_a, F_latest_a, F_raised_a, F_ages_a, F_numbers_a, F_entries_a, F_size_a, F_sealed_a, F_present_a, F_hash_a, F_table_a, F_earlier_a, F_later_a⟩ := F_a
            have N18 := Fr.app N17 Nq
            refine own_go (U' := T18.setTop (mkF m 116 #[.val (.ref a), .val (.int (Int32.ofNat n)), .val (.int p2), .val (.int (Int32.ofNat j)), .val (.int (ag.getD j 0)), .unset] [])) st18 ?_
            refine own_go (U' := T18.setTop (mkF m 117 #[.val (.ref a), .val (.int (Int32.ofNat n)), .val (.int p2), .val (.int (Int32.ofNat j)), .val (.int (ag.getD j 0)), .unset] [(.ref a)])) (fun t k => XS.aloadN X18.here hx rfl (hb hby dr2_116) rfl rfl k) ?_
            refine own_go (U' := T18.setTop (mkF m 118 #[.val (.ref a), .val (.int (Int32.ofNat n)), .val (.int p2), .val (.int (Int32.ofNat j)), .val (.int (ag.getD j 0)), .unset] [.null, (.ref a)])) (fun t k => XS.aconstNull X18.here hx rfl (hb hby dr2_117) k) ?_
            obtain ⟨T19, h19, X19, e19, W19, st19⟩ := putF X18 hx hZ hown (host := "") (Or.inl (hw _ (List.mem_of_getElem? (i := 102) rfl))) Via.refl e18 F_table_a E_a (Or.inl (hw _ (List.mem_of_getElem? (i := 103) rfl))) (hw _ (List.mem_of_getElem? (i := 1) rfl)) (ty := (.object "com/example/obedient_dog/obedientdog/topologydiscovery/AgeTable")) (by decide) rfl rfl (g := (mkF m 118 #[.val (.ref a), .val (.int (Int32.ofNat n)), .val (.int p2), .val (.int (Int32.ofNat j)), .val (.int (ag.getD j 0)), .unset] [.null, (.ref a)])) rfl rfl (hb hby dr2_118)
            have O := O.wr W19 g_a
            have E_a := E_a.wr W19
            have E_nu := E_nu.wr W19
            have F_hashes_nu := F_hashes_nu.other W19 (Or.inl (Ne.symm ne_a_nu))
            have V_ha := V_ha.other W19 (Ne.symm ne_a_ha)
            have F_links_nu := F_links_nu.other W19 (Or.inl (Ne.symm ne_a_nu))
            have E_al := E_al.wr W19
            have F_size_al := F_size_al.other W19 (Or.inl (Ne.symm ne_a_al))
            have V_la := V_la.other W19 (Ne.symm ne_a_la)
            have V_ra := V_ra.other W19 (Ne.symm ne_a_ra)
            have V_ga := V_ga.other W19 (Ne.symm ne_a_ga)
            have F_latest_a := F_latest_a.other W19 (Or.inr (slot_ne (Or.inl (hw _ (List.mem_of_getElem? (i := 64) rfl))) (Or.inl (hw _ (List.mem_of_getElem? (i := 103) rfl))) (by decide) (t := (.array .int)) (t' := (.object "com/example/obedient_dog/obedientdog/topologydiscovery/AgeTable")) (by decide) (by decide)))
            have F_raised_a := F_raised_a.other W19 (Or.inr (slot_ne (Or.inl (hw _ (List.mem_of_getElem? (i := 66) rfl))) (Or.inl (hw _ (List.mem_of_getElem? (i := 103) rfl))) (by decide) (t := (.array .int)) (t' := (.object "com/example/obedient_dog/obedientdog/topologydiscovery/AgeTable")) (by decide) (by decide)))
            have F_ages_a := F_ages_a.other W19 (Or.inr (slot_ne (Or.inl (hw _ (List.mem_of_getElem? (i := 68) rfl))) (Or.inl (hw _ (List.mem_of_getElem? (i := 103) rfl))) (by decide) (t := (.array .int)) (t' := (.object "com/example/obedient_dog/obedientdog/topologydiscovery/AgeTable")) (by decide) (by decide)))
            have F_numbers_a := F_numbers_a.other W19 (Or.inr (slot_ne (Or.inr (hw _ (List.mem_of_getElem? (i := 70) rfl))) (Or.inl (hw _ (List.mem_of_getElem? (i := 103) rfl))) (by decide) (t := (.object "com/example/obedient_dog/obedientdog/topologydiscovery/LinkNumbers")) (t' := (.object "com/example/obedient_dog/obedientdog/topologydiscovery/AgeTable")) (by decide) (by decide)))
            have F_entries_a := F_entries_a.other W19 (Or.inr (slot_ne (Or.inl (hw _ (List.mem_of_getElem? (i := 86) rfl))) (Or.inl (hw _ (List.mem_of_getElem? (i := 103) rfl))) (by decide) (t := .int) (t' := (.object "com/example/obedient_dog/obedientdog/topologydiscovery/AgeTable")) (by decide) (by decide)))
            have F_size_a := F_size_a.other W19 (Or.inr (slot_ne (Or.inl (hw _ (List.mem_of_getElem? (i := 88) rfl))) (Or.inl (hw _ (List.mem_of_getElem? (i := 103) rfl))) (by decide) (t := .int) (t' := (.object "com/example/obedient_dog/obedientdog/topologydiscovery/AgeTable")) (by decide) (by decide)))
            have F_sealed_a := F_sealed_a.other W19 (Or.inr (slot_ne (Or.inl (hw _ (List.mem_of_getElem? (i := 110) rfl))) (Or.inl (hw _ (List.mem_of_getElem? (i := 103) rfl))) (by decide) (t := .int) (t' := (.object "com/example/obedient_dog/obedientdog/topologydiscovery/AgeTable")) (by decide) (by decide)))
            have F_present_a := F_present_a.other W19 (Or.inr (slot_ne (Or.inl (hw _ (List.mem_of_getElem? (i := 94) rfl))) (Or.inl (hw _ (List.mem_of_getElem? (i := 103) rfl))) (by decide) (t := .int) (t' := (.object "com/example/obedient_dog/obedientdog/topologydiscovery/AgeTable")) (by decide) (by decide)))
            have F_hash_a := F_hash_a.other W19 (Or.inr (slot_ne (Or.inl (hw _ (List.mem_of_getElem? (i := 96) rfl))) (Or.inl (hw _ (List.mem_of_getElem? (i := 103) rfl))) (by decide) (t := .int) (t' := (.object "com/example/obedient_dog/obedientdog/topologydiscovery/AgeTable")) (by decide) (by decide)))
            have F_earlier_a := F_earlier_a.other W19 (Or.inr (slot_ne (Or.inl (hw _ (List.mem_of_getElem? (i := 170) rfl))) (Or.inl (hw _ (List.mem_of_getElem? (i := 103) rfl))) (by decide) (t := (.array .int)) (t' := (.object "com/example/obedient_dog/obedientdog/topologydiscovery/AgeTable")) (by decide) (by decide)))
            have F_later_a := F_later_a.other W19 (Or.inr (slot_ne (Or.inl (hw _ (List.mem_of_getElem? (i := 172) rfl))) (Or.inl (hw _ (List.mem_of_getElem? (i := 103) rfl))) (by decide) (t := (.array .int)) (t' := (.object "com/example/obedient_dog/obedientdog/topologydiscovery/AgeTable")) (by decide) (by decide)))
            have F_table_a := F_table_a.same W19
            have N19 := Fr.snoc X19 N18 g_a
            refine own_go (U' := T19.setTop (mkF m 121 #[.val (.ref a), .val (.int (Int32.ofNat n)), .val (.int p2), .val (.int (Int32.ofNat j)), .val (.int (ag.getD j 0)), .unset] [])) st19 ?_
            refine own_go (U' := T19.setTop (mkF m 122 #[.val (.ref a), .val (.int (Int32.ofNat n)), .val (.int p2), .val (.int (Int32.ofNat j)), .val (.int (ag.getD j 0)), .unset] [(.int (1 : Int32))])) (fun t k => XS.iconst X19.here hx rfl (hb hby dr2_121) k) ?_
            refine own_retN X19 hx (t := .boolean) hret (by simp) hlk (hb hby dr2_122) ?_ (by decide) (by decide)
            rw [e19]
            obtain ⟨J1, J2⟩ := own_J_set p2 J hen hv
            refine ⟨_, _, _, _, ?_, N19, O, ⟨la, ra, ga, _, _, _, _, _, _, _, _, _, _, ⟨E_a, F_latest_a, F_raised_a, F_ages_a, F_numbers_a, F_entries_a, F_size_a, F_sealed_a, F_present_a, F_hash_a, F_table_a, F_earlier_a, F_later_a⟩, V_la, V_ra, V_ga, h_ra, ⟨E_nu, F_hashes_nu, V_ha, F_links_nu, E_al, F_size_al⟩, (Or.inl ⟨rfl, rfl⟩), rfl, ⟨ne_la_ra, ne_la_ga, ne_ra_ga, ne_ha_la, ne_ha_ra, ne_ha_ga⟩, ⟨g_a, g_la, g_ra, g_ga⟩⟩, J1, by omega, ?_⟩
            · rw [if_pos hlt]; rfl
            · rw [own_up, if_pos hlt]; exact J2
        · refine own_go (U' := T6.setTop (mkF m 44 #[.val (.ref a), .val (.int (Int32.ofNat n)), .val (.int p2), .val (.int (Int32.ofNat j)), .val (.int (ag.getD j 0)), .unset] [])) (fun t k => XS.icmpNo X6.here hx rfl (hb hby dr2_41) rfl (flt hpos).2.2.1 k) ?_
          refine own_go (U' := T6.setTop (mkF m 45 #[.val (.ref a), .val (.int (Int32.ofNat n)), .val (.int p2), .val (.int (Int32.ofNat j)), .val (.int (ag.getD j 0)), .unset] [(.int (0 : Int32))])) (fun t k => XS.iconst X6.here hx rfl (hb hby dr2_44) k) ?_
          refine own_retN X6 hx (t := .boolean) hret (by simp) hlk (hb hby dr2_45) ?_ (by decide) (by decide)
          rw [e6]
          refine ⟨lt, ag, en, tb, ?_, N0, O, hT0, J, Nat.le_succ _, ?_⟩
          · rw [if_neg (fun q => hpos (by rw [← hag]; exact q))]; rfl
          · rw [own_up, if_neg (fun q => hpos (by rw [← hag]; exact q))]
      · obtain ⟨E_a, F_latest_a, F_raised_a, F_ages_a, F_numbers_a, F_entries_a, F_size_a, F_sealed_a, F_present_a, F_hash_a, F_table_a, F_earlier_a, F_later_a⟩ := F_a
        have ne_a_la : a ≠ la := by
          obtain ⟨cb, Ab, -⟩ := V_la
          exact ne_arr E_a (hw _ (List.mem_of_getElem? (i := 1) rfl)) Ab
        have ne_a_ra : a ≠ ra := by
          obtain ⟨cb, Ab, -⟩ := V_ra
          exact ne_arr E_a (hw _ (List.mem_of_getElem? (i := 1) rfl)) Ab
        have ne_a_ga : a ≠ ga := by
          obtain ⟨cb, Ab, -⟩ := V_ga
          exact ne_arr E_a (hw _ (List.mem_of_getElem? (i := 1) rfl)) Ab
        have ne_a_ha : a ≠ ha := by
          obtain ⟨cb, Ab, -⟩ := V_ha
          exact ne_arr E_a (hw _ (List.mem_of_getElem? (i := 1) rfl)) Ab
        have ne_nu_la : nu ≠ la := by
          obtain ⟨cb, Ab, -⟩ := V_la
          exact ne_arr E_nu (hw _ (List.mem_of_getElem? (i := 4) rfl)) Ab
        have ne_nu_ra : nu ≠ ra := by
          obtain ⟨cb, Ab, -⟩ := V_ra
          exact ne_arr E_nu (hw _ (List.mem_of_getElem? (i := 4) rfl)) Ab
        have ne_nu_ga : nu ≠ ga := by
          obtain ⟨cb, Ab, -⟩ := V_ga
          exact ne_arr E_nu (hw _ (List.mem_of_getElem? (i := 4) rfl)) Ab
        have ne_nu_ha : nu ≠ ha := by
          obtain ⟨cb, Ab, -⟩ := V_ha
          exact ne_arr E_nu (hw _ (List.mem_of_getElem? (i := 4) rfl)) Ab
        have ne_a_nu : a ≠ nu := ne_exa E_a E_nu (by decide)
        have ne_al_la : al ≠ la := by
          obtain ⟨cb, Ab, -⟩ := V_la
          exact ne_arr E_al (hw _ (List.mem_of_getElem? (i := 31) rfl)) Ab
        have ne_al_ra : al ≠ ra := by
          obtain ⟨cb, Ab, -⟩ := V_ra
          exact ne_arr E_al (hw _ (List.mem_of_getElem? (i := 31) rfl)) Ab
        have ne_al_ga : al ≠ ga := by
          obtain ⟨cb, Ab, -⟩ := V_ga
          exact ne_arr E_al (hw _ (List.mem_of_getElem? (i := 31) rfl)) Ab
        have ne_al_ha : al ≠ ha := by
          obtain ⟨cb, Ab, -⟩ := V_ha
          exact ne_arr E_al (hw _ (List.mem_of_getElem? (i := 31) rfl)) Ab
        have ne_a_al : a ≠ al := ne_exa E_a E_al (by decide)
        have ne_nu_al : nu ≠ al := ne_exa E_nu E_al (by decide)
        have ne_a_xe : a ≠ xe := by
          obtain ⟨cb, Ab, -⟩ := V_xe
          exact ne_arr E_a (hw _ (List.mem_of_getElem? (i := 1) rfl)) Ab
        have ne_a_xl : a ≠ xl := by
          obtain ⟨cb, Ab, -⟩ := V_xl
          exact ne_arr E_a (hw _ (List.mem_of_getElem? (i := 1) rfl)) Ab
        have ne_nu_xe : nu ≠ xe := by
          obtain ⟨cb, Ab, -⟩ := V_xe
          exact ne_arr E_nu (hw _ (List.mem_of_getElem? (i := 4) rfl)) Ab
        have ne_nu_xl : nu ≠ xl := by
          obtain ⟨cb, Ab, -⟩ := V_xl
          exact ne_arr E_nu (hw _ (List.mem_of_getElem? (i := 4) rfl)) Ab
        have ne_al_xe : al ≠ xe := by
          obtain ⟨cb, Ab, -⟩ := V_xe
          exact ne_arr E_al (hw _ (List.mem_of_getElem? (i := 31) rfl)) Ab
        have ne_al_xl : al ≠ xl := by
          obtain ⟨cb, Ab, -⟩ := V_xl
          exact ne_arr E_al (hw _ (List.mem_of_getElem? (i := 31) rfl)) Ab
        refine own_go (U' := s₁.setTop (mkF m 1 #[.val (.ref a), .val (.int (Int32.ofNat n)), .val (.int p2), .unset, .unset, .unset] [(.int (Int32.ofNat n))])) (fun t k => XS.iloadN X0.here hx rfl (hb hby dr2_0) rfl k) ?_
        refine own_go (U' := s₁.setTop (mkF m 2 #[.val (.ref a), .val (.int (Int32.ofNat n)), .val (.int p2), .unset, .unset, .unset] [(.ref a), (.int (Int32.ofNat n))])) (fun t k => XS.aloadN X0.here hx rfl (hb hby dr2_1) rfl rfl k) ?_
        obtain ⟨T20, X20, e20, st20⟩ := getF X0 hx hZ hown (host := "") (Or.inl (hw _ (List.mem_of_getElem? (i := 63) rfl))) Via.refl e0 F_latest_a (g := (mkF m 2 #[.val (.ref a), .val (.int (Int32.ofNat n)), .val (.int p2), .unset, .unset, .unset] [(.ref a), (.int (Int32.ofNat n))])) rfl rfl (hb hby dr2_2)
        refine own_go (U' := T20.setTop (mkF m 5 #[.val (.ref a), .val (.int (Int32.ofNat n)), .val (.int p2), .unset, .unset, .unset] [(.ref la), (.int (Int32.ofNat n))])) st20 ?_
        refine own_go (U' := T20.setTop (mkF m 6 #[.val (.ref a), .val (.int (Int32.ofNat n)), .val (.int p2), .unset, .unset, .unset] [(.int (Int32.ofNat lt.length)), (.int (Int32.ofNat n))])) (own_arrlen X20 hx hZ e20 V_la (n := (Int32.ofNat lt.length)) (by rw [List.length_map]) (g := (mkF m 5 #[.val (.ref a), .val (.int (Int32.ofNat n)), .val (.int p2), .unset, .unset, .unset] [(.ref la), (.int (Int32.ofNat n))])) rfl rfl (hb hby dr2_5)) ?_
        refine own_go (U' := T20.setTop (mkF m 9 #[.val (.ref a), .val (.int (Int32.ofNat n)), .val (.int p2), .unset, .unset, .unset] [])) (fun t k => XS.icmpNo X20.here hx rfl (hb hby dr2_6) rfl (tlt ((own_lt (by omega) (by omega)).mpr hnl)).2.1 k) ?_
        refine own_go (U' := T20.setTop (mkF m 10 #[.val (.ref a), .val (.int (Int32.ofNat n)), .val (.int p2), .unset, .unset, .unset] [(.ref a)])) (fun t k => XS.aloadN X20.here hx rfl (hb hby dr2_9) rfl rfl k) ?_
        obtain ⟨T21, X21, e21, st21⟩ := getF X20 hx hZ hown (host := "") (Or.inl (hw _ (List.mem_of_getElem? (i := 63) rfl))) Via.refl e20 F_latest_a (g := (mkF m 10 #[.val (.ref a), .val (.int (Int32.ofNat n)), .val (.int p2), .unset, .unset, .unset] [(.ref a)])) rfl rfl (hb hby dr2_10)
        refine own_go (U' := T21.setTop (mkF m 13 #[.val (.ref a), .val (.int (Int32.ofNat n)), .val (.int p2), .unset, .unset, .unset] [(.ref la)])) st21 ?_
        refine own_go (U' := T21.setTop (mkF m 14 #[.val (.ref a), .val (.int (Int32.ofNat n)), .val (.int p2), .unset, .unset, .unset] [(.int (Int32.ofNat n)), (.ref la)])) (fun t k => XS.iloadN X21.here hx rfl (hb hby dr2_13) rfl k) ?_
        refine own_go (U' := T21.setTop (mkF m 15 #[.val (.ref a), .val (.int (Int32.ofNat n)), .val (.int p2), .unset, .unset, .unset] [(.int (Int32.ofNat (lt.getD n 0)))])) (own_iaload X21 hx hZ e21 V_la (j := (Int32.ofNat n)) on.1 (i := n) on.2.1 (v := (.int (Int32.ofNat (lt.getD n 0)))) (own_is_at (by omega)) (g := (mkF m 14 #[.val (.ref a), .val (.int (Int32.ofNat n)), .val (.int p2), .unset, .unset, .unset] [(.int (Int32.ofNat n)), (.ref la)])) rfl rfl (hb hby dr2_14)) ?_
        refine own_go (U' := T21.setTop (mkF m 16 #[.val (.ref a), .val (.int (Int32.ofNat n)), .val (.int p2), .unset, .unset, .unset] [(.int (1 : Int32)), (.int (Int32.ofNat (lt.getD n 0)))])) (fun t k => XS.iconst X21.here hx rfl (hb hby dr2_15) k) ?_
        refine own_go (U' := T21.setTop (mkF m 17 #[.val (.ref a), .val (.int (Int32.ofNat n)), .val (.int p2), .unset, .unset, .unset] [(.int ((Int32.ofNat (lt.getD n 0)) - (1 : Int32)))])) (fun t k => XS.isub X21.here hx rfl (hb hby dr2_16) rfl k) ?_
        refine own_go (U' := T21.setTop (mkF m 21 #[.val (.ref a), .val (.int (Int32.ofNat n)), .val (.int p2), .unset, .unset, .unset] [(.int ((Int32.ofNat (lt.getD n 0)) - (1 : Int32)))])) (fun t k => XS.goto X21.here hx rfl (pc0 := 17) (pc' := 21) rfl (hb hby dr2_17) (by decide) (by decide) k) ?_
        rw [hv, own_up1]
        refine own_go (U' := T21.setTop (mkF m 22 #[.val (.ref a), .val (.int (Int32.ofNat n)), .val (.int p2), .val (.int (Int32.ofNat j)), .unset, .unset] [])) (fun t k => XS.istoreN X21.here hx rfl (hb hby dr2_21) rfl (l' := #[.val (.ref a), .val (.int (Int32.ofNat n)), .val (.int p2), .val (.int (Int32.ofNat j)), .unset, .unset]) rfl k) ?_
        refine own_go (U' := T21.setTop (mkF m 23 #[.val (.ref a), .val (.int (Int32.ofNat n)), .val (.int p2), .val (.int (Int32.ofNat j)), .unset, .unset] [(.int (Int32.ofNat j))])) (fun t k => XS.iloadN X21.here hx rfl (hb hby dr2_22) rfl k) ?_
        refine own_go (U' := T21.setTop (mkF m 30 #[.val (.ref a), .val (.int (Int32.ofNat n)), .val (.int p2), .val (.int (Int32.ofNat j)), .unset, .unset] [])) (fun t k => XS.ifYes X21.here hx rfl (pc0 := 23) (pc' := 30) rfl (hb hby dr2_23) rfl ((if0 _ _).trans (flt oj.1).2.1) (by decide) (by decide) k) ?_
        refine own_go (U' := T21.setTop (mkF m 31 #[.val (.ref a), .val (.int (Int32.ofNat n)), .val (.int p2), .val (.int (Int32.ofNat j)), .unset, .unset] [(.ref a)])) (fun t k => XS.aloadN X21.here hx rfl (hb hby dr2_30) rfl rfl k) ?_
        obtain ⟨T22, X22, e22, st22⟩ := getF X21 hx hZ hown (host := "") (Or.inl (hw _ (List.mem_of_getElem? (i := 67) rfl))) Via.refl e21 F_ages_a (g := (mkF m 31 #[.val (.ref a), .val (.int (Int32.ofNat n)), .val (.int p2), .val (.int (Int32.ofNat j)), .unset, .unset] [(.ref a)])) rfl rfl (hb hby dr2_31)
        refine own_go (U' := T22.setTop (mkF m 34 #[.val (.ref a), .val (.int (Int32.ofNat n)), .val (.int p2), .val (.int (Int32.ofNat j)), .unset, .unset] [(.ref ga)])) st22 ?_
        refine own_go (U' := T22.setTop (mkF m 35 #[.val (.ref a), .val (.int (Int32.ofNat n)), .val (.int p2), .val (.int (Int32.ofNat j)), .unset, .unset] [(.int (Int32.ofNat j)), (.ref ga)])) (fun t k => XS.iloadN X22.here hx rfl (hb hby dr2_34) rfl k) ?_
        refine own_go (U' := T22.setTop (mkF m 36 #[.val (.ref a), .val (.int (Int32.ofNat n)), .val (.int p2), .val (.int (Int32.ofNat j)), .unset, .unset] [(.int (ag.getD j 0))])) (own_iaload X22 hx hZ e22 V_ga (j := (Int32.ofNat j)) oj.1 (i := j) oj.2.1 (v := (.int (ag.getD j 0))) (own_agat (by omega)) (g := (mkF m 35 #[.val (.ref a), .val (.int (Int32.ofNat n)), .val (.int p2), .val (.int (Int32.ofNat j)), .unset, .unset] [(.int (Int32.ofNat j)), (.ref ga)])) rfl rfl (hb hby dr2_35)) ?_
        have hag : own_age lt ag n = ag.getD j 0 := by rw [own_age, if_neg (by omega), hv, Nat.add_sub_cancel]
        refine own_go (U' := T22.setTop (mkF m 38 #[.val (.ref a), .val (.int (Int32.ofNat n)), .val (.int p2), .val (.int (Int32.ofNat j)), .val (.int (ag.getD j 0)), .unset] [])) (fun t k => XS.istore X22.here hx rfl (hb hby dr2_36) rfl (l' := #[.val (.ref a), .val (.int (Int32.ofNat n)), .val (.int p2), .val (.int (Int32.ofNat j)), .val (.int (ag.getD j 0)), .unset]) rfl k) ?_
        refine own_go (U' := T22.setTop (mkF m 39 #[.val (.ref a), .val (.int (Int32.ofNat n)), .val (.int p2), .val (.int (Int32.ofNat j)), .val (.int (ag.getD j 0)), .unset] [(.int p2)])) (fun t k => XS.iloadN X22.here hx rfl (hb hby dr2_38) rfl k) ?_
        refine own_go (U' := T22.setTop (mkF m 41 #[.val (.ref a), .val (.int (Int32.ofNat n)), .val (.int p2), .val (.int (Int32.ofNat j)), .val (.int (ag.getD j 0)), .unset] [(.int (ag.getD j 0)), (.int p2)])) (fun t k => XS.iload X22.here hx rfl (hb hby dr2_39) rfl k) ?_
        by_cases hpos : (ag.getD j 0) < p2
        · refine own_go (U' := T22.setTop (mkF m 46 #[.val (.ref a), .val (.int (Int32.ofNat n)), .val (.int p2), .val (.int (Int32.ofNat j)), .val (.int (ag.getD j 0)), .unset] [])) (fun t k => XS.icmpYes X22.here hx rfl (pc0 := 41) (pc' := 46) rfl (hb hby dr2_41) rfl (tlt hpos).2.2.1 (by decide) (by decide) k) ?_
          have hlt : own_age lt ag n < p2 := by rw [hag]; exact hpos
          refine own_go (U' := T22.setTop (mkF m 47 #[.val (.ref a), .val (.int (Int32.ofNat n)), .val (.int p2), .val (.int (Int32.ofNat j)), .val (.int (ag.getD j 0)), .unset] [(.int (Int32.ofNat j))])) (fun t k => XS.iloadN X22.here hx rfl (hb hby dr2_46) rfl k) ?_
          refine own_go (U' := T22.setTop (mkF m 58 #[.val (.ref a), .val (.int (Int32.ofNat n)), .val (.int p2), .val (.int (Int32.ofNat j)), .val (.int (ag.getD j 0)), .unset] [])) (fun t k => XS.ifYes X22.here hx rfl (pc0 := 47) (pc' := 58) rfl (hb hby dr2_47) rfl ((if0 _ _).trans (flt oj.1).2.1) (by decide) (by decide) k) ?_
          refine own_go (U' := T22.setTop (mkF m 59 #[.val (.ref a), .val (.int (Int32.ofNat n)), .val (.int p2), .val (.int (Int32.ofNat j)), .val (.int (ag.getD j 0)), .unset] [(.int (Int32.ofNat j))])) (fun t k => XS.iloadN X22.here hx rfl (hb hby dr2_58) rfl k) ?_
          refine own_go (U' := T22.setTop (mkF m 60 #[.val (.ref a), .val (.int (Int32.ofNat n)), .val (.int p2), .val (.int (Int32.ofNat j)), .val (.int (ag.getD j 0)), .unset] [(.ref a), (.int (Int32.ofNat j))])) (fun t k => XS.aloadN X22.here hx rfl (hb hby dr2_59) rfl rfl k) ?_
          obtain ⟨T23, X23, e23, st23⟩ := getF X22 hx hZ hown (host := "") (Or.inl (hw _ (List.mem_of_getElem? (i := 109) rfl))) Via.refl e22 F_sealed_a (g := (mkF m 60 #[.val (.ref a), .val (.int (Int32.ofNat n)), .val (.int p2), .val (.int (Int32.ofNat j)), .val (.int (ag.getD j 0)), .unset] [(.ref a), (.int (Int32.ofNat j))])) rfl rfl (hb hby dr2_60)
          refine own_go (U' := T23.setTop (mkF m 63 #[.val (.ref a), .val (.int (Int32.ofNat n)), .val (.int p2), .val (.int (Int32.ofNat j)), .val (.int (ag.getD j 0)), .unset] [(.int (Int32.ofNat se)), (.int (Int32.ofNat j))])) st23 ?_
          by_cases hjs : (Int32.ofNat j) < (Int32.ofNat se)
          · refine own_go (U' := T23.setTop (mkF m 66 #[.val (.ref a), .val (.int (Int32.ofNat n)), .val (.int p2), .val (.int (Int32.ofNat j)), .val (.int (ag.getD j 0)), .unset] [])) (fun t k => XS.icmpNo X23.here hx rfl (hb hby dr2_63) rfl (tlt hjs).2.1 k) ?_
            have hjs := (own_lt (by omega) (by omega)).mp hjs
            refine own_go (U' := T23.setTop (mkF m 67 #[.val (.ref a), .val (.int (Int32.ofNat n)), .val (.int p2), .val (.int (Int32.ofNat j)), .val (.int (ag.getD j 0)), .unset] [(.ref a)])) (fun t k => XS.aloadN X23.here hx rfl (hb hby dr2_66) rfl rfl k) ?_
            refine own_go (U' := T23.setTop (mkF m 68 #[.val (.ref a), .val (.int (Int32.ofNat n)), .val (.int p2), .val (.int (Int32.ofNat j)), .val (.int (ag.getD j 0)), .unset] [(.int (Int32.ofNat n)), (.ref a)])) (fun t k => XS.iloadN X23.here hx rfl (hb hby dr2_67) rfl k) ?_
            refine own_go (U' := T23.setTop (mkF m 69 #[.val (.ref a), .val (.int (Int32.ofNat n)), .val (.int p2), .val (.int (Int32.ofNat j)), .val (.int (ag.getD j 0)), .unset] [(.int p2), (.int (Int32.ofNat n)), (.ref a)])) (fun t k => XS.iloadN X23.here hx rfl (hb hby dr2_68) rfl k) ?_
            obtain ⟨v24, T24, h24, L24, e24, X24, hQ24, st24⟩ := own_callP X23 hx hZ (y := (⟨"com/example/obedient_dog/obedientdog/topologydiscovery/AgeLog", "append", "(II)I"⟩ : MethodName)) hown (hw _ (List.mem_of_getElem? (i := 81) rfl)) (hw _ (List.mem_of_getElem? (i := 82) rfl)) (own_selP (y0 := (⟨"com/example/obedient_dog/obedientdog/topologydiscovery/AgeLog", "raise", "(II)Z"⟩ : MethodName)) (hw _ (List.mem_of_getElem? (i := 74) rfl)) rfl (hw _ (List.mem_of_getElem? (i := 83) rfl)) (hw _ (List.mem_of_getElem? (i := 82) rfl)) (by decide)) (hw _ (List.mem_of_getElem? (i := 83) rfl)) (hw _ (List.mem_of_getElem? (i := 2) rfl)) (hw _ (List.mem_of_getElem? (i := 84) rfl)) (by decide) E_a (own_rmap l Z a0 hw a (Int32.ofNat n) p2 h0 n0 g_a la ra ga nu ha kh (Int32.ofNat en) sz (Int32.ofNat se) pr hs tb (.ref xe) (.ref xl) htb rfl rfl en hen rfl _ _ kr kg g_ra g_ga ne_ra_ga ⟨E_a, F_latest_a, F_raised_a, F_ages_a, F_numbers_a, F_entries_a, F_size_a, F_sealed_a, F_present_a, F_hash_a, F_table_a, F_earlier_a, F_later_a⟩ V_ra h_ra V_ga h_ga) (W := 0) (by decide) (by decide) (g := (mkF m 69 #[.val (.ref a), .val (.int (Int32.ofNat n)), .val (.int p2), .val (.int (Int32.ofNat j)), .val (.int (ag.getD j 0)), .unset] [(.int p2), (.int (Int32.ofNat n)), (.ref a)])) rfl (by rw [hml]; rfl) (argsL := [(.int (Int32.ofNat n)), (.int p2)]) (rest := []) (lenOf own_pd2 rfl) rfl rfl (by show 2 * 0 + _ ≤ _; exact Nat.le_of_eq rfl) (hb hby dr2_69) e23 (by decide) (by decide)
            obtain ⟨rfl, Nq, Kq, F_a, V_ra, V_ga⟩ := hQ24
            have O := O.keep Kq (allS g_a (allS g_ra (allS g_ga all0)))
            have E_a := E_a.keep Kq
            have E_nu := E_nu.keep Kq
            have F_hashes_nu := F_hashes_nu.keep Kq (ninS (Ne.symm ne_a_nu) (ninS ne_nu_ra (ninS ne_nu_ga nin0)))
            have V_ha := V_ha.keep Kq (ninS (Ne.symm ne_a_ha) (ninS ne_ha_ra (ninS ne_ha_ga nin0)))
            have F_links_nu := F_links_nu.keep Kq (ninS (Ne.symm ne_a_nu) (ninS ne_nu_ra (ninS ne_nu_ga nin0)))
            have E_al := E_al.keep Kq
            have F_size_al := F_size_al.keep Kq (ninS (Ne.symm ne_a_al) (ninS ne_al_ra (ninS ne_al_ga nin0)))
            have V_la := V_la.keep Kq (ninS (Ne.symm ne_a_la) (ninS ne_la_ra (ninS ne_la_ga nin0)))
            have V_xe := V_xe.keep Kq (ninS (Ne.symm ne_a_xe) (ninS ne_xe_ra (ninS ne_xe_ga nin0)))
            have V_xl := V_xl.keep Kq (ninS (Ne.symm ne_a_xl) (ninS ne_xl_ra (ninS ne_xl_ga nin0)))
            obtain ⟨E_a, F_latest_a, F_raised_a, F_ages_a, F_numbers_a, F_entries_a, F_size_a, F_sealed_a, F_present_a, F_hash_a, F_table_a, F_earlier_a, F_later_a⟩ := F_a
            have N24 := Fr.app N0 Nq
            refine own_go (U' := T24.setTop (mkF m 72 #[.val (.ref a), .val (.int (Int32.ofNat n)), .val (.int p2), .val (.int (Int32.ofNat j)), .val (.int (ag.getD j 0)), .unset] [(.int (Int32.ofNat en))])) st24 ?_
            refine own_go (U' := T24.setTop (mkF m 74 #[.val (.ref a), .val (.int (Int32.ofNat n)), .val (.int p2), .val (.int (Int32.ofNat j)), .val (.int (ag.getD j 0)), .val (.int (Int32.ofNat en))] [])) (fun t k => XS.istore X24.here hx rfl (hb hby dr2_72) rfl (l' := #[.val (.ref a), .val (.int (Int32.ofNat n)), .val (.int p2), .val (.int (Int32.ofNat j)), .val (.int (ag.getD j 0)), .val (.int (Int32.ofNat en))]) rfl k) ?_
            refine own_go (U' := T24.setTop (mkF m 75 #[.val (.ref a), .val (.int (Int32.ofNat n)), .val (.int p2), .val (.int (Int32.ofNat j)), .val (.int (ag.getD j 0)), .val (.int (Int32.ofNat en))] [(.ref a)])) (fun t k => XS.aloadN X24.here hx rfl (hb hby dr2_74) rfl rfl k) ?_
            refine own_go (U' := T24.setTop (mkF m 76 #[.val (.ref a), .val (.int (Int32.ofNat n)), .val (.int p2), .val (.int (Int32.ofNat j)), .val (.int (ag.getD j 0)), .val (.int (Int32.ofNat en))] [(.int (Int32.ofNat j)), (.ref a)])) (fun t k => XS.iloadN X24.here hx rfl (hb hby dr2_75) rfl k) ?_
            refine own_go (U' := T24.setTop (mkF m 78 #[.val (.ref a), .val (.int (Int32.ofNat n)), .val (.int p2), .val (.int (Int32.ofNat j)), .val (.int (ag.getD j 0)), .val (.int (Int32.ofNat en))] [(.int (Int32.ofNat en)), (.int (Int32.ofNat j)), (.ref a)])) (fun t k => XS.iload X24.here hx rfl (hb hby dr2_76) rfl k) ?_
            obtain ⟨v25, T25, h25, L25, e25, X25, hQ25, st25⟩ := own_callP X24 hx hZ (y := (⟨"com/example/obedient_dog/obedientdog/topologydiscovery/AgeLog", "chain", "(II)V"⟩ : MethodName)) hown (hw _ (List.mem_of_getElem? (i := 165) rfl)) (hw _ (List.mem_of_getElem? (i := 166) rfl)) (own_selP (y0 := (⟨"com/example/obedient_dog/obedientdog/topologydiscovery/AgeLog", "raise", "(II)Z"⟩ : MethodName)) (hw _ (List.mem_of_getElem? (i := 74) rfl)) rfl (hw _ (List.mem_of_getElem? (i := 167) rfl)) (hw _ (List.mem_of_getElem? (i := 166) rfl)) (by decide)) (hw _ (List.mem_of_getElem? (i := 167) rfl)) (hw _ (List.mem_of_getElem? (i := 2) rfl)) (hw _ (List.mem_of_getElem? (i := 168) rfl)) (by decide) E_a (own_rmc1 l Z a0 hw a (Int32.ofNat j) (Int32.ofNat en) h24 n0 g_a la ra ga nu ha kh _ _ _ _ _ _ xe xl htb j en (by omega) hen rfl rfl es ls ke kl2 hes hls g_xe g_xl ne_xe_xl ⟨E_a, F_latest_a, F_raised_a, F_ages_a, F_numbers_a, F_entries_a, F_size_a, F_sealed_a, F_present_a, F_hash_a, F_table_a, F_earlier_a, F_later_a⟩ V_xe V_xl) (W := 0) (by decide) (by decide) (g := (mkF m 78 #[.val (.ref a), .val (.int (Int32.ofNat n)), .val (.int p2), .val (.int (Int32.ofNat j)), .val (.int (ag.getD j 0)), .val (.int (Int32.ofNat en))] [(.int (Int32.ofNat en)), (.int (Int32.ofNat j)), (.ref a)])) rfl (by rw [hml]; rfl) (argsL := [(.int (Int32.ofNat j)), (.int (Int32.ofNat en))]) (rest := []) (lenOf own_pd3 rfl) rfl rfl (by show 2 * 0 + _ ≤ _; exact Nat.le_of_eq rfl) (hb hby dr2_78) e24 (by decide) (by decide)
            obtain ⟨rfl, Nq, Kq, F_a, V_xe, V_xl⟩ := hQ25
            have O := O.keep Kq (allS g_a (allS g_xe (allS g_xl all0)))
            have E_a := E_a.keep Kq
            have E_nu := E_nu.keep Kq
            have F_hashes_nu := F_hashes_nu.keep Kq (ninS (Ne.symm ne_a_nu) (ninS ne_nu_xe (ninS ne_nu_xl nin0)))
            have V_ha := V_ha.keep Kq (ninS (Ne.symm ne_a_ha) (ninS (Ne.symm ne_xe_ha) (ninS (Ne.symm ne_xl_ha) nin0)))
            have F_links_nu := F_links_nu.keep Kq (ninS (Ne.symm ne_a_nu) (ninS ne_nu_xe (ninS ne_nu_xl nin0)))
            have E_al := E_al.keep Kq
            have F_size_al := F_size_al.keep Kq (ninS (Ne.symm ne_a_al) (ninS ne_al_xe (ninS ne_al_xl nin0)))
            have V_la := V_la.keep Kq (ninS (Ne.symm ne_a_la) (ninS (Ne.symm ne_xe_la) (ninS (Ne.symm ne_xl_la) nin0)))
            have V_ra := V_ra.keep Kq (ninS (Ne.symm ne_a_ra) (ninS (Ne.symm ne_xe_ra) (ninS (Ne.symm ne_xl_ra) nin0)))
            have V_ga := V_ga.keep Kq (ninS (Ne.symm ne_a_ga) (ninS (Ne.symm ne_xe_ga) (ninS (Ne.symm ne_xl_ga) nin0)))
            obtain ⟨E_a, F_latest_a, F_raised_a, F_ages_a, F_numbers_a, F_entries_a, F_size_a, F_sealed_a, F_present_a, F_hash_a, F_table_a, F_earlier_a, F_later_a⟩ := F_a
            have N25 := Fr.app N24 Nq
            refine own_go (U' := T25.setTop (mkF m 81 #[.val (.ref a), .val (.int (Int32.ofNat n)), .val (.int p2), .val (.int (Int32.ofNat j)), .val (.int (ag.getD j 0)), .val (.int (Int32.ofNat en))] [])) st25 ?_
            refine own_go (U' := T25.setTop (mkF m 82 #[.val (.ref a), .val (.int (Int32.ofNat n)), .val (.int p2), .val (.int (Int32.ofNat j)), .val (.int (ag.getD j 0)), .val (.int (Int32.ofNat en))] [(.ref a)])) (fun t k => XS.aloadN X25.here hx rfl (hb hby dr2_81) rfl rfl k) ?_
            obtain ⟨T26, X26, e26, st26⟩ := getF X25 hx hZ hown (host := "") (Or.inl (hw _ (List.mem_of_getElem? (i := 63) rfl))) Via.refl e25 F_latest_a (g := (mkF m 82 #[.val (.ref a), .val (.int (Int32.ofNat n)), .val (.int p2), .val (.int (Int32.ofNat j)), .val (.int (ag.getD j 0)), .val (.int (Int32.ofNat en))] [(.ref a)])) rfl rfl (hb hby dr2_82)
            refine own_go (U' := T26.setTop (mkF m 85 #[.val (.ref a), .val (.int (Int32.ofNat n)), .val (.int p2), .val (.int (Int32.ofNat j)), .val (.int (ag.getD j 0)), .val (.int (Int32.ofNat en))] [(.ref la)])) st26 ?_
            refine own_go (U' := T26.setTop (mkF m 86 #[.val (.ref a), .val (.int (Int32.ofNat n)), .val (.int p2), .val (.int (Int32.ofNat j)), .val (.int (ag.getD j 0)), .val (.int (Int32.ofNat en))] [(.int (Int32.ofNat n)), (.ref la)])) (fun t k => XS.iloadN X26.here hx rfl (hb hby dr2_85) rfl k) ?_
            refine own_go (U' := T26.setTop (mkF m 88 #[.val (.ref a), .val (.int (Int32.ofNat n)), .val (.int p2), .val (.int (Int32.ofNat j)), .val (.int (ag.getD j 0)), .val (.int (Int32.ofNat en))] [(.int (Int32.ofNat en)), (.int (Int32.ofNat n)), (.ref la)])) (fun t k => XS.iload X26.here hx rfl (hb hby dr2_86) rfl k) ?_
            refine own_go (U' := T26.setTop (mkF m 89 #[.val (.ref a), .val (.int (Int32.ofNat n)), .val (.int p2), .val (.int (Int32.ofNat j)), .val (.int (ag.getD j 0)), .val (.int (Int32.ofNat en))] [(.int (1 : Int32)), (.int (Int32.ofNat en)), (.int (Int32.ofNat n)), (.ref la)])) (fun t k => XS.iconst X26.here hx rfl (hb hby dr2_88) k) ?_
            refine own_go (U' := T26.setTop (mkF m 90 #[.val (.ref a), .val (.int (Int32.ofNat n)), .val (.int p2), .val (.int (Int32.ofNat j)), .val (.int (ag.getD j 0)), .val (.int (Int32.ofNat en))] [(.int ((Int32.ofNat en) + (1 : Int32))), (.int (Int32.ofNat n)), (.ref la)])) (fun t k => XS.iadd X26.here hx rfl (hb hby dr2_89) rfl k) ?_
            rw [← own_succ]
            obtain ⟨T27, h27, X27, e27, W27, A27, st27⟩ := own_iastore X26 hx hZ e26 V_la (j := (Int32.ofNat n)) on.1 (i := n) on.2.1 (by rw [List.length_map]; exact hnl) (g := (mkF m 90 #[.val (.ref a), .val (.int (Int32.ofNat n)), .val (.int p2), .val (.int (Int32.ofNat j)), .val (.int (ag.getD j 0)), .val (.int (Int32.ofNat en))] [(.int (Int32.ofNat (en + 1))), (.int (Int32.ofNat n)), (.ref la)])) rfl rfl (hb hby dr2_90)
            have O := O.wr W27 g_la
            have E_a := E_a.wr W27
            have E_nu := E_nu.wr W27
            have F_hashes_nu := F_hashes_nu.other W27 (Or.inl ne_nu_la)
            have V_ha := V_ha.other W27 ne_ha_la
            have F_links_nu := F_links_nu.other W27 (Or.inl ne_nu_la)
            have E_al := E_al.wr W27
            have F_size_al := F_size_al.other W27 (Or.inl ne_al_la)
            have V_ra := V_ra.other W27 (Ne.symm ne_la_ra)
            have V_ga := V_ga.other W27 (Ne.symm ne_la_ga)
            have F_latest_a := F_latest_a.other W27 (Or.inl ne_a_la)
            have F_raised_a := F_raised_a.other W27 (Or.inl ne_a_la)
            have F_ages_a := F_ages_a.other W27 (Or.inl ne_a_la)
            have F_numbers_a := F_numbers_a.other W27 (Or.inl ne_a_la)
            have F_entries_a := F_entries_a.other W27 (Or.inl ne_a_la)
            have F_size_a := F_size_a.other W27 (Or.inl ne_a_la)
            have F_sealed_a := F_sealed_a.other W27 (Or.inl ne_a_la)
            have F_present_a := F_present_a.other W27 (Or.inl ne_a_la)
            have F_hash_a := F_hash_a.other W27 (Or.inl ne_a_la)
            have F_table_a := F_table_a.other W27 (Or.inl ne_a_la)
            have F_earlier_a := F_earlier_a.other W27 (Or.inl ne_a_la)
            have F_later_a := F_later_a.other W27 (Or.inl ne_a_la)
            have V_xe := V_xe.other W27 ne_xe_la
            have V_xl := V_xl.other W27 ne_xl_la
            have V_la : own_Ar Z h27 la kl .int (own_is (lt.set n (en + 1))) := ((own_is_set _ _ _) : ((own_is lt)).set (n) (.int (Int32.ofNat (en + 1))) = (own_is (lt.set n (en + 1)))) ▸ A27
            have N27 := Fr.snoc X27 N25 g_la
            refine own_go (U' := T27.setTop (mkF m 91 #[.val (.ref a), .val (.int (Int32.ofNat n)), .val (.int p2), .val (.int (Int32.ofNat j)), .val (.int (ag.getD j 0)), .val (.int (Int32.ofNat en))] [])) st27 ?_
            refine own_go (U' := T27.setTop (mkF m 101 #[.val (.ref a), .val (.int (Int32.ofNat n)), .val (.int p2), .val (.int (Int32.ofNat j)), .val (.int (ag.getD j 0)), .val (.int (Int32.ofNat en))] [])) (fun t k => XS.goto X27.here hx rfl (pc0 := 91) (pc' := 101) rfl (hb hby dr2_91) (by decide) (by decide) k) ?_
            refine own_go (U' := T27.setTop (mkF m 102 #[.val (.ref a), .val (.int (Int32.ofNat n)), .val (.int p2), .val (.int (Int32.ofNat j)), .val (.int (ag.getD j 0)), .val (.int (Int32.ofNat en))] [(.ref a)])) (fun t k => XS.aloadN X27.here hx rfl (hb hby dr2_101) rfl rfl k) ?_
            refine own_go (U' := T27.setTop (mkF m 103 #[.val (.ref a), .val (.int (Int32.ofNat n)), .val (.int p2), .val (.int (Int32.ofNat j)), .val (.int (ag.getD j 0)), .val (.int (Int32.ofNat en))] [(.int (Int32.ofNat n)), (.ref a)])) (fun t k => XS.iloadN X27.here hx rfl (hb hby dr2_102) rfl k) ?_
            refine own_go (U' := T27.setTop (mkF m 105 #[.val (.ref a), .val (.int (Int32.ofNat n)), .val (.int p2), .val (.int (Int32.ofNat j)), .val (.int (ag.getD j 0)), .val (.int (Int32.ofNat en))] [(.int (ag.getD j 0)), (.int (Int32.ofNat n)), (.ref a)])) (fun t k => XS.iload X27.here hx rfl (hb hby dr2_103) rfl k) ?_
            refine own_go (U' := T27.setTop (mkF m 106 #[.val (.ref a), .val (.int (Int32.ofNat n)), .val (.int p2), .val (.int (Int32.ofNat j)), .val (.int (ag.getD j 0)), .val (.int (Int32.ofNat en))] [(.int (-1 : Int32)), (.int (ag.getD j 0)), (.int (Int32.ofNat n)), (.ref a)])) (fun t k => XS.iconst X27.here hx rfl (hb hby dr2_105) k) ?_
            obtain ⟨v28, T28, h28, L28, e28, X28, hQ28, st28⟩ := own_callP X27 hx hZ (y := (⟨"com/example/obedient_dog/obedientdog/topologydiscovery/AgeLog", "count", "(III)V"⟩ : MethodName)) hown (hw _ (List.mem_of_getElem? (i := 89) rfl)) (hw _ (List.mem_of_getElem? (i := 90) rfl)) (own_selP (y0 := (⟨"com/example/obedient_dog/obedientdog/topologydiscovery/AgeLog", "raise", "(II)Z"⟩ : MethodName)) (hw _ (List.mem_of_getElem? (i := 74) rfl)) rfl (hw _ (List.mem_of_getElem? (i := 91) rfl)) (hw _ (List.mem_of_getElem? (i := 90) rfl)) (by decide)) (hw _ (List.mem_of_getElem? (i := 91) rfl)) (hw _ (List.mem_of_getElem? (i := 2) rfl)) (hw _ (List.mem_of_getElem? (i := 92) rfl)) (by decide) E_a (own_rmct l Z a0 hw a (Int32.ofNat n) (ag.getD j 0) (-1) h27 n0 g_a la ra ga nu ha kh _ _ _ _ _ _ _ _ htb (by rfl) (by rfl) n hn rfl ⟨E_a, F_latest_a, F_raised_a, F_ages_a, F_numbers_a, F_entries_a, F_size_a, F_sealed_a, F_present_a, F_hash_a, F_table_a, F_earlier_a, F_later_a⟩ E_nu F_hashes_nu V_ha) (W := 0) (by decide) (by decide) (g := (mkF m 106 #[.val (.ref a), .val (.int (Int32.ofNat n)), .val (.int p2), .val (.int (Int32.ofNat j)), .val (.int (ag.getD j 0)), .val (.int (Int32.ofNat en))] [(.int (-1 : Int32)), (.int (ag.getD j 0)), (.int (Int32.ofNat n)), (.ref a)])) rfl (by rw [hml]; rfl) (argsL := [(.int (Int32.ofNat n)), (.int (ag.getD j 0)), (.int (-1 : Int32))]) (rest := []) (lenOf own_pd1 rfl) rfl rfl (by show 2 * 0 + _ ≤ _; exact Nat.le_of_eq rfl) (hb hby dr2_106) e27 (by decide) (by decide)
            obtain ⟨rfl, Nq, Kq, pr0, hs0, F_a⟩ := hQ28
            have O := O.keep Kq (allS g_a all0)
            have E_a := E_a.keep Kq
            have E_nu := E_nu.keep Kq
            have F_hashes_nu := F_hashes_nu.keep Kq (ninS (Ne.symm ne_a_nu) nin0)
            have V_ha := V_ha.keep Kq (ninS (Ne.symm ne_a_ha) nin0)
            have F_links_nu := F_links_nu.keep Kq (ninS (Ne.symm ne_a_nu) nin0)
            have E_al := E_al.keep Kq
            have F_size_al := F_size_al.keep Kq (ninS (Ne.symm ne_a_al) nin0)
            have V_la := V_la.keep Kq (ninS (Ne.symm ne_a_la) nin0)
            have V_ra := V_ra.keep Kq (ninS (Ne.symm ne_a_ra) nin0)
            have V_ga := V_ga.keep Kq (ninS (Ne.symm ne_a_ga) nin0)
            have V_xe := V_xe.keep Kq (ninS (Ne.symm ne_a_xe) nin0)
            have V_xl := V_xl.keep Kq (ninS (Ne.symm ne_a_xl) nin0)
            obtain ⟨E_a, F_latest_a, F_raised_a, F_ages_a, F_numbers_a, F_entries_a, F_size_a, F_sealed_a, F_present_a, F_hash_a, F_table_a, F_earlier_a, F_later_a⟩ := F_a
            have N28 := Fr.app N27 Nq
            refine own_go (U' := T28.setTop (mkF m 109 #[.val (.ref a), .val (.int (Int32.ofNat n)), .val (.int p2), .val (.int (Int32.ofNat j)), .val (.int (ag.getD j 0)), .val (.int (Int32.ofNat en))] [])) st28 ?_
            refine own_go (U' := T28.setTop (mkF m 110 #[.val (.ref a), .val (.int (Int32.ofNat n)), .val (.int p2), .val (.int (Int32.ofNat j)), .val (.int (ag.getD j 0)), .val (.int (Int32.ofNat en))] [(.ref a)])) (fun t k => XS.aloadN X28.here hx rfl (hb hby dr2_109) rfl rfl k) ?_
            refine own_go (U' := T28.setTop (mkF m 111 #[.val (.ref a), .val (.int (Int32.ofNat n)), .val (.int p2), .val (.int (Int32.ofNat j)), .val (.int (ag.getD j 0)), .val (.int (Int32.ofNat en))] [(.int (Int32.ofNat n)), (.ref a)])) (fun t k => XS.iloadN X28.here hx rfl (hb hby dr2_110) rfl k) ?_
            refine own_go (U' := T28.setTop (mkF m 112 #[.val (.ref a), .val (.int (Int32.ofNat n)), .val (.int p2), .val (.int (Int32.ofNat j)), .val (.int (ag.getD j 0)), .val (.int (Int32.ofNat en))] [(.int p2), (.int (Int32.ofNat n)), (.ref a)])) (fun t k => XS.iloadN X28.here hx rfl (hb hby dr2_111) rfl k) ?_
            refine own_go (U' := T28.setTop (mkF m 113 #[.val (.ref a), .val (.int (Int32.ofNat n)), .val (.int p2), .val (.int (Int32.ofNat j)), .val (.int (ag.getD j 0)), .val (.int (Int32.ofNat en))] [(.int (1 : Int32)), (.int p2), (.int (Int32.ofNat n)), (.ref a)])) (fun t k => XS.iconst X28.here hx rfl (hb hby dr2_112) k) ?_
            obtain ⟨v29, T29, h29, L29, e29, X29, hQ29, st29⟩ := own_callP X28 hx hZ (y := (⟨"com/example/obedient_dog/obedientdog/topologydiscovery/AgeLog", "count", "(III)V"⟩ : MethodName)) hown (hw _ (List.mem_of_getElem? (i := 89) rfl)) (hw _ (List.mem_of_getElem? (i := 90) rfl)) (own_selP (y0 := (⟨"com/example/obedient_dog/obedientdog/topologydiscovery/AgeLog", "raise", "(II)Z"⟩ : MethodName)) (hw _ (List.mem_of_getElem? (i := 74) rfl)) rfl (hw _ (List.mem_of_getElem? (i := 91) rfl)) (hw _ (List.mem_of_getElem? (i := 90) rfl)) (by decide)) (hw _ (List.mem_of_getElem? (i := 91) rfl)) (hw _ (List.mem_of_getElem? (i := 2) rfl)) (hw _ (List.mem_of_getElem? (i := 92) rfl)) (by decide) E_a (own_rmct l Z a0 hw a (Int32.ofNat n) p2 1 h28 n0 g_a la ra ga nu ha kh _ _ _ _ _ _ _ _ htb (by rfl) (by rfl) n hn rfl ⟨E_a, F_latest_a, F_raised_a, F_ages_a, F_numbers_a, F_entries_a, F_size_a, F_sealed_a, F_present_a, F_hash_a, F_table_a, F_earlier_a, F_later_a⟩ E_nu F_hashes_nu V_ha) (W := 0) (by decide) (by decide) (g := (mkF m 113 #[.val (.ref a), .val (.int (Int32.ofNat n)), .val (.int p2), .val (.int (Int32.ofNat j)), .val (.int (ag.getD j 0)), .val (.int (Int32.ofNat en))] [(.int (1 : Int32)), (.int p2), (.int (Int32.ofNat n)), (.ref a)])) rfl (by rw [hml]; rfl) (argsL := [(.int (Int32.ofNat n)), (.int p2), (.int (1 : Int32))]) (rest := []) (lenOf own_pd1 rfl) rfl rfl (by show 2 * 0 + _ ≤ _; exact Nat.le_of_eq rfl) (hb hby dr2_113) e28 (by decide) (by decide)
            obtain ⟨rfl, Nq, Kq, pr1, hs1, F_a⟩ := hQ29
            have O := O.keep Kq (allS g_a all0)
            have E_a := E_a.keep Kq
            have E_nu := E_nu.keep Kq
            have F_hashes_nu := F_hashes_nu.keep Kq (ninS (Ne.symm ne_a_nu) nin0)
            have V_ha := V_ha.keep Kq (ninS (Ne.symm ne_a_ha) nin0)
            have F_links_nu := F_links_nu.keep Kq (ninS (Ne.symm ne_a_nu) nin0)
            have E_al := E_al.keep Kq
            have F_size_al := F_size_al.keep Kq (ninS (Ne.symm ne_a_al) nin0)
            have V_la := V_la.keep Kq (ninS (Ne.symm ne_a_la) nin0)
            have V_ra := V_ra.keep Kq (ninS (Ne.symm ne_a_ra) nin0)
            have V_ga := V_ga.keep Kq (ninS (Ne.symm ne_a_ga) nin0)
            have V_xe := V_xe.keep Kq (ninS (Ne.symm ne_a_xe) nin0)
            have V_xl := V_xl.keep Kq (ninS (Ne.symm ne_a_xl) nin0)
            obtain ⟨E_a, F_latest_a, F_raised_a, F_ages_a, F_numbers_a, F_entries_a, F_size_a, F_sealed_a, F_present_a, F_hash_a, F_table_a, F_earlier_a, F_later_a⟩ := F_a
            have N29 := Fr.app N28 Nq
            refine own_go (U' := T29.setTop (mkF m 116 #[.val (.ref a), .val (.int (Int32.ofNat n)), .val (.int p2), .val (.int (Int32.ofNat j)), .val (.int (ag.getD j 0)), .val (.int (Int32.ofNat en))] [])) st29 ?_
            refine own_go (U' := T29.setTop (mkF m 117 #[.val (.ref a), .val (.int (Int32.ofNat n)), .val (.int p2), .val (.int (Int32.ofNat j)), .val (.int (ag.getD j 0)), .val (.int (Int32.ofNat en))] [(.ref a)])) (fun t k => XS.aloadN X29.here hx rfl (hb hby dr2_116) rfl rfl k) ?_
            refine own_go (U' := T29.setTop (mkF m 118 #[.val (.ref a), .val (.int (Int32.ofNat n)), .val (.int p2), .val (.int (Int32.ofNat j)), .val (.int (ag.getD j 0)), .val (.int (Int32.ofNat en))] [.null, (.ref a)])) (fun t k => XS.aconstNull X29.here hx rfl (hb hby dr2_117) k) ?_
            obtain ⟨T30, h30, X30, e30, W30, st30⟩ := putF X29 hx hZ hown (host := "") (Or.inl (hw _ (List.mem_of_getElem? (i := 102) rfl))) Via.refl e29 F_table_a E_a (Or.inl (hw _ (List.mem_of_getElem? (i := 103) rfl))) (hw _ (List.mem_of_getElem? (i := 1) rfl)) (ty := (.object "com/example/obedient_dog/obedientdog/topologydiscovery/AgeTable")) (by decide) rfl rfl (g := (mkF m 118 #[.val (.ref a), .val (.int (Int32.ofNat n)), .val (.int p2), .val (.int (Int32.ofNat j)), .val (.int (ag.getD j 0)), .val (.int (Int32.ofNat en))] [.null, (.ref a)])) rfl rfl (hb hby dr2_118)
            have O := O.wr W30 g_a
            have E_a := E_a.wr W30
            have E_nu := E_nu.wr W30
            have F_hashes_nu := F_hashes_nu.other W30 (Or.inl (Ne.symm ne_a_nu))
            have V_ha := V_ha.other W30 (Ne.symm ne_a_ha)
            have F_links_nu := F_links_nu.other W30 (Or.inl (Ne.symm ne_a_nu))
            have E_al := E_al.wr W30
            have F_size_al := F_size_al.other W30 (Or.inl (Ne.symm ne_a_al))
            have V_la := V_la.other W30 (Ne.symm ne_a_la)
            have V_ra := V_ra.other W30 (Ne.symm ne_a_ra)
            have V_ga := V_ga.other W30 (Ne.symm ne_a_ga)
            have V_xe := V_xe.other W30 (Ne.symm ne_a_xe)
            have V_xl := V_xl.other W30 (Ne.symm ne_a_xl)
            have F_latest_a := F_latest_a.other W30 (Or.inr (slot_ne (Or.inl (hw _ (List.mem_of_getElem? (i := 64) rfl))) (Or.inl (hw _ (List.mem_of_getElem? (i := 103) rfl))) (by decide) (t := (.array .int)) (t' := (.object "com/example/obedient_dog/obedientdog/topologydiscovery/AgeTable")) (by decide) (by decide)))
            have F_raised_a := F_raised_a.other W30 (Or.inr (slot_ne (Or.inl (hw _ (List.mem_of_getElem? (i := 66) rfl))) (Or.inl (hw _ (List.mem_of_getElem? (i := 103) rfl))) (by decide) (t := (.array .int)) (t' := (.object "com/example/obedient_dog/obedientdog/topologydiscovery/AgeTable")) (by decide) (by decide)))
            have F_ages_a := F_ages_a.other W30 (Or.inr (slot_ne (Or.inl (hw _ (List.mem_of_getElem? (i := 68) rfl))) (Or.inl (hw _ (List.mem_of_getElem? (i := 103) rfl))) (by decide) (t := (.array .int)) (t' := (.object "com/example/obedient_dog/obedientdog/topologydiscovery/AgeTable")) (by decide) (by decide)))
            have F_numbers_a := F_numbers_a.other W30 (Or.inr (slot_ne (Or.inr (hw _ (List.mem_of_getElem? (i := 70) rfl))) (Or.inl (hw _ (List.mem_of_getElem? (i := 103) rfl))) (by decide) (t := (.object "com/example/obedient_dog/obedientdog/topologydiscovery/LinkNumbers")) (t' := (.object "com/example/obedient_dog/obedientdog/topologydiscovery/AgeTable")) (by decide) (by decide)))
            have F_entries_a := F_entries_a.other W30 (Or.inr (slot_ne (Or.inl (hw _ (List.mem_of_getElem? (i := 86) rfl))) (Or.inl (hw _ (List.mem_of_getElem? (i := 103) rfl))) (by decide) (t := .int) (t' := (.object "com/example/obedient_dog/obedientdog/topologydiscovery/AgeTable")) (by decide) (by decide)))
            have F_size_a := F_size_a.other W30 (Or.inr (slot_ne (Or.inl (hw _ (List.mem_of_getElem? (i := 88) rfl))) (Or.inl (hw _ (List.mem_of_getElem? (i := 103) rfl))) (by decide) (t := .int) (t' := (.object "com/example/obedient_dog/obedientdog/topologydiscovery/AgeTable")) (by decide) (by decide)))
            have F_sealed_a := F_sealed_a.other W30 (Or.inr (slot_ne (Or.inl (hw _ (List.mem_of_getElem? (i := 110) rfl))) (Or.inl (hw _ (List.mem_of_getElem? (i := 103) rfl))) (by decide) (t := .int) (t' := (.object "com/example/obedient_dog/obedientdog/topologydiscovery/AgeTable")) (by decide) (by decide)))
            have F_present_a := F_present_a.other W30 (Or.inr (slot_ne (Or.inl (hw _ (List.mem_of_getElem? (i := 94) rfl))) (Or.inl (hw _ (List.mem_of_getElem? (i := 103) rfl))) (by decide) (t := .int) (t' := (.object "com/example/obedient_dog/obedientdog/topologydiscovery/AgeTable")) (by decide) (by decide)))
            have F_hash_a := F_hash_a.other W30 (Or.inr (slot_ne (Or.inl (hw _ (List.mem_of_getElem? (i := 96) rfl))) (Or.inl (hw _ (List.mem_of_getElem? (i := 103) rfl))) (by decide) (t := .int) (t' := (.object "com/example/obedient_dog/obedientdog/topologydiscovery/AgeTable")) (by decide) (by decide)))
            have F_earlier_a := F_earlier_a.other W30 (Or.inr (slot_ne (Or.inl (hw _ (List.mem_of_getElem? (i := 170) rfl))) (Or.inl (hw _ (List.mem_of_getElem? (i := 103) rfl))) (by decide) (t := (.array .int)) (t' := (.object "com/example/obedient_dog/obedientdog/topologydiscovery/AgeTable")) (by decide) (by decide)))
            have F_later_a := F_later_a.other W30 (Or.inr (slot_ne (Or.inl (hw _ (List.mem_of_getElem? (i := 172) rfl))) (Or.inl (hw _ (List.mem_of_getElem? (i := 103) rfl))) (by decide) (t := (.array .int)) (t' := (.object "com/example/obedient_dog/obedientdog/topologydiscovery/AgeTable")) (by decide) (by decide)))
            have F_table_a := F_table_a.same W30
            have N30 := Fr.snoc X30 N29 g_a
            refine own_go (U' := T30.setTop (mkF m 121 #[.val (.ref a), .val (.int (Int32.ofNat n)), .val (.int p2), .val (.int (Int32.ofNat j)), .val (.int (ag.getD j 0)), .val (.int (Int32.ofNat en))] [])) st30 ?_
            refine own_go (U' := T30.setTop (mkF m 122 #[.val (.ref a), .val (.int (Int32.ofNat n)), .val (.int p2), .val (.int (Int32.ofNat j)), .val (.int (ag.getD j 0)), .val (.int (Int32.ofNat en))] [(.int (1 : Int32))])) (fun t k => XS.iconst X30.here hx rfl (hb hby dr2_121) k) ?_
            refine own_retN X30 hx (t := .boolean) hret (by simp) hlk (hb hby dr2_122) ?_ (by decide) (by decide)
            rw [e30]
            obtain ⟨J1, J2⟩ := own_J_add p2 J hen hn
            rw [show own_grow lt n = lt from if_pos hnl] at J1 J2
            rw [← List.map_set] at V_ga
            refine ⟨_, _, _, _, ?_, N30, O, ⟨la, ra, ga, _, _, _, _, _, _, _, _, _, _, ⟨E_a, F_latest_a, F_raised_a, F_ages_a, F_numbers_a, F_entries_a, F_size_a, F_sealed_a, F_present_a, F_hash_a, F_table_a, F_earlier_a, F_later_a⟩, V_la, V_ra, V_ga, (by rw [List.length_set]; exact h_ra), ⟨E_nu, F_hashes_nu, V_ha, F_links_nu, E_al, F_size_al⟩, (Or.inr ⟨xe, xl, _, _, _, _, rfl, rfl, V_xe, V_xl, (by rw [List.length_set]; exact hes), (by rw [List.length_set]; exact hls), g_xe, g_xl, ne_xe_xl, ⟨ne_xe_la, ne_xe_ra, ne_xe_ga, ne_xe_ha⟩, ⟨ne_xl_la, ne_xl_ra, ne_xl_ga, ne_xl_ha⟩⟩), rfl, ⟨ne_la_ra, ne_la_ga, ne_ra_ga, ne_ha_la, ne_ha_ra, ne_ha_ga⟩, ⟨g_a, g_la, g_ra, g_ga⟩⟩, J1, by omega, ?_⟩
            · rw [if_pos hlt]; rfl
            · rw [own_up, if_pos hlt]; exact J2
          · refine own_go (U' := T23.setTop (mkF m 94 #[.val (.ref a), .val (.int (Int32.ofNat n)), .val (.int p2), .val (.int (Int32.ofNat j)), .val (.int (ag.getD j 0)), .unset] [])) (fun t k => XS.icmpYes X23.here hx rfl (pc0 := 63) (pc' := 94) rfl (hb hby dr2_63) rfl (flt hjs).2.1 (by decide) (by decide) k) ?_
            refine own_go (U' := T23.setTop (mkF m 95 #[.val (.ref a), .val (.int (Int32.ofNat n)), .val (.int p2), .val (.int (Int32.ofNat j)), .val (.int (ag.getD j 0)), .unset] [(.ref a)])) (fun t k => XS.aloadN X23.here hx rfl (hb hby dr2_94) rfl rfl k) ?_
            obtain ⟨T31, X31, e31, st31⟩ := getF X23 hx hZ hown (host := "") (Or.inl (hw _ (List.mem_of_getElem? (i := 67) rfl))) Via.refl e23 F_ages_a (g := (mkF m 95 #[.val (.ref a), .val (.int (Int32.ofNat n)), .val (.int p2), .val (.int (Int32.ofNat j)), .val (.int (ag.getD j 0)), .unset] [(.ref a)])) rfl rfl (hb hby dr2_95)
            refine own_go (U' := T31.setTop (mkF m 98 #[.val (.ref a), .val (.int (Int32.ofNat n)), .val (.int p2), .val (.int (Int32.ofNat j)), .val (.int (ag.getD j 0)), .unset] [(.ref ga)])) st31 ?_
            refine own_go (U' := T31.setTop (mkF m 99 #[.val (.ref a), .val (.int (Int32.ofNat n)), .val (.int p2), .val (.int (Int32.ofNat j)), .val (.int (ag.getD j 0)), .unset] [(.int (Int32.ofNat j)), (.ref ga)])) (fun t k => XS.iloadN X31.here hx rfl (hb hby dr2_98) rfl k) ?_
            refine own_go (U' := T31.setTop (mkF m 100 #[.val (.ref a), .val (.int (Int32.ofNat n)), .val (.int p2), .val (.int (Int32.ofNat j)), .val (.int (ag.getD j 0)), .unset] [(.int p2), (.int (Int32.ofNat j)), (.ref ga)])) (fun t k => XS.iloadN X31.here hx rfl (hb hby dr2_99) rfl k) ?_
            obtain ⟨T32, h32, X32, e32, W32, A32, st32⟩ := own_iastore X31 hx hZ e31 V_ga (j := (Int32.ofNat j)) oj.1 (i := j) oj.2.1 (by rw [h_ga]; omega) (g := (mkF m 100 #[.val (.ref a), .val (.int (Int32.ofNat n)), .val (.int p2), .val (.int (Int32.ofNat j)), .val (.int (ag.getD j 0)), .unset] [(.int p2), (.int (Int32.ofNat j)), (.ref ga)])) rfl rfl (hb hby dr2_100)
            have O := O.wr W32 g_ga
            have E_a := E_a.wr W32
            have F_latest_a := F_latest_a.other W32 (Or.inl ne_a_ga)
            have F_raised_a := F_raised_a.other W32 (Or.inl ne_a_ga)
            have F_ages_a := F_ages_a.other W32 (Or.inl ne_a_ga)
            have F_numbers_a := F_numbers_a.other W32 (Or.inl ne_a_ga)
            have F_entries_a := F_entries_a.other W32 (Or.inl ne_a_ga)
            have F_size_a := F_size_a.other W32 (Or.inl ne_a_ga)
            have F_sealed_a := F_sealed_a.other W32 (Or.inl ne_a_ga)
            have F_present_a := F_present_a.other W32 (Or.inl ne_a_ga)
            have F_hash_a := F_hash_a.other W32 (Or.inl ne_a_ga)
            have F_table_a := F_table_a.other W32 (Or.inl ne_a_ga)
            have F_earlier_a := F_earlier_a.other W32 (Or.inl ne_a_ga)
            have F_later_a := F_later_a.other W32 (Or.inl ne_a_ga)
            have E_nu := E_nu.wr W32
            have F_hashes_nu := F_hashes_nu.other W32 (Or.inl ne_nu_ga)
            have V_ha := V_ha.other W32 ne_ha_ga
            have F_links_nu := F_links_nu.other W32 (Or.inl ne_nu_ga)
            have E_al := E_al.wr W32
            have F_size_al := F_size_al.other W32 (Or.inl ne_al_ga)
            have V_la := V_la.other W32 ne_la_ga
            have V_ra := V_ra.other W32 ne_ra_ga
            have V_xe := V_xe.other W32 ne_xe_ga
            have V_xl := V_xl.other W32 ne_xl_ga
            have V_ga : own_Ar Z h32 ga kg .int ((ag.set j p2).map Value.int) := ((by rw [List.map_set]) : ((ag.map Value.int)).set (j) (.int p2) = ((ag.set j p2).map Value.int)) ▸ A32
            have N32 := Fr.snoc X32 N0 g_ga
            refine own_go (U' := T32.setTop (mkF m 101 #[.val (.ref a), .val (.int (Int32.ofNat n)), .val (.int p2), .val (.int (Int32.ofNat j)), .val (.int (ag.getD j 0)), .unset] [])) st32 ?_
            refine own_go (U' := T32.setTop (mkF m 102 #[.val (.ref a), .val (.int (Int32.ofNat n)), .val (.int p2), .val (.int (Int32.ofNat j)), .val (.int (ag.getD j 0)), .unset] [(.ref a)])) (fun t k => XS.aloadN X32.here hx rfl (hb hby dr2_101) rfl rfl k) ?_
            refine own_go (U' := T32.setTop (mkF m 103 #[.val (.ref a), .val (.int (Int32.ofNat n)), .val (.int p2), .val (.int (Int32.ofNat j)), .val (.int (ag.getD j 0)), .unset] [(.int (Int32.ofNat n)), (.ref a)])) (fun t k => XS.iloadN X32.here hx rfl (hb hby dr2_102) rfl k) ?_
            refine own_go (U' := T32.setTop (mkF m 105 #[.val (.ref a), .val (.int (Int32.ofNat n)), .val (.int p2), .val (.int (Int32.ofNat j)), .val (.int (ag.getD j 0)), .unset] [(.int (ag.getD j 0)), (.int (Int32.ofNat n)), (.ref a)])) (fun t k => XS.iload X32.here hx rfl (hb hby dr2_103) rfl k) ?_
            refine own_go (U' := T32.setTop (mkF m 106 #[.val (.ref a), .val (.int (Int32.ofNat n)), .val (.int p2), .val (.int (Int32.ofNat j)), .val (.int (ag.getD j 0)), .unset] [(.int (-1 : Int32)), (.int (ag.getD j 0)), (.int (Int32.ofNat n)), (.ref a)])) (fun t k => XS.iconst X32.here hx rfl (hb hby dr2_105) k) ?_
            obtain ⟨v33, T33, h33, L33, e33, X33, hQ33, st33⟩ := own_callP X32 hx hZ (y := (⟨"com/example/obedient_dog/obedientdog/topologydiscovery/AgeLog", "count", "(III)V"⟩ : MethodName)) hown (hw _ (List.mem_of_getElem? (i := 89) rfl)) (hw _ (List.mem_of_getElem? (i := 90) rfl)) (own_selP (y0 := (⟨"com/example/obedient_dog/obedientdog/topologydiscovery/AgeLog", "raise", "(II)Z"⟩ : MethodName)) (hw _ (List.mem_of_getElem? (i := 74) rfl)) rfl (hw _ (List.mem_of_getElem? (i := 91) rfl)) (hw _ (List.mem_of_getElem? (i := 90) rfl)) (by decide)) (hw _ (List.mem_of_getElem? (i := 91) rfl)) (hw _ (List.mem_of_getElem? (i := 2) rfl)) (hw _ (List.mem_of_getElem? (i := 92) rfl)) (by decide) E_a (own_rmct l Z a0 hw a (Int32.ofNat n) (ag.getD j 0) (-1) h32 n0 g_a la ra ga nu ha kh _ _ _ _ _ _ _ _ htb (by rfl) (by rfl) n hn rfl ⟨E_a, F_latest_a, F_raised_a, F_ages_a, F_numbers_a, F_entries_a, F_size_a, F_sealed_a, F_present_a, F_hash_a, F_table_a, F_earlier_a, F_later_a⟩ E_nu F_hashes_nu V_ha) (W := 0) (by decide) (by decide) (g := (mkF m 106 #[.val (.ref a), .val (.int (Int32.ofNat n)), .val (.int p2), .val (.int (Int32.ofNat j)), .val (.int (ag.getD j 0)), .unset] [(.int (-1 : Int32)), (.int (ag.getD j 0)), (.int (Int32.ofNat n)), (.ref a)])) rfl (by rw [hml]; rfl) (argsL := [(.int (Int32.ofNat n)), (.int (ag.getD j 0)), (.int (-1 : Int32))]) (rest := []) (lenOf own_pd1 rfl) rfl rfl (by show 2 * 0 + _ ≤ _; exact Nat.le_of_eq rfl) (hb hby dr2_106) e32 (by decide) (by decide)
            obtain ⟨rfl, Nq, Kq, pr0, hs0, F_a⟩ := hQ33
            have O := O.keep Kq (allS g_a all0)
            have E_a := E_a.keep Kq
            have E_nu := E_nu.keep Kq
            have F_hashes_nu := F_hashes_nu.keep Kq (ninS (Ne.symm ne_a_nu) nin0)
            have V_ha := V_ha.keep Kq (ninS (Ne.symm ne_a_ha) nin0)
            have F_links_nu := F_links_nu.keep Kq (ninS (Ne.symm ne_a_nu) nin0)
            have E_al := E_al.keep Kq
            have F_size_al := F_size_al.keep Kq (ninS (Ne.symm ne_a_al) nin0)
            have V_la := V_la.keep Kq (ninS (Ne.symm ne_a_la) nin0)
            have V_ra := V_ra.keep Kq (ninS (Ne.symm ne_a_ra) nin0)
            have V_ga := V_ga.keep Kq (ninS (Ne.symm ne_a_ga) nin0)
            have V_xe := V_xe.keep Kq (ninS (Ne.symm ne_a_xe) nin0)
            have V_xl := V_xl.keep Kq (ninS (Ne.symm ne_a_xl) nin0)
            obtain ⟨E_a, F_latest_a, F_raised_a, F_ages_a, F_numbers_a, F_entries_a, F_size_a, F_sealed_a, F_present_a, F_hash_a, F_table_a, F_earlier_a, F_later_a⟩ := F_a
            have N33 := Fr.app N32 Nq
            refine own_go (U' := T33.setTop (mkF m 109 #[.val (.ref a), .val (.int (Int32.ofNat n)), .val (.int p2), .val (.int (Int32.ofNat j)), .val (.int (ag.getD j 0)), .unset] [])) st33 ?_
            refine own_go (U' := T33.setTop (mkF m 110 #[.val (.ref a), .val (.int (Int32.ofNat n)), .val (.int p2), .val (.int (Int32.ofNat j)), .val (.int (ag.getD j 0)), .unset] [(.ref a)])) (fun t k => XS.aloadN X33.here hx rfl (hb hby dr2_109) rfl rfl k) ?_
            refine own_go (U' := T33.setTop (mkF m 111 #[.val (.ref a), .val (.int (Int32.ofNat n)), .val (.int p2), .val (.int (Int32.ofNat j)), .val (.int (ag.getD j 0)), .unset] [(.int (Int32.ofNat n)), (.ref a)])) (fun t k => XS.iloadN X33.here hx rfl (hb hby dr2_110) rfl k) ?_
            refine own_go (U' := T33.setTop (mkF m 112 #[.val (.ref a), .val (.int (Int32.ofNat n)), .val (.int p2), .val (.int (Int32.ofNat j)), .val (.int (ag.getD j 0)), .unset] [(.int p2), (.int (Int32.ofNat n)), (.ref a)])) (fun t k => XS.iloadN X33.here hx rfl (hb hby dr2_111) rfl k) ?_
            refine own_go (U' := T33.setTop (mkF m 113 #[.val (.ref a), .val (.int (Int32.ofNat n)), .val (.int p2), .val (.int (Int32.ofNat j)), .val (.int (ag.getD j 0)), .unset] [(.int (1 : Int32)), (.int p2), (.int (Int32.ofNat n)), (.ref a)])) (fun t k => XS.iconst X33.here hx rfl (hb hby dr2_112) k) ?_
            obtain ⟨v34, T34, h34, L34, e34, X34, hQ34, st34⟩ := own_callP X33 hx hZ (y := (⟨"com/example/obedient_dog/obedientdog/topologydiscovery/AgeLog", "count", "(III)V"⟩ : MethodName)) hown (hw _ (List.mem_of_getElem? (i := 89) rfl)) (hw _ (List.mem_of_getElem? (i := 90) rfl)) (own_selP (y0 := (⟨"com/example/obedient_dog/obedientdog/topologydiscovery/AgeLog", "raise", "(II)Z"⟩ : MethodName)) (hw _ (List.mem_of_getElem? (i := 74) rfl)) rfl (hw _ (List.mem_of_getElem? (i := 91) rfl)) (hw _ (List.mem_of_getElem? (i := 90) rfl)) (by decide)) (hw _ (List.mem_of_getElem? (i := 91) rfl)) (hw _ (List.mem_of_getElem? (i := 2) rfl)) (hw _ (List.mem_of_getElem? (i := 92) rfl)) (by decide) E_a (own_rmct l Z a0 hw a (Int32.ofNat n) p2 1 h33 n0 g_a la ra ga nu ha kh _ _ _ _ _ _ _ _ htb (by rfl) (by rfl) n hn rfl ⟨E_a, F_latest_a, F_raised_a, F_ages_a, F_numbers_a, F_entries_a, F_size_a, F_sealed_a, F_present_a, F_hash_a, F_table_a, F_earlier_a, F_later_a⟩ E_nu F_hashes_nu V_ha) (W := 0) (by decide) (by decide) (g := (mkF m 113 #[.val (.ref a), .val (.int (Int32.ofNat n)), .val (.int p2), .val (.int (Int32.ofNat j)), .val (.int (ag.getD j 0)), .unset] [(.int (1 : Int32)), (.int p2), (.int (Int32.ofNat n)), (.ref a)])) rfl (by rw [hml]; rfl) (argsL := [(.int (Int32.ofNat n)), (.int p2), (.int (1 : Int32))]) (rest := []) (lenOf own_pd1 rfl) rfl rfl (by show 2 * 0 + _ ≤ _; exact Nat.le_of_eq rfl) (hb hby dr2_113) e33 (by decide) (by decide)
            obtain ⟨rfl, Nq, Kq, pr1, hs1, F_a⟩ := hQ34
            have O := O.keep Kq (allS g_a all0)
            have E_a := E_a.keep Kq
            have E_nu := E_nu.keep Kq
            have F_hashes_nu := F_hashes_nu.keep Kq (ninS (Ne.symm ne_a_nu) nin0)
            have V_ha := V_ha.keep Kq (ninS (Ne.symm ne_a_ha) nin0)
            have F_links_nu := F_links_nu.keep Kq (ninS (Ne.symm ne_a_nu) nin0)
            have E_al := E_al.keep Kq
            have F_size_al := F_size_al.keep Kq (ninS (Ne.symm ne_a_al) nin0)
            have V_la := V_la.keep Kq (ninS (Ne.symm ne_a_la) nin0)
            have V_ra := V_ra.keep Kq (ninS (Ne.symm ne_a_ra) nin0)
            have V_ga := V_ga.keep Kq (ninS (Ne.symm ne_a_ga) nin0)
            have V_xe := V_xe.keep Kq (ninS (Ne.symm ne_a_xe) nin0)
            have V_xl := V_xl.keep Kq (ninS (Ne.symm ne_a_xl) nin0)
            obtain ⟨E_a, F_latest_a, F_raised_a, F_ages_a, F_numbers_a, F_entries_a, F_size_a, F_sealed_a, F_present_a, F_hash_a, F_table_a, F_earlier_a, F_later_a⟩ := F_a
            have N34 := Fr.app N33 Nq
            refine own_go (U' := T34.setTop (mkF m 116 #[.val (.ref a), .val (.int (Int32.ofNat n)), .val (.int p2), .val (.int (Int32.ofNat j)), .val (.int (ag.getD j 0)), .unset] [])) st34 ?_
            refine own_go (U' := T34.setTop (mkF m 117 #[.val (.ref a), .val (.int (Int32.ofNat n)), .val (.int p2), .val (.int (Int32.ofNat j)), .val (.int (ag.getD j 0)), .unset] [(.ref a)])) (fun t k => XS.aloadN X34.here hx rfl (hb hby dr2_116) rfl rfl k) ?_
            refine own_go (U' := T34.setTop (mkF m 118 #[.val (.ref a), .val (.int (Int32.ofNat n)), .val (.int p2), .val (.int (Int32.ofNat j)), .val (.int (ag.getD j 0)), .unset] [.null, (.ref a)])) (fun t k => XS.aconstNull X34.here hx rfl (hb hby dr2_117) k) ?_
            obtain ⟨T35, h35, X35, e35, W35, st35⟩ := putF X34 hx hZ hown (host := "") (Or.inl (hw _ (List.mem_of_getElem? (i := 102) rfl))) Via.refl e34 F_table_a E_a (Or.inl (hw _ (List.mem_of_getElem? (i := 103) rfl))) (hw _ (List.mem_of_getElem? (i := 1) rfl)) (ty := (.object "com/example/obedient_dog/obedientdog/topologydiscovery/AgeTable")) (by decide) rfl rfl (g := (mkF m 118 #[.val (.ref a), .val (.int (Int32.ofNat n)), .val (.int p2), .val (.int (Int32.ofNat j)), .val (.int (ag.getD j 0)), .unset] [.null, (.ref a)])) rfl rfl (hb hby dr2_118)
            have O := O.wr W35 g_a
            have E_a := E_a.wr W35
            have E_nu := E_nu.wr W35
            have F_hashes_nu := F_hashes_nu.other W35 (Or.inl (Ne.symm ne_a_nu))
            have V_ha := V_ha.other W35 (Ne.symm ne_a_ha)
            have F_links_nu := F_links_nu.other W35 (Or.inl (Ne.symm ne_a_nu))
            have E_al := E_al.wr W35
            have F_size_al := F_size_al.other W35 (Or.inl (Ne.symm ne_a_al))
            have V_la := V_la.other W35 (Ne.symm ne_a_la)
            have V_ra := V_ra.other W35 (Ne.symm ne_a_ra)
            have V_ga := V_ga.other W35 (Ne.symm ne_a_ga)
            have V_xe := V_xe.other W35 (Ne.symm ne_a_xe)
            have V_xl := V_xl.other W35 (Ne.symm ne_a_xl)
            have F_latest_a := F_latest_a.other W35 (Or.inr (slot_ne (Or.inl (hw _ (List.mem_of_getElem? (i := 64) rfl))) (Or.inl (hw _ (List.mem_of_getElem? (i := 103) rfl))) (by decide) (t := (.array .int)) (t' := (.object "com/example/obedient_dog/obedientdog/topologydiscovery/AgeTable")) (by decide) (by decide)))
            have F_raised_a := F_raised_a.other W35 (Or.inr (slot_ne (Or.inl (hw _ (List.mem_of_getElem? (i := 66) rfl))) (Or.inl (hw _ (List.mem_of_getElem? (i := 103) rfl))) (by decide) (t := (.array .int)) (t' := (.object "com/example/obedient_dog/obedientdog/topologydiscovery/AgeTable")) (by decide) (by decide)))
            have F_ages_a := F_ages_a.other W35 (Or.inr (slot_ne (Or.inl (hw _ (List.mem_of_getElem? (i := 68) rfl))) (Or.inl (hw _ (List.mem_of_getElem? (i := 103) rfl))) (by decide) (t := (.array .int)) (t' := (.object "com/example/obedient_dog/obedientdog/topologydiscovery/AgeTable")) (by decide) (by decide)))
            have F_numbers_a := F_numbers_a.other W35 (Or.inr (slot_ne (Or.inr (hw _ (List.mem_of_getElem? (i := 70) rfl))) (Or.inl (hw _ (List.mem_of_getElem? (i := 103) rfl))) (by decide) (t := (.object "com/example/obedient_dog/obedientdog/topologydiscovery/LinkNumbers")) (t' := (.object "com/example/obedient_dog/obedientdog/topologydiscovery/AgeTable")) (by decide) (by decide)))
            have F_entries_a := F_entries_a.other W35 (Or.inr (slot_ne (Or.inl (hw _ (List.mem_of_getElem? (i := 86) rfl))) (Or.inl (hw _ (List.mem_of_getElem? (i := 103) rfl))) (by decide) (t := .int) (t' := (.object "com/example/obedient_dog/obedientdog/topologydiscovery/AgeTable")) (by decide) (by decide)))
            have F_size_a := F_size_a.other W35 (Or.inr (slot_ne (Or.inl (hw _ (List.mem_of_getElem? (i := 88) rfl))) (Or.inl (hw _ (List.mem_of_getElem? (i := 103) rfl))) (by decide) (t := .int) (t' := (.object "com/example/obedient_dog/obedientdog/topologydiscovery/AgeTable")) (by decide) (by decide)))
            have F_sealed_a := F_sealed_a.other W35 (Or.inr (slot_ne (Or.inl (hw _ (List.mem_of_getElem? (i := 110) rfl))) (Or.inl (hw _ (List.mem_of_getElem? (i := 103) rfl))) (by decide) (t := .int) (t' := (.object "com/example/obedient_dog/obedientdog/topologydiscovery/AgeTable")) (by decide) (by decide)))
            have F_present_a := F_present_a.other W35 (Or.inr (slot_ne (Or.inl (hw _ (List.mem_of_getElem? (i := 94) rfl))) (Or.inl (hw _ (List.mem_of_getElem? (i := 103) rfl))) (by decide) (t := .int) (t' := (.object "com/example/obedient_dog/obedientdog/topologydiscovery/AgeTable")) (by decide) (by decide)))
            have F_hash_a := F_hash_a.other W35 (Or.inr (slot_ne (Or.inl (hw _ (List.mem_of_getElem? (i := 96) rfl))) (Or.inl (hw _ (List.mem_of_getElem? (i := 103) rfl))) (by decide) (t := .int) (t' := (.object "com/example/obedient_dog/obedientdog/topologydiscovery/AgeTable")) (by decide) (by decide)))
            have F_earlier_a := F_earlier_a.other W35 (Or.inr (slot_ne (Or.inl (hw _ (List.mem_of_getElem? (i := 170) rfl))) (Or.inl (hw _ (List.mem_of_getElem? (i := 103) rfl))) (by decide) (t := (.array .int)) (t' := (.object "com/example/obedient_dog/obedientdog/topologydiscovery/AgeTable")) (by decide) (by decide)))
            have F_later_a := F_later_a.other W35 (Or.inr (slot_ne (Or.inl (hw _ (List.mem_of_getElem? (i := 172) rfl))) (Or.inl (hw _ (List.mem_of_getElem? (i := 103) rfl))) (by decide) (t := (.array .int)) (t' := (.object "com/example/obedient_dog/obedientdog/topologydiscovery/AgeTable")) (by decide) (by decide)))
            have F_table_a := F_table_a.same W35
            have N35 := Fr.snoc X35 N34 g_a
            refine own_go (U' := T35.setTop (mkF m 121 #[.val (.ref a), .val (.int (Int32.ofNat n)), .val (.int p2), .val (.int (Int32.ofNat j)), .val (.int (ag.getD j 0)), .unset] [])) st35 ?_
            refine own_go (U' := T35.setTop (mkF m 122 #[.val (.ref a), .val (.int (Int32.ofNat n)), .val (.int p2), .val (.int (Int32.ofNat j)), .val (.int (ag.getD j 0)), .unset] [(.int (1 : Int32))])) (fun t k => XS.iconst X35.here hx rfl (hb hby dr2_121) k) ?_
            refine own_retN X35 hx (t := .boolean) hret (by simp) hlk (hb hby dr2_122) ?_ (by decide) (by decide)
            rw [e35]
            obtain ⟨J1, J2⟩ := own_J_set p2 J hen hv
            refine ⟨_, _, _, _, ?_, N35, O, ⟨la, ra, ga, _, _, _, _, _, _, _, _, _, _, ⟨E_a, F_latest_a, F_raised_a, F_ages_a, F_numbers_a, F_entries_a, F_size_a, F_sealed_a, F_present_a, F_hash_a, F_table_a, F_earlier_a, F_later_a⟩, V_la, V_ra, V_ga, h_ra, ⟨E_nu, F_hashes_nu, V_ha, F_links_nu, E_al, F_size_al⟩, (Or.inr ⟨xe, xl, _, _, _, _, rfl, rfl, V_xe, V_xl, hes, hls, g_xe, g_xl, ne_xe_xl, ⟨ne_xe_la, ne_xe_ra, ne_xe_ga, ne_xe_ha⟩, ⟨ne_xl_la, ne_xl_ra, ne_xl_ga, ne_xl_ha⟩⟩), rfl, ⟨ne_la_ra, ne_la_ga, ne_ra_ga, ne_ha_la, ne_ha_ra, ne_ha_ga⟩, ⟨g_a, g_la, g_ra, g_ga⟩⟩, J1, by omega, ?_⟩
            · rw [if_pos hlt]; rfl
            · rw [own_up, if_pos hlt]; exact J2
        · refine own_go (U' := T22.setTop (mkF m 44 #[.val (.ref a), .val (.int (Int32.ofNat n)), .val (.int p2), .val (.int (Int32.ofNat j)), .val (.int (ag.getD j 0)), .unset] [])) (fun t k => XS.icmpNo X22.here hx rfl (hb hby dr2_41) rfl (flt hpos).2.2.1 k) ?_
          refine own_go (U' := T22.setTop (mkF m 45 #[.val (.ref a), .val (.int (Int32.ofNat n)), .val (.int p2), .val (.int (Int32.ofNat j)), .val (.int (ag.getD j 0)), .unset] [(.int (0 : Int32))])) (fun t k => XS.iconst X22.here hx rfl (hb hby dr2_44) k) ?_
          refine own_retN X22 hx (t := .boolean) hret (by simp) hlk (hb hby dr2_45) ?_ (by decide) (by decide)
          rw [e22]
          refine ⟨lt, ag, en, tb, ?_, N0, O, hT0, J, Nat.le_succ _, ?_⟩
          · rw [if_neg (fun q => hpos (by rw [← hag]; exact q))]; rfl
          · rw [own_up, if_neg (fun q => hpos (by rw [← hag]; exact q))]
  · have hv : lt.getD n 0 = 0 := by rw [List.getD, List.getElem?_eq_none (by omega)]; rfl
    obtain ⟨E_a, F_latest_a, F_raised_a, F_ages_a, F_numbers_a, F_entries_a, F_size_a, F_sealed_a, F_present_a, F_hash_a, F_table_a, F_earlier_a, F_later_a⟩ := F_a
    have ne_a_la : a ≠ la := by
      obtain ⟨cb, Ab, -⟩ := V_la
      exact ne_arr E_a (hw _ (List.mem_of_getElem? (i := 1) rfl)) Ab
    have ne_a_ra : a ≠ ra := by
      obtain ⟨cb, Ab, -⟩ := V_ra
      exact ne_arr E_a (hw _ (List.mem_of_getElem? (i := 1) rfl)) Ab
    have ne_a_ga : a ≠ ga := by
      obtain ⟨cb, Ab, -⟩ := V_ga
      exact ne_arr E_a (hw _ (List.mem_of_getElem? (i := 1) rfl)) Ab
    have ne_a_ha : a ≠ ha := by
      obtain ⟨cb, Ab, -⟩ := V_ha
      exact ne_arr E_a (hw _ (List.mem_of_getElem? (i := 1) rfl)) Ab
    have ne_nu_la : nu ≠ la := by
      obtain ⟨cb, Ab, -⟩ := V_la
      exact ne_arr E_nu (hw _ (List.mem_of_getElem? (i := 4) rfl)) Ab
    have ne_nu_ra : nu ≠ ra := by
      obtain ⟨cb, Ab, -⟩ := V_ra
      exact ne_arr E_nu (hw _ (List.mem_of_getElem? (i := 4) rfl)) Ab
    have ne_nu_ga : nu ≠ ga := by
      obtain ⟨cb, Ab, -⟩ := V_ga
      exact ne_arr E_nu (hw _ (List.mem_of_getElem? (i := 4) rfl)) Ab
    have ne_nu_ha : nu ≠ ha := by
      obtain ⟨cb, Ab, -⟩ := V_ha
      exact ne_arr E_nu (hw _ (List.mem_of_getElem? (i := 4) rfl)) Ab
    have ne_a_nu : a ≠ nu := ne_exa E_a E_nu (by decide)
    have ne_al_la : al ≠ la := by
      obtain ⟨cb, Ab, -⟩ := V_la
      exact ne_arr E_al (hw _ (List.mem_of_getElem? (i := 31) rfl)) Ab
    have ne_al_ra : al ≠ ra := by
      obtain ⟨cb, Ab, -⟩ := V_ra
      exact ne_arr E_al (hw _ (List.mem_of_getElem? (i := 31) rfl)) Ab
    have ne_al_ga : al ≠ ga := by
      obtain ⟨cb, Ab, -⟩ := V_ga
      exact ne_arr E_al (hw _ (List.mem_of_getElem? (i := 31) rfl)) Ab
    have ne_al_ha : al ≠ ha := by
      obtain ⟨cb, Ab, -⟩ := V_ha
      exact ne_arr E_al (hw _ (List.mem_of_getElem? (i := 31) rfl)) Ab
    have ne_a_al : a ≠ al := ne_exa E_a E_al (by decide)
    have ne_nu_al : nu ≠ al := ne_exa E_nu E_al (by decide)
    refine own_go (U' := s₁.setTop (mkF m 1 #[.val (.ref a), .val (.int (Int32.ofNat n)), .val (.int p2), .unset, .unset, .unset] [(.int (Int32.ofNat n))])) (fun t k => XS.iloadN X0.here hx rfl (hb hby dr2_0) rfl k) ?_
    refine own_go (U' := s₁.setTop (mkF m 2 #[.val (.ref a), .val (.int (Int32.ofNat n)), .val (.int p2), .unset, .unset, .unset] [(.ref a), (.int (Int32.ofNat n))])) (fun t k => XS.aloadN X0.here hx rfl (hb hby dr2_1) rfl rfl k) ?_
    obtain ⟨T36, X36, e36, st36⟩ := getF X0 hx hZ hown (host := "") (Or.inl (hw _ (List.mem_of_getElem? (i := 63) rfl))) Via.refl e0 F_latest_a (g := (mkF m 2 #[.val (.ref a), .val (.int (Int32.ofNat n)), .val (.int p2), .unset, .unset, .unset] [(.ref a), (.int (Int32.ofNat n))])) rfl rfl (hb hby dr2_2)
    refine own_go (U' := T36.setTop (mkF m 5 #[.val (.ref a), .val (.int (Int32.ofNat n)), .val (.int p2), .unset, .unset, .unset] [(.ref la), (.int (Int32.ofNat n))])) st36 ?_
    refine own_go (U' := T36.setTop (mkF m 6 #[.val (.ref a), .val (.int (Int32.ofNat n)), .val (.int p2), .unset, .unset, .unset] [(.int (Int32.ofNat lt.length)), (.int (Int32.ofNat n))])) (own_arrlen X36 hx hZ e36 V_la (n := (Int32.ofNat lt.length)) (by rw [List.length_map]) (g := (mkF m 5 #[.val (.ref a), .val (.int (Int32.ofNat n)), .val (.int p2), .unset, .unset, .unset] [(.ref la), (.int (Int32.ofNat n))])) rfl rfl (hb hby dr2_5)) ?_
    refine own_go (U' := T36.setTop (mkF m 20 #[.val (.ref a), .val (.int (Int32.ofNat n)), .val (.int p2), .unset, .unset, .unset] [])) (fun t k => XS.icmpYes X36.here hx rfl (pc0 := 6) (pc' := 20) rfl (hb hby dr2_6) rfl (flt (fun q => hnl ((own_lt (by omega) (by omega)).mp q))).2.1 (by decide) (by decide) k) ?_
    refine own_go (U' := T36.setTop (mkF m 21 #[.val (.ref a), .val (.int (Int32.ofNat n)), .val (.int p2), .unset, .unset, .unset] [(.int (-1 : Int32))])) (fun t k => XS.iconst X36.here hx rfl (hb hby dr2_20) k) ?_
    have hag : own_age lt ag n = -1 := if_pos hv
    refine own_go (U' := T36.setTop (mkF m 22 #[.val (.ref a), .val (.int (Int32.ofNat n)), .val (.int p2), .val (.int (-1 : Int32)), .unset, .unset] [])) (fun t k => XS.istoreN X36.here hx rfl (hb hby dr2_21) rfl (l' := #[.val (.ref a), .val (.int (Int32.ofNat n)), .val (.int p2), .val (.int (-1 : Int32)), .unset, .unset]) rfl k) ?_
    refine own_go (U' := T36.setTop (mkF m 23 #[.val (.ref a), .val (.int (Int32.ofNat n)), .val (.int p2), .val (.int (-1 : Int32)), .unset, .unset] [(.int (-1 : Int32))])) (fun t k => XS.iloadN X36.here hx rfl (hb hby dr2_22) rfl k) ?_
    refine own_go (U' := T36.setTop (mkF m 26 #[.val (.ref a), .val (.int (Int32.ofNat n)), .val (.int p2), .val (.int (-1 : Int32)), .unset, .unset] [])) (fun t k => XS.ifNo X36.here hx rfl (hb hby dr2_23) rfl ((if0 _ _).trans (tlt (by decide)).2.1) k) ?_
    refine own_go (U' := T36.setTop (mkF m 27 #[.val (.ref a), .val (.int (Int32.ofNat n)), .val (.int p2), .val (.int (-1 : Int32)), .unset, .unset] [(.int (-1 : Int32))])) (fun t k => XS.iconst X36.here hx rfl (hb hby dr2_26) k) ?_
    refine own_go (U' := T36.setTop (mkF m 36 #[.val (.ref a), .val (.int (Int32.ofNat n)), .val (.int p2), .val (.int (-1 : Int32)), .unset, .unset] [(.int (-1 : Int32))])) (fun t k => XS.goto X36.here hx rfl (pc0 := 27) (pc' := 36) rfl (hb hby dr2_27) (by decide) (by decide) k) ?_
    refine own_go (U' := T36.setTop (mkF m 38 #[.val (.ref a), .val (.int (Int32.ofNat n)), .val (.int p2), .val (.int (-1 : Int32)), .val (.int (-1 : Int32)), .unset] [])) (fun t k => XS.istore X36.here hx rfl (hb hby dr2_36) rfl (l' := #[.val (.ref a), .val (.int (Int32.ofNat n)), .val (.int p2), .val (.int (-1 : Int32)), .val (.int (-1 : Int32)), .unset]) rfl k) ?_
    refine own_go (U' := T36.setTop (mkF m 39 #[.val (.ref a), .val (.int (Int32.ofNat n)), .val (.int p2), .val (.int (-1 : Int32)), .val (.int (-1 : Int32)), .unset] [(.int p2)])) (fun t k => XS.iloadN X36.here hx rfl (hb hby dr2_38) rfl k) ?_
    refine own_go (U' := T36.setTop (mkF m 41 #[.val (.ref a), .val (.int (Int32.ofNat n)), .val (.int p2), .val (.int (-1 : Int32)), .val (.int (-1 : Int32)), .unset] [(.int (-1 : Int32)), (.int p2)])) (fun t k => XS.iload X36.here hx rfl (hb hby dr2_39) rfl k) ?_
    by_cases hpos : (-1 : Int32) < p2
    · refine own_go (U' := T36.setTop (mkF m 46 #[.val (.ref a), .val (.int (Int32.ofNat n)), .val (.int p2), .val (.int (-1 : Int32)), .val (.int (-1 : Int32)), .unset] [])) (fun t k => XS.icmpYes X36.here hx rfl (pc0 := 41) (pc' := 46) rfl (hb hby dr2_41) rfl (tlt hpos).2.2.1 (by decide) (by decide) k) ?_
      have hlt : own_age lt ag n < p2 := by rw [hag]; exact hpos
      refine own_go (U' := T36.setTop (mkF m 47 #[.val (.ref a), .val (.int (Int32.ofNat n)), .val (.int p2), .val (.int (-1 : Int32)), .val (.int (-1 : Int32)), .unset] [(.int (-1 : Int32))])) (fun t k => XS.iloadN X36.here hx rfl (hb hby dr2_46) rfl k) ?_
      refine own_go (U' := T36.setTop (mkF m 50 #[.val (.ref a), .val (.int (Int32.ofNat n)), .val (.int p2), .val (.int (-1 : Int32)), .val (.int (-1 : Int32)), .unset] [])) (fun t k => XS.ifNo X36.here hx rfl (hb hby dr2_47) rfl ((if0 _ _).trans (tlt (by decide)).2.1) k) ?_
      refine own_go (U' := T36.setTop (mkF m 51 #[.val (.ref a), .val (.int (Int32.ofNat n)), .val (.int p2), .val (.int (-1 : Int32)), .val (.int (-1 : Int32)), .unset] [(.ref a)])) (fun t k => XS.aloadN X36.here hx rfl (hb hby dr2_50) rfl rfl k) ?_
      refine own_go (U' := T36.setTop (mkF m 52 #[.val (.ref a), .val (.int (Int32.ofNat n)), .val (.int p2), .val (.int (-1 : Int32)), .val (.int (-1 : Int32)), .unset] [(.int (Int32.ofNat n)), (.ref a)])) (fun t k => XS.iloadN X36.here hx rfl (hb hby dr2_51) rfl k) ?_
      refine own_go (U' := T36.setTop (mkF m 53 #[.val (.ref a), .val (.int (Int32.ofNat n)), .val (.int p2), .val (.int (-1 : Int32)), .val (.int (-1 : Int32)), .unset] [(.int p2), (.int (Int32.ofNat n)), (.ref a)])) (fun t k => XS.iloadN X36.here hx rfl (hb hby dr2_52) rfl k) ?_
      obtain ⟨v37, T37, h37, L37, e37, X37, hQ37, st37⟩ := own_callV X36 hx hZ (y := (⟨"com/example/obedient_dog/obedientdog/topologydiscovery/AgeLog", "add", "(II)V"⟩ : MethodName)) (z := (⟨"com/example/obedient_dog/obedientdog/topologydiscovery/AgeLog", "add", "(II)V"⟩ : MethodName)) hown (hw _ (List.mem_of_getElem? (i := 76) rfl)) (hw _ (List.mem_of_getElem? (i := 77) rfl)) (notFace_of_selects (args := #[]) (mvT hZ (hw _ (List.mem_of_getElem? (i := 79) rfl)))) (hw _ (List.mem_of_getElem? (i := 79) rfl)) (hw _ (List.mem_of_getElem? (i := 78) rfl)) (hw _ (List.mem_of_getElem? (i := 2) rfl)) (hw _ (List.mem_of_getElem? (i := 80) rfl)) (by decide) E_a (own_rma2 l Z a0 hw a (Int32.ofNat n) p2 h0 n0 nu ha al lt ag en se tb O J hen n hn rfl hT0) (W := 0) (by decide) (by decide) (g := (mkF m 53 #[.val (.ref a), .val (.int (Int32.ofNat n)), .val (.int p2), .val (.int (-1 : Int32)), .val (.int (-1 : Int32)), .unset] [(.int p2), (.int (Int32.ofNat n)), (.ref a)])) rfl (by rw [hml]; rfl) (argsL := [(.int (Int32.ofNat n)), (.int p2)]) (rest := []) (lenOf own_pd3 rfl) rfl rfl (by show 2 * 0 + _ ≤ _; exact Nat.le_of_eq rfl) (hb hby dr2_53) e36 (by decide) (by decide)
      obtain ⟨rfl, Nq, O, hT⟩ := hQ37
      obtain ⟨J1, J2⟩ := own_J_add p2 J hen hn
      have N37 := Fr.app N0 Nq
      refine own_go (U' := T37.setTop (mkF m 56 #[.val (.ref a), .val (.int (Int32.ofNat n)), .val (.int p2), .val (.int (-1 : Int32)), .val (.int (-1 : Int32)), .unset] [])) st37 ?_
      refine own_go (U' := T37.setTop (mkF m 57 #[.val (.ref a), .val (.int (Int32.ofNat n)), .val (.int p2), .val (.int (-1 : Int32)), .val (.int (-1 : Int32)), .unset] [(.int (1 : Int32))])) (fun t k => XS.iconst X37.here hx rfl (hb hby dr2_56) k) ?_
      refine own_retN X37 hx (t := .boolean) hret (by simp) hlk (hb hby dr2_57) ?_ (by decide) (by decide)
      rw [e37]
      refine ⟨_, _, _, _, ?_, N37, O, hT, J1, Nat.le_refl _, ?_⟩
      · rw [if_pos hlt]; rfl
      · rw [own_up, if_pos hlt]; exact J2
    · refine own_go (U' := T36.setTop (mkF m 44 #[.val (.ref a), .val (.int (Int32.ofNat n)), .val (.int p2), .val (.int (-1 : Int32)), .val (.int (-1 : Int32)), .unset] [])) (fun t k => XS.icmpNo X36.here hx rfl (hb hby dr2_41) rfl (flt hpos).2.2.1 k) ?_
      refine own_go (U' := T36.setTop (mkF m 45 #[.val (.ref a), .val (.int (Int32.ofNat n)), .val (.int p2), .val (.int (-1 : Int32)), .val (.int (-1 : Int32)), .unset] [(.int (0 : Int32))])) (fun t k => XS.iconst X36.here hx rfl (hb hby dr2_44) k) ?_
      refine own_retN X36 hx (t := .boolean) hret (by simp) hlk (hb hby dr2_45) ?_ (by decide) (by decide)
      rw [e36]
      refine ⟨lt, ag, en, tb, ?_, N0, O, hT0, J, Nat.le_succ _, ?_⟩
      · rw [if_neg (fun q => hpos (by rw [← hag]; exact q))]; rfl
      · rw [own_up, if_neg (fun q => hpos (by rw [← hag]; exact q))]
theorem dam_0 : decode jdk_71_method_1_code 0 = .ok (.aload_n 0, 1) := by decide +kernel
theorem dam_1 : decode jdk_71_method_1_code 1 = .ok (.invokespecial 1, 3) := by decide +kernel
theorem dam_4 : decode jdk_71_method_1_code 4 = .ok (.return_, 1) := by decide +kernel
theorem own_pn4 : plainName "java/util/AbstractMap" = true := by first | (simp [plainName, overriddenIn]; done) | decide +kernel
theorem own_efam (m : MethodId) (a : Addr) : entryFrame m #[(.ref a)] 1 = mkF m 0 #[.val (.ref a)] [] := by first | (simp [entryFrame, mkF, argsToLocals, Value.category]; done) | rfl
set_option maxRecDepth 65536 in
set_option maxHeartbeats 40000000 in
theorem own_rmam (l : Launch) (Z : State) (a0 : Array Value) (hw : ∀ d ∈ tables_1, d.before a0 Z = true) (a : Addr) (h0 : Heap)  :
    own_C l Z (⟨"java/util/AbstractMap", "<init>", "()V"⟩ : MethodName) jdk_71_method_1_code 1 none [] ({ frames := 1, cells := 0, slots := 0, locals := 12 } : Room) #[(.ref a)] h0 (fun v h L => v = none ∧ L = [] ∧ h = h0) := by
  refine own_body (plainFor_of_name own_pn4) fun p e s m below meth c s₁ hx hby hml hret hlk hown hnm hZ X0 e0 => ?_
  rw [own_efam m a]
  refine own_go (U' := s₁.setTop (mkF m 1 #[.val (.ref a)] [(.ref a)])) (fun t k => XS.aloadN X0.here hx rfl (hb hby dam_0) rfl rfl k) ?_
  obtain ⟨T1, X1, e1, st1⟩ := initO X0 hx hZ hown (hw _ (List.mem_of_getElem? (i := 24) rfl)) (hw _ (List.mem_of_getElem? (i := 10) rfl)) (hw _ (List.mem_of_getElem? (i := 11) rfl)) e0 (g := (mkF m 1 #[.val (.ref a)] [(.ref a)])) rfl (by rw [hml]; rfl) rfl (hb hby dam_1) (by decide) (W := 0) (by show 2 * 0 + _ ≤ _; exact Nat.le_of_eq rfl) (by decide)
  refine own_go (U' := T1.setTop (mkF m 4 #[.val (.ref a)] [])) st1 ?_
  refine own_retV X1 hx hret hlk (hb hby dam_4) ?_ (by decide) (by decide)
  exact ⟨rfl, rfl, e1⟩
theorem own_pd8 : parseMethodDescriptor "(Lcom/example/obedient_dog/obedientdog/topologydiscovery/AgeLog;IIII)V" = some ⟨[(.object "com/example/obedient_dog/obedientdog/topologydiscovery/AgeLog"), .int, .int, .int, .int], none⟩ := by decide +kernel
theorem own_pd9 : parseMethodDescriptor "()Lcom/example/obedient_dog/obedientdog/topologydiscovery/AgeTable;" = some ⟨[], some (.object "com/example/obedient_dog/obedientdog/topologydiscovery/AgeTable")⟩ := by decide +kernel
theorem own_pd10 : parseMethodDescriptor "(Lcom/example/obedient_dog/obedientdog/topologydiscovery/LinkNumbers;)V" = some ⟨[(.object "com/example/obedient_dog/obedientdog/topologydiscovery/LinkNumbers")], none⟩ := by decide +kernel
theorem dti_0 : decode prog_41_method_1_code 0 = .ok (.aload_n 0, 1) := by decide +kernel
theorem dti_1 : decode prog_41_method_1_code 1 = .ok (.invokespecial 1, 3) := by decide +kernel
theorem dti_4 : decode prog_41_method_1_code 4 = .ok (.aload_n 0, 1) := by decide +kernel
theorem dti_5 : decode prog_41_method_1_code 5 = .ok (.aload_n 1, 1) := by decide +kernel
theorem dti_6 : decode prog_41_method_1_code 6 = .ok (.putfield 7, 3) := by decide +kernel
theorem dti_9 : decode prog_41_method_1_code 9 = .ok (.aload_n 0, 1) := by decide +kernel
theorem dti_10 : decode prog_41_method_1_code 10 = .ok (.iload_n 2, 1) := by decide +kernel
theorem dti_11 : decode prog_41_method_1_code 11 = .ok (.putfield 13, 3) := by decide +kernel
theorem dti_14 : decode prog_41_method_1_code 14 = .ok (.aload_n 0, 1) := by decide +kernel
theorem dti_15 : decode prog_41_method_1_code 15 = .ok (.iload_n 3, 1) := by decide +kernel
theorem dti_16 : decode prog_41_method_1_code 16 = .ok (.putfield 17, 3) := by decide +kernel
theorem dti_19 : decode prog_41_method_1_code 19 = .ok (.aload_n 0, 1) := by decide +kernel
theorem dti_20 : decode prog_41_method_1_code 20 = .ok (.iload 4, 2) := by decide +kernel
theorem dti_22 : decode prog_41_method_1_code 22 = .ok (.putfield 20, 3) := by decide +kernel
theorem dti_25 : decode prog_41_method_1_code 25 = .ok (.aload_n 0, 1) := by decide +kernel
theorem dti_26 : decode prog_41_method_1_code 26 = .ok (.iload 5, 2) := by decide +kernel
theorem dti_28 : decode prog_41_method_1_code 28 = .ok (.putfield 23, 3) := by decide +kernel
theorem dti_31 : decode prog_41_method_1_code 31 = .ok (.return_, 1) := by decide +kernel
theorem own_pn5 : plainName "com/example/obedient_dog/obedientdog/topologydiscovery/AgeTable" = true := by first | (simp [plainName, overriddenIn]; done) | decide +kernel
theorem own_efti (m : MethodId) (t b : Addr) (p1 p2 p3 p4 : Int32) : entryFrame m #[(.ref t), (.ref b), (.int p1), (.int p2), (.int p3), (.int p4)] 6 = mkF m 0 #[.val (.ref t), .val (.ref b), .val (.int p1), .val (.int p2), .val (.int p3), .val (.int p4)] [] := by first | (simp [entryFrame, mkF, argsToLocals, Value.category]; done) | rfl
set_option maxRecDepth 65536 in
set_option maxHeartbeats 40000000 in
theorem own_rmti (l : Launch) (Z : State) (a0 : Array Value) (hw : ∀ d ∈ tables_1, d.before a0 Z = true) (t b : Addr) (p1 p2 p3 p4 : Int32) (h0 : Heap) (n0 : Nat) (g_t : n0 ≤ t) (u0 u1 u2 u3 u4 : Value) (E_t : Exa Z h0 t "com/example/obedient_dog/obedientdog/topologydiscovery/AgeTable") (F_log_t : Fld Z h0 t "com/example/obedient_dog/obedientdog/topologydiscovery/AgeTable" "log" "Lcom/example/obedient_dog/obedientdog/topologydiscovery/AgeLog;" u0) (F_end_t : Fld Z h0 t "com/example/obedient_dog/obedientdog/topologydiscovery/AgeTable" "end" "I" u1) (F_size_t : Fld Z h0 t "com/example/obedient_dog/obedientdog/topologydiscovery/AgeTable" "size" "I" u2) (F_present_t : Fld Z h0 t "com/example/obedient_dog/obedientdog/topologydiscovery/AgeTable" "present" "I" u3) (F_hash_t : Fld Z h0 t "com/example/obedient_dog/obedientdog/topologydiscovery/AgeTable" "hash" "I" u4) :
    own_C l Z (⟨"com/example/obedient_dog/obedientdog/topologydiscovery/AgeTable", "<init>", "(Lcom/example/obedient_dog/obedientdog/topologydiscovery/AgeLog;IIII)V"⟩ : MethodName) prog_41_method_1_code 6 none [] ({ frames := 2, cells := 0, slots := 0, locals := 24 } : Room) #[(.ref t), (.ref b), (.int p1), (.int p2), (.int p3), (.int p4)] h0 (fun v h L => v = none ∧ Fr n0 L ∧ Keep h0 h [t]) := by
  refine own_body (plainFor_of_name own_pn5) fun p e s m below meth c s₁ hx hby hml hret hlk hown hnm hZ X0 e0 => ?_
  rw [own_efti m t b p1 p2 p3 p4]
  have N0 := Fr.nil n0
  have K := Keep.refl h0 [t]
  refine own_go (U' := s₁.setTop (mkF m 1 #[.val (.ref t), .val (.ref b), .val (.int p1), .val (.int p2), .val (.int p3), .val (.int p4)] [(.ref t)])) (fun t k => XS.aloadN X0.here hx rfl (hb hby dti_0) rfl rfl k) ?_
  obtain ⟨v1, T1, h1, L1, e1, X1, hQ1, st1⟩ := own_callC X0 hx hZ (y := (⟨"java/util/AbstractMap", "<init>", "()V"⟩ : MethodName)) rfl hown (hw _ (List.mem_of_getElem? (i := 154) rfl)) (hw _ (List.mem_of_getElem? (i := 19) rfl)) (hw _ (List.mem_of_getElem? (i := 22) rfl)) (hw _ (List.mem_of_getElem? (i := 23) rfl)) (by decide) (a := t) (own_rmam l Z a0 hw t h0) (W := 0) (by decide) (by decide) (g := (mkF m 1 #[.val (.ref t), .val (.ref b), .val (.int p1), .val (.int p2), .val (.int p3), .val (.int p4)] [(.ref t)])) rfl (by rw [hml]; rfl) (argsL := []) (rest := []) (lenOf own_pd4 rfl) rfl rfl (by show 2 * 0 + _ ≤ _; exact Nat.le_of_eq rfl) (hb hby dti_1) e0 (by decide) (by decide)
  obtain ⟨rfl, rfl, eh1⟩ := hQ1
  have e1 := e1.trans eh1
  rw [List.append_nil] at X1
  refine own_go (U' := T1.setTop (mkF m 4 #[.val (.ref t), .val (.ref b), .val (.int p1), .val (.int p2), .val (.int p3), .val (.int p4)] [])) st1 ?_
  refine own_go (U' := T1.setTop (mkF m 5 #[.val (.ref t), .val (.ref b), .val (.int p1), .val (.int p2), .val (.int p3), .val (.int p4)] [(.ref t)])) (fun t k => XS.aloadN X1.here hx rfl (hb hby dti_4) rfl rfl k) ?_
  refine own_go (U' := T1.setTop (mkF m 6 #[.val (.ref t), .val (.ref b), .val (.int p1), .val (.int p2), .val (.int p3), .val (.int p4)] [(.ref b), (.ref t)])) (fun t k => XS.aloadN X1.here hx rfl (hb hby dti_5) rfl rfl k) ?_
  obtain ⟨T2, h2, X2, e2, W2, st2⟩ := putF X1 hx hZ hown (host := "") (Or.inl (hw _ (List.mem_of_getElem? (i := 155) rfl))) Via.refl e1 F_log_t E_t (Or.inr ⟨(hw _ (List.mem_of_getElem? (i := 156) rfl)), rfl, hnm⟩) (hw _ (List.mem_of_getElem? (i := 149) rfl)) (ty := (.object "com/example/obedient_dog/obedientdog/topologydiscovery/AgeLog")) (by decide) rfl rfl (g := (mkF m 6 #[.val (.ref t), .val (.ref b), .val (.int p1), .val (.int p2), .val (.int p3), .val (.int p4)] [(.ref b), (.ref t)])) rfl rfl (hb hby dti_6)
  have K := K.wr W2 (Or.inl (List.mem_of_getElem? (i := 0) rfl))
  have E_t := E_t.wr W2
  have F_end_t := F_end_t.other W2 (Or.inr (slot_ne (Or.inr (hw _ (List.mem_of_getElem? (i := 158) rfl))) (Or.inr (hw _ (List.mem_of_getElem? (i := 156) rfl))) (by decide) (t := .int) (t' := (.object "com/example/obedient_dog/obedientdog/topologydiscovery/AgeLog")) (by decide) (by decide)))
  have F_size_t := F_size_t.other W2 (Or.inr (slot_ne (Or.inr (hw _ (List.mem_of_getElem? (i := 160) rfl))) (Or.inr (hw _ (List.mem_of_getElem? (i := 156) rfl))) (by decide) (t := .int) (t' := (.object "com/example/obedient_dog/obedientdog/topologydiscovery/AgeLog")) (by decide) (by decide)))
  have F_present_t := F_present_t.other W2 (Or.inr (slot_ne (Or.inr (hw _ (List.mem_of_getElem? (i := 162) rfl))) (Or.inr (hw _ (List.mem_of_getElem? (i := 156) rfl))) (by decide) (t := .int) (t' := (.object "com/example/obedient_dog/obedientdog/topologydiscovery/AgeLog")) (by decide) (by decide)))
  have F_hash_t := F_hash_t.other W2 (Or.inr (slot_ne (Or.inr (hw _ (List.mem_of_getElem? (i := 164) rfl))) (Or.inr (hw _ (List.mem_of_getElem? (i := 156) rfl))) (by decide) (t := .int) (t' := (.object "com/example/obedient_dog/obedientdog/topologydiscovery/AgeLog")) (by decide) (by decide)))
  have F_log_t := F_log_t.same W2
  have N2 := Fr.snoc X2 N0 g_t
  refine own_go (U' := T2.setTop (mkF m 9 #[.val (.ref t), .val (.ref b), .val (.int p1), .val (.int p2), .val (.int p3), .val (.int p4)] [])) st2 ?_
  refine own_go (U' := T2.setTop (mkF m 10 #[.val (.ref t), .val (.ref b), .val (.int p1), .val (.int p2), .val (.int p3), .val (.int p4)] [(.ref t)])) (fun t k => XS.aloadN X2.here hx rfl (hb hby dti_9) rfl rfl k) ?_
  refine own_go (U' := T2.setTop (mkF m 11 #[.val (.ref t), .val (.ref b), .val (.int p1), .val (.int p2), .val (.int p3), .val (.int p4)] [(.int p1), (.ref t)])) (fun t k => XS.iloadN X2.here hx rfl (hb hby dti_10) rfl k) ?_
  obtain ⟨T3, h3, X3, e3, W3, st3⟩ := putF X2 hx hZ hown (host := "") (Or.inl (hw _ (List.mem_of_getElem? (i := 157) rfl))) Via.refl e2 F_end_t E_t (Or.inr ⟨(hw _ (List.mem_of_getElem? (i := 158) rfl)), rfl, hnm⟩) (hw _ (List.mem_of_getElem? (i := 149) rfl)) (ty := .int) (by decide) rfl rfl (g := (mkF m 11 #[.val (.ref t), .val (.ref b), .val (.int p1), .val (.int p2), .val (.int p3), .val (.int p4)] [(.int p1), (.ref t)])) rfl rfl (hb hby dti_11)
  have K := K.wr W3 (Or.inl (List.mem_of_getElem? (i := 0) rfl))
  have E_t := E_t.wr W3
  have F_log_t := F_log_t.other W3 (Or.inr (slot_ne (Or.inr (hw _ (List.mem_of_getElem? (i := 156) rfl))) (Or.inr (hw _ (List.mem_of_getElem? (i := 158) rfl))) (by decide) (t := (.object "com/example/obedient_dog/obedientdog/topologydiscovery/AgeLog")) (t' := .int) (by decide) (by decide)))
  have F_size_t := F_size_t.other W3 (Or.inr (slot_ne (Or.inr (hw _ (List.mem_of_getElem? (i := 160) rfl))) (Or.inr (hw _ (List.mem_of_getElem? (i := 158) rfl))) (by decide) (t := .int) (t' := .int) (by decide) (by decide)))
  have F_present_t := F_present_t.other W3 (Or.inr (slot_ne (Or.inr (hw _ (List.mem_of_getElem? (i := 162) rfl))) (Or.inr (hw _ (List.mem_of_getElem? (i := 158) rfl))) (by decide) (t := .int) (t' := .int) (by decide) (by decide)))
  have F_hash_t := F_hash_t.other W3 (Or.inr (slot_ne (Or.inr (hw _ (List.mem_of_getElem? (i := 164) rfl))) (Or.inr (hw _ (List.mem_of_getElem? (i := 158) rfl))) (by decide) (t := .int) (t' := .int) (by decide) (by decide)))
  have F_end_t := F_end_t.same W3
  have N3 := Fr.snoc X3 N2 g_t
  refine own_go (U' := T3.setTop (mkF m 14 #[.val (.ref t), .val (.ref b), .val (.int p1), .val (.int p2), .val (.int p3), .val (.int p4)] [])) st3 ?_
  refine own_go (U' := T3.setTop (mkF m 15 #[.val (.ref t), .val (.ref b), .val (.int p1), .val (.int p2), .val (.int p3), .val (.int p4)] [(.ref t)])) (fun t k => XS.aloadN X3.here hx rfl (hb hby dti_14) rfl rfl k) ?_
  refine own_go (U' := T3.setTop (mkF m 16 #[.val (.ref t), .val (.ref b), .val (.int p1), .val (.int p2), .val (.int p3), .val (.int p4)] [(.int p2), (.ref t)])) (fun t k => XS.iloadN X3.here hx rfl (hb hby dti_15) rfl k) ?_
  obtain ⟨T4, h4, X4, e4, W4, st4⟩ := putF X3 hx hZ hown (host := "") (Or.inl (hw _ (List.mem_of_getElem? (i := 159) rfl))) Via.refl e3 F_size_t E_t (Or.inr ⟨(hw _ (List.mem_of_getElem? (i := 160) rfl)), rfl, hnm⟩) (hw _ (List.mem_of_getElem? (i := 149) rfl)) (ty := .int) (by decide) rfl rfl (g := (mkF m 16 #[.val (.ref t), .val (.ref b), .val (.int p1), .val (.int p2), .val (.int p3), .val (.int p4)] [(.int p2), (.ref t)])) rfl rfl (hb hby dti_16)
  have K := K.wr W4 (Or.inl (List.mem_of_getElem? (i := 0) rfl))
  have E_t := E_t.wr W4
  have F_log_t := F_log_t.other W4 (Or.inr (slot_ne (Or.inr (hw _ (List.mem_of_getElem? (i := 156) rfl))) (Or.inr (hw _ (List.mem_of_getElem? (i := 160) rfl))) (by decide) (t := (.object "com/example/obedient_dog/obedientdog/topologydiscovery/AgeLog")) (t' := .int) (by decide) (by decide)))
  have F_end_t := F_end_t.other W4 (Or.inr (slot_ne (Or.inr (hw _ (List.mem_of_getElem? (i := 158) rfl))) (Or.inr (hw _ (List.mem_of_getElem? (i := 160) rfl))) (by decide) (t := .int) (t' := .int) (by decide) (by decide)))
  have F_present_t := F_present_t.other W4 (Or.inr (slot_ne (Or.inr (hw _ (List.mem_of_getElem? (i := 162) rfl))) (Or.inr (hw _ (List.mem_of_getElem? (i := 160) rfl))) (by decide) (t := .int) (t' := .int) (by decide) (by decide)))
  have F_hash_t := F_hash_t.other W4 (Or.inr (slot_ne (Or.inr (hw _ (List.mem_of_getElem? (i := 164) rfl))) (Or.inr (hw _ (List.mem_of_getElem? (i := 160) rfl))) (by decide) (t := .int) (t' := .int) (by decide) (by decide)))
  have F_size_t := F_size_t.same W4
  have N4 := Fr.snoc X4 N3 g_t
  refine own_go (U' := T4.setTop (mkF m 19 #[.val (.ref t), .val (.ref b), .val (.int p1), .val (.int p2), .val (.int p3), .val (.int p4)] [])) st4 ?_
  refine own_go (U' := T4.setTop (mkF m 20 #[.val (.ref t), .val (.ref b), .val (.int p1), .val (.int p2), .val (.int p3), .val (.int p4)] [(.ref t)])) (fun t k => XS.aloadN X4.here hx rfl (hb hby dti_19) rfl rfl k) ?_
  refine own_go (U' := T4.setTop (mkF m 22 #[.val (.ref t), .val (.ref b), .val (.int p1), .val (.int p2), .val (.int p3), .val (.int p4)] [(.int p3), (.ref t)])) (fun t k => XS.iload X4.here hx rfl (hb hby dti_20) rfl k) ?_
  obtain ⟨T5, h5, X5, e5, W5, st5⟩ := putF X4 hx hZ hown (host := "") (Or.inl (hw _ (List.mem_of_getElem? (i := 161) rfl))) Via.refl e4 F_present_t E_t (Or.inr ⟨(hw _ (List.mem_of_getElem? (i := 162) rfl)), rfl, hnm⟩) (hw _ (List.mem_of_getElem? (i := 149) rfl)) (ty := .int) (by decide) rfl rfl (g := (mkF m 22 #[.val (.ref t), .val (.ref b), .val (.int p1), .val (.int p2), .val (.int p3), .val (.int p4)] [(.int p3), (.ref t)])) rfl rfl (hb hby dti_22)
  have K := K.wr W5 (Or.inl (List.mem_of_getElem? (i := 0) rfl))
  have E_t := E_t.wr W5
  have F_log_t := F_log_t.other W5 (Or.inr (slot_ne (Or.inr (hw _ (List.mem_of_getElem? (i := 156) rfl))) (Or.inr (hw _ (List.mem_of_getElem? (i := 162) rfl))) (by decide) (t := (.object "com/example/obedient_dog/obedientdog/topologydiscovery/AgeLog")) (t' := .int) (by decide) (by decide)))
  have F_end_t := F_end_t.other W5 (Or.inr (slot_ne (Or.inr (hw _ (List.mem_of_getElem? (i := 158) rfl))) (Or.inr (hw _ (List.mem_of_getElem? (i := 162) rfl))) (by decide) (t := .int) (t' := .int) (by decide) (by decide)))
  have F_size_t := F_size_t.other W5 (Or.inr (slot_ne (Or.inr (hw _ (List.mem_of_getElem? (i := 160) rfl))) (Or.inr (hw _ (List.mem_of_getElem? (i := 162) rfl))) (by decide) (t := .int) (t' := .int) (by decide) (by decide)))
  have F_hash_t := F_hash_t.other W5 (Or.inr (slot_ne (Or.inr (hw _ (List.mem_of_getElem? (i := 164) rfl))) (Or.inr (hw _ (List.mem_of_getElem? (i := 162) rfl))) (by decide) (t := .int) (t' := .int) (by decide) (by decide)))
  have F_present_t := F_present_t.same W5
  have N5 := Fr.snoc X5 N4 g_t
  refine own_go (U' := T5.setTop (mkF m 25 #[.val (.ref t), .val (.ref b), .val (.int p1), .val (.int p2), .val (.int p3), .val (.int p4)] [])) st5 ?_
  refine own_go (U' := T5.setTop (mkF m 26 #[.val (.ref t), .val (.ref b), .val (.int p1), .val (.int p2), .val (.int p3), .val (.int p4)] [(.ref t)])) (fun t k => XS.aloadN X5.here hx rfl (hb hby dti_25) rfl rfl k) ?_
  refine own_go (U' := T5.setTop (mkF m 28 #[.val (.ref t), .val (.ref b), .val (.int p1), .val (.int p2), .val (.int p3), .val (.int p4)] [(.int p4), (.ref t)])) (fun t k => XS.iload X5.here hx rfl (hb hby dti_26) rfl k) ?_
  obtain ⟨T6, h6, X6, e6, W6, st6⟩ := putF X5 hx hZ hown (host := "") (Or.inl (hw _ (List.mem_of_getElem? (i := 163) rfl))) Via.refl e5 F_hash_t E_t (Or.inr ⟨(hw _ (List.mem_of_getElem? (i := 164) rfl)), rfl, hnm⟩) (hw _ (List.mem_of_getElem? (i := 149) rfl)) (ty := .int) (by decide) rfl rfl (g := (mkF m 28 #[.val (.ref t), .val (.ref b), .val (.int p1), .val (.int p2), .val (.int p3), .val (.int p4)] [(.int p4), (.ref t)])) rfl rfl (hb hby dti_28)
  have K := K.wr W6 (Or.inl (List.mem_of_getElem? (i := 0) rfl))
  have E_t := E_t.wr W6
  have F_log_t := F_log_t.other W6 (Or.inr (slot_ne (Or.inr (hw _ (List.mem_of_getElem? (i := 156) rfl))) (Or.inr (hw _ (List.mem_of_getElem? (i := 164) rfl))) (by decide) (t := (.object "com/example/obedient_dog/obedientdog/topologydiscovery/AgeLog")) (t' := .int) (by decide) (by decide)))
  have F_end_t := F_end_t.other W6 (Or.inr (slot_ne (Or.inr (hw _ (List.mem_of_getElem? (i := 158) rfl))) (Or.inr (hw _ (List.mem_of_getElem? (i := 164) rfl))) (by decide) (t := .int) (t' := .int) (by decide) (by decide)))
  have F_size_t := F_size_t.other W6 (Or.inr (slot_ne (Or.inr (hw _ (List.mem_of_getElem? (i := 160) rfl))) (Or.inr (hw _ (List.mem_of_getElem? (i := 164) rfl))) (by decide) (t := .int) (t' := .int) (by decide) (by decide)))
  have F_present_t := F_present_t.other W6 (Or.inr (slot_ne (Or.inr (hw _ (List.mem_of_getElem? (i := 162) rfl))) (Or.inr (hw _ (List.mem_of_getElem? (i := 164) rfl))) (by decide) (t := .int) (t' := .int) (by decide) (by decide)))
  have F_hash_t := F_hash_t.same W6
  have N6 := Fr.snoc X6 N5 g_t
  refine own_go (U' := T6.setTop (mkF m 31 #[.val (.ref t), .val (.ref b), .val (.int p1), .val (.int p2), .val (.int p3), .val (.int p4)] [])) st6 ?_
  refine own_retV X6 hx hret hlk (hb hby dti_31) ?_ (by decide) (by decide)
  rw [e6]
  exact ⟨rfl, N6, K⟩
theorem dt2_0 : decode prog_39_method_7_code 0 = .ok (.aload_n 0, 1) := by decide +kernel
theorem dt2_1 : decode prog_39_method_7_code 1 = .ok (.getfield 70, 3) := by decide +kernel
theorem dt2_4 : decode prog_39_method_7_code 4 = .ok (.ifnonnull 39, 3) := by decide +kernel
theorem dt2_7 : decode prog_39_method_7_code 7 = .ok (.aload_n 0, 1) := by decide +kernel
theorem dt2_8 : decode prog_39_method_7_code 8 = .ok (.aload_n 0, 1) := by decide +kernel
theorem dt2_9 : decode prog_39_method_7_code 9 = .ok (.getfield 84, 3) := by decide +kernel
theorem dt2_12 : decode prog_39_method_7_code 12 = .ok (.putfield 78, 3) := by decide +kernel
theorem dt2_15 : decode prog_39_method_7_code 15 = .ok (.aload_n 0, 1) := by decide +kernel
theorem dt2_16 : decode prog_39_method_7_code 16 = .ok (.new 37, 3) := by decide +kernel
theorem dt2_19 : decode prog_39_method_7_code 19 = .ok (.dup, 1) := by decide +kernel
theorem dt2_20 : decode prog_39_method_7_code 20 = .ok (.aload_n 0, 1) := by decide +kernel
theorem dt2_21 : decode prog_39_method_7_code 21 = .ok (.aload_n 0, 1) := by decide +kernel
theorem dt2_22 : decode prog_39_method_7_code 22 = .ok (.getfield 84, 3) := by decide +kernel
theorem dt2_25 : decode prog_39_method_7_code 25 = .ok (.aload_n 0, 1) := by decide +kernel
theorem dt2_26 : decode prog_39_method_7_code 26 = .ok (.getfield 63, 3) := by decide +kernel
theorem dt2_29 : decode prog_39_method_7_code 29 = .ok (.aload_n 0, 1) := by decide +kernel
theorem dt2_30 : decode prog_39_method_7_code 30 = .ok (.getfield 87, 3) := by decide +kernel
theorem dt2_33 : decode prog_39_method_7_code 33 = .ok (.aload_n 0, 1) := by decide +kernel
theorem dt2_34 : decode prog_39_method_7_code 34 = .ok (.getfield 90, 3) := by decide +kernel
theorem dt2_37 : decode prog_39_method_7_code 37 = .ok (.invokespecial 93, 3) := by decide +kernel
theorem dt2_40 : decode prog_39_method_7_code 40 = .ok (.putfield 70, 3) := by decide +kernel
theorem dt2_43 : decode prog_39_method_7_code 43 = .ok (.aload_n 0, 1) := by decide +kernel
theorem dt2_44 : decode prog_39_method_7_code 44 = .ok (.getfield 70, 3) := by decide +kernel
theorem dt2_47 : decode prog_39_method_7_code 47 = .ok (.areturn, 1) := by decide +kernel
theorem own_eft2 (m : MethodId) (a : Addr) : entryFrame m #[(.ref a)] 1 = mkF m 0 #[.val (.ref a)] [] := by first | (simp [entryFrame, mkF, argsToLocals, Value.category]; done) | rfl
set_option maxRecDepth 65536 in
set_option maxHeartbeats 40000000 in
theorem own_rmt2 (l : Launch) (Z : State) (a0 : Array Value) (hw : ∀ d ∈ tables_1, d.before a0 Z = true) (a : Addr) (h0 : Heap) (n0 : Nat) (nu ha al : Addr) (lt : List Nat) (ag : List Int32) (en se : Nat) (tb : Value) (O : Old Z n0 h0) (J : own_J lt ag en se) (hen : en < 8) (hT : own_T Z h0 n0 a nu ha al lt ag en se tb) :
    own_C l Z (⟨"com/example/obedient_dog/obedientdog/topologydiscovery/AgeLog", "table", "()Lcom/example/obedient_dog/obedientdog/topologydiscovery/AgeTable;"⟩ : MethodName) prog_39_method_7_code 1 (some (.object "com/example/obedient_dog/obedientdog/topologydiscovery/AgeTable")) [] ({ frames := 3, cells := 1, slots := 7, locals := 43 } : Room) #[(.ref a)] h0 (fun v h L => ∃ t se', v = some (.ref t) ∧ Fr n0 L ∧ Old Z n0 h ∧ own_T Z h n0 a nu ha al lt ag en se' (.ref t) ∧ own_J lt ag en se') := by
  refine own_body (plainFor_of_name own_pn1) fun p e s m below meth c s₁ hx hby hml hret hlk hown hnm hZ X0 e0 => ?_
  rw [own_eft2 m a]
  have N0 := Fr.nil n0
  have hT0 := hT
  obtain ⟨la, ra, ga, sz, pr, hs, ea, lr, kl, kr, kg, kh, rs, F_a, V_la, V_ra, V_ga, h_ra, ⟨E_nu, F_hashes_nu, V_ha, F_links_nu, E_al, F_size_al⟩, hcg, htb, ⟨ne_la_ra, ne_la_ga, ne_ra_ga, ne_ha_la, ne_ha_ra, ne_ha_ga⟩, ⟨g_a, g_la, g_ra, g_ga⟩⟩ := hT
  have K := Keep.refl h0 [a, la, ra, ga]
  skip
  obtain ⟨jl, jg, jle, jse, jin⟩ := id J
  have h_ga : (ag.map Value.int).length = 8 := by rw [List.length_map]; exact jg
  have hea := hcg.refs.1
  have hlr := hcg.refs.2
  have E_a0 : Exa Z h0 a "com/example/obedient_dog/obedientdog/topologydiscovery/AgeLog" := F_a.1
  rcases ref_cases htb with rfl | ⟨t, rfl⟩
  · obtain ⟨E_a, F_latest_a, F_raised_a, F_ages_a, F_numbers_a, F_entries_a, F_size_a, F_sealed_a, F_present_a, F_hash_a, F_table_a, F_earlier_a, F_later_a⟩ := F_a
    have ne_a_la : a ≠ la := by
      obtain ⟨cb, Ab, -⟩ := V_la
      exact ne_arr E_a (hw _ (List.mem_of_getElem? (i := 1) rfl)) Ab
    have ne_a_ra : a ≠ ra := by
      obtain ⟨cb, Ab, -⟩ := V_ra
      exact ne_arr E_a (hw _ (List.mem_of_getElem? (i := 1) rfl)) Ab
    have ne_a_ga : a ≠ ga := by
      obtain ⟨cb, Ab, -⟩ := V_ga
      exact ne_arr E_a (hw _ (List.mem_of_getElem? (i := 1) rfl)) Ab
    have ne_a_ha : a ≠ ha := by
      obtain ⟨cb, Ab, -⟩ := V_ha
      exact ne_arr E_a (hw _ (List.mem_of_getElem? (i := 1) rfl)) Ab
    have ne_nu_la : nu ≠ la := by
      obtain ⟨cb, Ab, -⟩ := V_la
      exact ne_arr E_nu (hw _ (List.mem_of_getElem? (i := 4) rfl)) Ab
    have ne_nu_ra : nu ≠ ra := by
      obtain ⟨cb, Ab, -⟩ := V_ra
      exact ne_arr E_nu (hw _ (List.mem_of_getElem? (i := 4) rfl)) Ab
    have ne_nu_ga : nu ≠ ga := by
      obtain ⟨cb, Ab, -⟩ := V_ga
      exact ne_arr E_nu (hw _ (List.mem_of_getElem? (i := 4) rfl)) Ab
    have ne_nu_ha : nu ≠ ha := by
      obtain ⟨cb, Ab, -⟩ := V_ha
      exact ne_arr E_nu (hw _ (List.mem_of_getElem? (i := 4) rfl)) Ab
    have ne_a_nu : a ≠ nu := ne_exa E_a E_nu (by decide)
    have ne_al_la : al ≠ la := by
      obtain ⟨cb, Ab, -⟩ := V_la
      exact ne_arr E_al (hw _ (List.mem_of_getElem? (i := 31) rfl)) Ab
    have ne_al_ra : al ≠ ra := by
      obtain ⟨cb, Ab, -⟩ := V_ra
      exact ne_arr E_al (hw _ (List.mem_of_getElem? (i := 31) rfl)) Ab
    have ne_al_ga : al ≠ ga := by
      obtain ⟨cb, Ab, -⟩ := V_ga
      exact ne_arr E_al (hw _ (List.mem_of_getElem? (i := 31) rfl)) Ab
    have ne_al_ha : al ≠ ha := by
      obtain ⟨cb, Ab, -⟩ := V_ha
      exact ne_arr E_al (hw _ (List.mem_of_getElem? (i := 31) rfl)) Ab
    have ne_a_al : a ≠ al := ne_exa E_a E_al (by decide)
    have ne_nu_al : nu ≠ al := ne_exa E_nu E_al (by decide)
    refine own_go (U' := s₁.setTop (mkF m 1 #[.val (.ref a)] [(.ref a)])) (fun t k => XS.aloadN X0.here hx rfl (hb hby dt2_0) rfl rfl k) ?_
    obtain ⟨T1, X1, e1, st1⟩ := getF X0 hx hZ hown (host := "") (Or.inl (hw _ (List.mem_of_getElem? (i := 102) rfl))) Via.refl e0 F_table_a (g := (mkF m 1 #[.val (.ref a)] [(.ref a)])) rfl rfl (hb hby dt2_1)
    refine own_go (U' := T1.setTop (mkF m 4 #[.val (.ref a)] [.null])) st1 ?_
    refine own_go (U' := T1.setTop (mkF m 7 #[.val (.ref a)] [])) (fun t k => XS.ifnonnullNo X1.here hx rfl (hb hby dt2_4) rfl k) ?_
    refine own_go (U' := T1.setTop (mkF m 8 #[.val (.ref a)] [(.ref a)])) (fun t k => XS.aloadN X1.here hx rfl (hb hby dt2_7) rfl rfl k) ?_
    refine own_go (U' := T1.setTop (mkF m 9 #[.val (.ref a)] [(.ref a), (.ref a)])) (fun t k => XS.aloadN X1.here hx rfl (hb hby dt2_8) rfl rfl k) ?_
    obtain ⟨T2, X2, e2, st2⟩ := getF X1 hx hZ hown (host := "") (Or.inl (hw _ (List.mem_of_getElem? (i := 85) rfl))) Via.refl e1 F_entries_a (g := (mkF m 9 #[.val (.ref a)] [(.ref a), (.ref a)])) rfl rfl (hb hby dt2_9)
    refine own_go (U' := T2.setTop (mkF m 12 #[.val (.ref a)] [(.int (Int32.ofNat en)), (.ref a)])) st2 ?_
    obtain ⟨T3, h3, X3, e3, W3, st3⟩ := putF X2 hx hZ hown (host := "") (Or.inl (hw _ (List.mem_of_getElem? (i := 109) rfl))) Via.refl e2 F_sealed_a E_a (Or.inl (hw _ (List.mem_of_getElem? (i := 110) rfl))) (hw _ (List.mem_of_getElem? (i := 1) rfl)) (ty := .int) (by decide) rfl rfl (g := (mkF m 12 #[.val (.ref a)] [(.int (Int32.ofNat en)), (.ref a)])) rfl rfl (hb hby dt2_12)
    have O := O.wr W3 g_a
    have K := K.wr W3 (Or.inl (List.mem_of_getElem? (i := 0) rfl))
    have E_a := E_a.wr W3
    have F_latest_a := F_latest_a.other W3 (Or.inr (slot_ne (Or.inl (hw _ (List.mem_of_getElem? (i := 64) rfl))) (Or.inl (hw _ (List.mem_of_getElem? (i := 110) rfl))) (by decide) (t := (.array .int)) (t' := .int) (by decide) (by decide)))
    have F_raised_a := F_raised_a.other W3 (Or.inr (slot_ne (Or.inl (hw _ (List.mem_of_getElem? (i := 66) rfl))) (Or.inl (hw _ (List.mem_of_getElem? (i := 110) rfl))) (by decide) (t := (.array .int)) (t' := .int) (by decide) (by decide)))
    have F_ages_a := F_ages_a.other W3 (Or.inr (slot_ne (Or.inl (hw _ (List.mem_of_getElem? (i := 68) rfl))) (Or.inl (hw _ (List.mem_of_getElem? (i := 110) rfl))) (by decide) (t := (.array .int)) (t' := .int) (by decide) (by decide)))
    have F_numbers_a := F_numbers_a.other W3 (Or.inr (slot_ne (Or.inr (hw _ (List.mem_of_getElem? (i := 70) rfl))) (Or.inl (hw _ (List.mem_of_getElem? (i := 110) rfl))) (by decide) (t := (.object "com/example/obedient_dog/obedientdog/topologydiscovery/LinkNumbers")) (t' := .int) (by decide) (by decide)))
    have F_entries_a := F_entries_a.other W3 (Or.inr (slot_ne (Or.inl (hw _ (List.mem_of_getElem? (i := 86) rfl))) (Or.inl (hw _ (List.mem_of_getElem? (i := 110) rfl))) (by decide) (t := .int) (t' := .int) (by decide) (by decide)))
    have F_size_a := F_size_a.other W3 (Or.inr (slot_ne (Or.inl (hw _ (List.mem_of_getElem? (i := 88) rfl))) (Or.inl (hw _ (List.mem_of_getElem? (i := 110) rfl))) (by decide) (t := .int) (t' := .int) (by decide) (by decide)))
    have F_present_a := F_present_a.other W3 (Or.inr (slot_ne (Or.inl (hw _ (List.mem_of_getElem? (i := 94) rfl))) (Or.inl (hw _ (List.mem_of_getElem? (i := 110) rfl))) (by decide) (t := .int) (t' := .int) (by decide) (by decide)))
    have F_hash_a := F_hash_a.other W3 (Or.inr (slot_ne (Or.inl (hw _ (List.mem_of_getElem? (i := 96) rfl))) (Or.inl (hw _ (List.mem_of_getElem? (i := 110) rfl))) (by decide) (t := .int) (t' := .int) (by decide) (by decide)))
    have F_table_a := F_table_a.other W3 (Or.inr (slot_ne (Or.inl (hw _ (List.mem_of_getElem? (i := 103) rfl))) (Or.inl (hw _ (List.mem_of_getElem? (i := 110) rfl))) (by decide) (t := (.object "com/example/obedient_dog/obedientdog/topologydiscovery/AgeTable")) (t' := .int) (by decide) (by decide)))
    have F_earlier_a := F_earlier_a.other W3 (Or.inr (slot_ne (Or.inl (hw _ (List.mem_of_getElem? (i := 170) rfl))) (Or.inl (hw _ (List.mem_of_getElem? (i := 110) rfl))) (by decide) (t := (.array .int)) (t' := .int) (by decide) (by decide)))
    have F_later_a := F_later_a.other W3 (Or.inr (slot_ne (Or.inl (hw _ (List.mem_of_getElem? (i := 172) rfl))) (Or.inl (hw _ (List.mem_of_getElem? (i := 110) rfl))) (by decide) (t := (.array .int)) (t' := .int) (by decide) (by decide)))
    have E_nu := E_nu.wr W3
    have F_hashes_nu := F_hashes_nu.other W3 (Or.inl (Ne.symm ne_a_nu))
    have V_ha := V_ha.other W3 (Ne.symm ne_a_ha)
    have F_links_nu := F_links_nu.other W3 (Or.inl (Ne.symm ne_a_nu))
    have E_al := E_al.wr W3
    have F_size_al := F_size_al.other W3 (Or.inl (Ne.symm ne_a_al))
    have V_la := V_la.other W3 (Ne.symm ne_a_la)
    have V_ra := V_ra.other W3 (Ne.symm ne_a_ra)
    have V_ga := V_ga.other W3 (Ne.symm ne_a_ga)
    have F_sealed_a := F_sealed_a.same W3
    have N3 := Fr.snoc X3 N0 g_a
    refine own_go (U' := T3.setTop (mkF m 15 #[.val (.ref a)] [])) st3 ?_
    refine own_go (U' := T3.setTop (mkF m 16 #[.val (.ref a)] [(.ref a)])) (fun t k => XS.aloadN X3.here hx rfl (hb hby dt2_15) rfl rfl k) ?_
    obtain ⟨T4, h4, X4, e4, E4, A4, D4, -, st4⟩ := newO X3 hx hZ hown (hw _ (List.mem_of_getElem? (i := 148) rfl)) (hw _ (List.mem_of_getElem? (i := 149) rfl)) (hw _ (List.mem_of_getElem? (i := 150) rfl)) e3 (g := (mkF m 16 #[.val (.ref a)] [(.ref a)])) rfl (hb hby dt2_16) (by decide) (by decide)
    obtain ⟨b4, g4⟩ : ∃ z, z = h3.size := ⟨_, rfl⟩
    rw [← g4] at A4 D4 st4
    have ne_a_b4 : a ≠ b4 := Nat.ne_of_lt (Nat.lt_of_lt_of_eq E_a.lt g4.symm)
    have ne_nu_b4 : nu ≠ b4 := Nat.ne_of_lt (Nat.lt_of_lt_of_eq E_nu.lt g4.symm)
    have ne_ha_b4 : ha ≠ b4 := Nat.ne_of_lt (Nat.lt_of_lt_of_eq V_ha.lt g4.symm)
    have ne_al_b4 : al ≠ b4 := Nat.ne_of_lt (Nat.lt_of_lt_of_eq E_al.lt g4.symm)
    have ne_la_b4 : la ≠ b4 := Nat.ne_of_lt (Nat.lt_of_lt_of_eq V_la.lt g4.symm)
    have ne_ra_b4 : ra ≠ b4 := Nat.ne_of_lt (Nat.lt_of_lt_of_eq V_ra.lt g4.symm)
    have ne_ga_b4 : ga ≠ b4 := Nat.ne_of_lt (Nat.lt_of_lt_of_eq V_ga.lt g4.symm)
    have g_b4 : n0 ≤ b4 := Nat.le_trans (Nat.le_trans (Nat.le_of_eq O.1.symm) O.2.1) (Nat.le_of_eq g4.symm)
    have sz_b4 : h0.size ≤ b4 := Nat.le_trans K.1 (Nat.le_of_eq g4.symm)
    have O := O.ext E4
    have K := K.ext E4
    have E_a := E_a.ext E4
    have F_latest_a := F_latest_a.ext E4
    have F_raised_a := F_raised_a.ext E4
    have F_ages_a := F_ages_a.ext E4
    have F_numbers_a := F_numbers_a.ext E4
    have F_entries_a := F_entries_a.ext E4
    have F_size_a := F_size_a.ext E4
    have F_sealed_a := F_sealed_a.ext E4
    have F_present_a := F_present_a.ext E4
    have F_hash_a := F_hash_a.ext E4
    have F_table_a := F_table_a.ext E4
    have F_earlier_a := F_earlier_a.ext E4
    have F_later_a := F_later_a.ext E4
    have E_nu := E_nu.ext E4
    have F_hashes_nu := F_hashes_nu.ext E4
    have V_ha := V_ha.ext E4
    have F_links_nu := F_links_nu.ext E4
    have E_al := E_al.ext E4
    have F_size_al := F_size_al.ext E4
    have V_la := V_la.ext E4
    have V_ra := V_ra.ext E4
    have V_ga := V_ga.ext E4
    have E_b4 := A4
    have F_log_b4 : Fld Z h4 b4 "com/example/obedient_dog/obedientdog/topologydiscovery/AgeTable" "log" "Lcom/example/obedient_dog/obedientdog/topologydiscovery/AgeLog;" .null := D4 (Or.inr (hw _ (List.mem_of_getElem? (i := 156) rfl))) (ty := (.object "com/example/obedient_dog/obedientdog/topologydiscovery/AgeLog")) (by decide)
    have F_end_b4 : Fld Z h4 b4 "com/example/obedient_dog/obedientdog/topologydiscovery/AgeTable" "end" "I" (.int (0 : Int32)) := D4 (Or.inr (hw _ (List.mem_of_getElem? (i := 158) rfl))) (ty := .int) (by decide)
    have F_size_b4 : Fld Z h4 b4 "com/example/obedient_dog/obedientdog/topologydiscovery/AgeTable" "size" "I" (.int (0 : Int32)) := D4 (Or.inr (hw _ (List.mem_of_getElem? (i := 160) rfl))) (ty := .int) (by decide)
    have F_present_b4 : Fld Z h4 b4 "com/example/obedient_dog/obedientdog/topologydiscovery/AgeTable" "present" "I" (.int (0 : Int32)) := D4 (Or.inr (hw _ (List.mem_of_getElem? (i := 162) rfl))) (ty := .int) (by decide)
    have F_hash_b4 : Fld Z h4 b4 "com/example/obedient_dog/obedientdog/topologydiscovery/AgeTable" "hash" "I" (.int (0 : Int32)) := D4 (Or.inr (hw _ (List.mem_of_getElem? (i := 164) rfl))) (ty := .int) (by decide)
    refine own_go (U' := T4.setTop (mkF m 19 #[.val (.ref a)] [(.ref b4), (.ref a)])) st4 ?_
    refine own_go (U' := T4.setTop (mkF m 20 #[.val (.ref a)] [(.ref b4), (.ref b4), (.ref a)])) (fun t k => XS.dup X4.here hx rfl (hb hby dt2_19) rfl rfl k) ?_
    refine own_go (U' := T4.setTop (mkF m 21 #[.val (.ref a)] [(.ref a), (.ref b4), (.ref b4), (.ref a)])) (fun t k => XS.aloadN X4.here hx rfl (hb hby dt2_20) rfl rfl k) ?_
    refine own_go (U' := T4.setTop (mkF m 22 #[.val (.ref a)] [(.ref a), (.ref a), (.ref b4), (.ref b4), (.ref a)])) (fun t k => XS.aloadN X4.here hx rfl (hb hby dt2_21) rfl rfl k) ?_
    obtain ⟨T5, X5, e5, st5⟩ := getF X4 hx hZ hown (host := "") (Or.inl (hw _ (List.mem_of_getElem? (i := 85) rfl))) Via.refl e4 F_entries_a (g := (mkF m 22 #[.val (.ref a)] [(.ref a), (.ref a), (.ref b4), (.ref b4), (.ref a)])) rfl rfl (hb hby dt2_22)
    refine own_go (U' := T5.setTop (mkF m 25 #[.val (.ref a)] [(.int (Int32.ofNat en)), (.ref a), (.ref b4), (.ref b4), (.ref a)])) st5 ?_
    refine own_go (U' := T5.setTop (mkF m 26 #[.val (.ref a)] [(.ref a), (.int (Int32.ofNat en)), (.ref a), (.ref b4), (.ref b4), (.ref a)])) (fun t k => XS.aloadN X5.here hx rfl (hb hby dt2_25) rfl rfl k) ?_
    obtain ⟨T6, X6, e6, st6⟩ := getF X5 hx hZ hown (host := "") (Or.inl (hw _ (List.mem_of_getElem? (i := 87) rfl))) Via.refl e5 F_size_a (g := (mkF m 26 #[.val (.ref a)] [(.ref a), (.int (Int32.ofNat en)), (.ref a), (.ref b4), (.ref b4), (.ref a)])) rfl rfl (hb hby dt2_26)
    refine own_go (U' := T6.setTop (mkF m 29 #[.val (.ref a)] [(.int sz), (.int (Int32.ofNat en)), (.ref a), (.ref b4), (.ref b4), (.ref a)])) st6 ?_
    refine own_go (U' := T6.setTop (mkF m 30 #[.val (.ref a)] [(.ref a), (.int sz), (.int (Int32.ofNat en)), (.ref a), (.ref b4), (.ref b4), (.ref a)])) (fun t k => XS.aloadN X6.here hx rfl (hb hby dt2_29) rfl rfl k) ?_
    obtain ⟨T7, X7, e7, st7⟩ := getF X6 hx hZ hown (host := "") (Or.inl (hw _ (List.mem_of_getElem? (i := 93) rfl))) Via.refl e6 F_present_a (g := (mkF m 30 #[.val (.ref a)] [(.ref a), (.int sz), (.int (Int32.ofNat en)), (.ref a), (.ref b4), (.ref b4), (.ref a)])) rfl rfl (hb hby dt2_30)
    refine own_go (U' := T7.setTop (mkF m 33 #[.val (.ref a)] [(.int pr), (.int sz), (.int (Int32.ofNat en)), (.ref a), (.ref b4), (.ref b4), (.ref a)])) st7 ?_
    refine own_go (U' := T7.setTop (mkF m 34 #[.val (.ref a)] [(.ref a), (.int pr), (.int sz), (.int (Int32.ofNat en)), (.ref a), (.ref b4), (.ref b4), (.ref a)])) (fun t k => XS.aloadN X7.here hx rfl (hb hby dt2_33) rfl rfl k) ?_
    obtain ⟨T8, X8, e8, st8⟩ := getF X7 hx hZ hown (host := "") (Or.inl (hw _ (List.mem_of_getElem? (i := 95) rfl))) Via.refl e7 F_hash_a (g := (mkF m 34 #[.val (.ref a)] [(.ref a), (.int pr), (.int sz), (.int (Int32.ofNat en)), (.ref a), (.ref b4), (.ref b4), (.ref a)])) rfl rfl (hb hby dt2_34)
    refine own_go (U' := T8.setTop (mkF m 37 #[.val (.ref a)] [(.int hs), (.int pr), (.int sz), (.int (Int32.ofNat en)), (.ref a), (.ref b4), (.ref b4), (.ref a)])) st8 ?_
    obtain ⟨v9, T9, h9, L9, e9, X9, hQ9, st9⟩ := own_callC X8 hx hZ (y := (⟨"com/example/obedient_dog/obedientdog/topologydiscovery/AgeTable", "<init>", "(Lcom/example/obedient_dog/obedientdog/topologydiscovery/AgeLog;IIII)V"⟩ : MethodName)) rfl hown (hw _ (List.mem_of_getElem? (i := 151) rfl)) (hw _ (List.mem_of_getElem? (i := 152) rfl)) (hw _ (List.mem_of_getElem? (i := 150) rfl)) (hw _ (List.mem_of_getElem? (i := 153) rfl)) (by decide) (a := b4) (own_rmti l Z a0 hw b4 a _ _ _ _ h4 n0 g_b4 _ _ _ _ _ E_b4 F_log_b4 F_end_b4 F_size_b4 F_present_b4 F_hash_b4) (W := 2) (by decide) (by decide) (g := (mkF m 37 #[.val (.ref a)] [(.int hs), (.int pr), (.int sz), (.int (Int32.ofNat en)), (.ref a), (.ref b4), (.ref b4), (.ref a)])) rfl (by rw [hml]; rfl) (argsL := [(.ref a), (.int (Int32.ofNat en)), (.int sz), (.int pr), (.int hs)]) (rest := [(.ref b4), (.ref a)]) (lenOf own_pd8 rfl) rfl rfl (by show 2 * 0 + _ ≤ _; exact Nat.le_of_eq rfl) (hb hby dt2_37) e8 (by decide) (by decide)
    obtain ⟨rfl, Nq, Kq⟩ := hQ9
    have O := O.keep Kq (allS g_b4 all0)
    have K := K.trans Kq (allS (Or.inr sz_b4) all0)
    have E_a := E_a.keep Kq
    have F_latest_a := F_latest_a.keep Kq (ninS ne_a_b4 nin0)
    have F_raised_a := F_raised_a.keep Kq (ninS ne_a_b4 nin0)
    have F_ages_a := F_ages_a.keep Kq (ninS ne_a_b4 nin0)
    have F_numbers_a := F_numbers_a.keep Kq (ninS ne_a_b4 nin0)
    have F_entries_a := F_entries_a.keep Kq (ninS ne_a_b4 nin0)
    have F_size_a := F_size_a.keep Kq (ninS ne_a_b4 nin0)
    have F_sealed_a := F_sealed_a.keep Kq (ninS ne_a_b4 nin0)
    have F_present_a := F_present_a.keep Kq (ninS ne_a_b4 nin0)
    have F_hash_a := F_hash_a.keep Kq (ninS ne_a_b4 nin0)
    have F_table_a := F_table_a.keep Kq (ninS ne_a_b4 nin0)
    have F_earlier_a := F_earlier_a.keep Kq (ninS ne_a_b4 nin0)
    have F_later_a := F_later_a.keep Kq (ninS ne_a_b4 nin0)
    have E_nu := E_nu.keep Kq
    have F_hashes_nu := F_hashes_nu.keep Kq (ninS ne_nu_b4 nin0)
    have V_ha := V_ha.keep Kq (ninS ne_ha_b4 nin0)
    have F_links_nu := F_links_nu.keep Kq (ninS ne_nu_b4 nin0)
    have E_al := E_al.keep Kq
    have F_size_al := F_size_al.keep Kq (ninS ne_al_b4 nin0)
    have V_la := V_la.keep Kq (ninS ne_la_b4 nin0)
    have V_ra := V_ra.keep Kq (ninS ne_ra_b4 nin0)
    have V_ga := V_ga.keep Kq (ninS ne_ga_b4 nin0)
    have E_b4 := E_b4.keep Kq
    have N9 := Fr.app N3 Nq
    refine own_go (U' := T9.setTop (mkF m 40 #[.val (.ref a)] [(.ref b4), (.ref a)])) st9 ?_
    obtain ⟨T10, h10, X10, e10, W10, st10⟩ := putF X9 hx hZ hown (host := "") (Or.inl (hw _ (List.mem_of_getElem? (i := 102) rfl))) Via.refl e9 F_table_a E_a (Or.inl (hw _ (List.mem_of_getElem? (i := 103) rfl))) (hw _ (List.mem_of_getElem? (i := 1) rfl)) (ty := (.object "com/example/obedient_dog/obedientdog/topologydiscovery/AgeTable")) (by decide) rfl rfl (g := (mkF m 40 #[.val (.ref a)] [(.ref b4), (.ref a)])) rfl rfl (hb hby dt2_40)
    have O := O.wr W10 g_a
    have K := K.wr W10 (Or.inl (List.mem_of_getElem? (i := 0) rfl))
    have E_a := E_a.wr W10
    have F_latest_a := F_latest_a.other W10 (Or.inr (slot_ne (Or.inl (hw _ (List.mem_of_getElem? (i := 64) rfl))) (Or.inl (hw _ (List.mem_of_getElem? (i := 103) rfl))) (by decide) (t := (.array .int)) (t' := (.object "com/example/obedient_dog/obedientdog/topologydiscovery/AgeTable")) (by decide) (by decide)))
    have F_raised_a := F_raised_a.other W10 (Or.inr (slot_ne (Or.inl (hw _ (List.mem_of_getElem? (i := 66) rfl))) (Or.inl (hw _ (List.mem_of_getElem? (i := 103) rfl))) (by decide) (t := (.array .int)) (t' := (.object "com/example/obedient_dog/obedientdog/topologydiscovery/AgeTable")) (by decide) (by decide)))
    have F_ages_a := F_ages_a.other W10 (Or.inr (slot_ne (Or.inl (hw _ (List.mem_of_getElem? (i := 68) rfl))) (Or.inl (hw _ (List.mem_of_getElem? (i := 103) rfl))) (by decide) (t := (.array .int)) (t' := (.object "com/example/obedient_dog/obedientdog/topologydiscovery/AgeTable")) (by decide) (by decide)))
    have F_numbers_a := F_numbers_a.other W10 (Or.inr (slot_ne (Or.inr (hw _ (List.mem_of_getElem? (i := 70) rfl))) (Or.inl (hw _ (List.mem_of_getElem? (i := 103) rfl))) (by decide) (t := (.object "com/example/obedient_dog/obedientdog/topologydiscovery/LinkNumbers")) (t' := (.object "com/example/obedient_dog/obedientdog/topologydiscovery/AgeTable")) (by decide) (by decide)))
    have F_entries_a := F_entries_a.other W10 (Or.inr (slot_ne (Or.inl (hw _ (List.mem_of_getElem? (i := 86) rfl))) (Or.inl (hw _ (List.mem_of_getElem? (i := 103) rfl))) (by decide) (t := .int) (t' := (.object "com/example/obedient_dog/obedientdog/topologydiscovery/AgeTable")) (by decide) (by decide)))
    have F_size_a := F_size_a.other W10 (Or.inr (slot_ne (Or.inl (hw _ (List.mem_of_getElem? (i := 88) rfl))) (Or.inl (hw _ (List.mem_of_getElem? (i := 103) rfl))) (by decide) (t := .int) (t' := (.object "com/example/obedient_dog/obedientdog/topologydiscovery/AgeTable")) (by decide) (by decide)))
    have F_sealed_a := F_sealed_a.other W10 (Or.inr (slot_ne (Or.inl (hw _ (List.mem_of_getElem? (i := 110) rfl))) (Or.inl (hw _ (List.mem_of_getElem? (i := 103) rfl))) (by decide) (t := .int) (t' := (.object "com/example/obedient_dog/obedientdog/topologydiscovery/AgeTable")) (by decide) (by decide)))
    have F_present_a := F_present_a.other W10 (Or.inr (slot_ne (Or.inl (hw _ (List.mem_of_getElem? (i := 94) rfl))) (Or.inl (hw _ (List.mem_of_getElem? (i := 103) rfl))) (by decide) (t := .int) (t' := (.object "com/example/obedient_dog/obedientdog/topologydiscovery/AgeTable")) (by decide) (by decide)))
    have F_hash_a := F_hash_a.other W10 (Or.inr (slot_ne (Or.inl (hw _ (List.mem_of_getElem? (i := 96) rfl))) (Or.inl (hw _ (List.mem_of_getElem? (i := 103) rfl))) (by decide) (t := .int) (t' := (.object "com/example/obedient_dog/obedientdog/topologydiscovery/AgeTable")) (by decide) (by decide)))
    have F_earlier_a := F_earlier_a.other W10 (Or.inr (slot_ne (Or.inl (hw _ (List.mem_of_getElem? (i := 170) rfl))) (Or.inl (hw _ (List.mem_of_getElem? (i := 103) rfl))) (by decide) (t := (.array .int)) (t' := (.object "com/example/obedient_dog/obedientdog/topologydiscovery/AgeTable")) (by decide) (by decide)))
    have F_later_a := F_later_a.other W10 (Or.inr (slot_ne (Or.inl (hw _ (List.mem_of_getElem? (i := 172) rfl))) (Or.inl (hw _ (List.mem_of_getElem? (i := 103) rfl))) (by decide) (t := (.array .int)) (t' := (.object "com/example/obedient_dog/obedientdog/topologydiscovery/AgeTable")) (by decide) (by decide)))
    have E_nu := E_nu.wr W10
    have F_hashes_nu := F_hashes_nu.other W10 (Or.inl (Ne.symm ne_a_nu))
    have V_ha := V_ha.other W10 (Ne.symm ne_a_ha)
    have F_links_nu := F_links_nu.other W10 (Or.inl (Ne.symm ne_a_nu))
    have E_al := E_al.wr W10
    have F_size_al := F_size_al.other W10 (Or.inl (Ne.symm ne_a_al))
    have V_la := V_la.other W10 (Ne.symm ne_a_la)
    have V_ra := V_ra.other W10 (Ne.symm ne_a_ra)
    have V_ga := V_ga.other W10 (Ne.symm ne_a_ga)
    have E_b4 := E_b4.wr W10
    have F_table_a := F_table_a.same W10
    have N10 := Fr.snoc X10 N9 g_a
    refine own_go (U' := T10.setTop (mkF m 43 #[.val (.ref a)] [])) st10 ?_
    refine own_go (U' := T10.setTop (mkF m 44 #[.val (.ref a)] [(.ref a)])) (fun t k => XS.aloadN X10.here hx rfl (hb hby dt2_43) rfl rfl k) ?_
    obtain ⟨T11, X11, e11, st11⟩ := getF X10 hx hZ hown (host := "") (Or.inl (hw _ (List.mem_of_getElem? (i := 102) rfl))) Via.refl e10 F_table_a (g := (mkF m 44 #[.val (.ref a)] [(.ref a)])) rfl rfl (hb hby dt2_44)
    refine own_go (U' := T11.setTop (mkF m 47 #[.val (.ref a)] [(.ref b4)])) st11 ?_
    refine own_retA X11 hx (t := (.object "com/example/obedient_dog/obedientdog/topologydiscovery/AgeTable")) hret rfl hlk rfl (hb hby dt2_47) ?_ (by decide) (by decide)
    rw [e11]
    exact ⟨_, en, rfl, N10, O, ⟨la, ra, ga, _, _, _, _, _, _, _, _, _, _, ⟨E_a, F_latest_a, F_raised_a, F_ages_a, F_numbers_a, F_entries_a, F_size_a, F_sealed_a, F_present_a, F_hash_a, F_table_a, F_earlier_a, F_later_a⟩, V_la, V_ra, V_ga, h_ra, ⟨E_nu, F_hashes_nu, V_ha, F_links_nu, E_al, F_size_al⟩, (hcg.keep hw E_a0 K (Or.inl rfl)), rfl, ⟨ne_la_ra, ne_la_ga, ne_ra_ga, ne_ha_la, ne_ha_ra, ne_ha_ga⟩, ⟨g_a, g_la, g_ra, g_ga⟩⟩, ⟨jl, jg, jle, Nat.le_refl _, jin⟩⟩
  · obtain ⟨E_a, F_latest_a, F_raised_a, F_ages_a, F_numbers_a, F_entries_a, F_size_a, F_sealed_a, F_present_a, F_hash_a, F_table_a, F_earlier_a, F_later_a⟩ := F_a
    have ne_a_la : a ≠ la := by
      obtain ⟨cb, Ab, -⟩ := V_la
      exact ne_arr E_a (hw _ (List.mem_of_getElem? (i := 1) rfl)) Ab
    have ne_a_ra : a ≠ ra := by
      obtain ⟨cb, Ab, -⟩ := V_ra
      exact ne_arr E_a (hw _ (List.mem_of_getElem? (i := 1) rfl)) Ab
    have ne_a_ga : a ≠ ga := by
      obtain ⟨cb, Ab, -⟩ := V_ga
      exact ne_arr E_a (hw _ (List.mem_of_getElem? (i := 1) rfl)) Ab
    have ne_a_ha : a ≠ ha := by
      obtain ⟨cb, Ab, -⟩ := V_ha
      exact ne_arr E_a (hw _ (List.mem_of_getElem? (i := 1) rfl)) Ab
    have ne_nu_la : nu ≠ la := by
      obtain ⟨cb, Ab, -⟩ := V_la
      exact ne_arr E_nu (hw _ (List.mem_of_getElem? (i := 4) rfl)) Ab
    have ne_nu_ra : nu ≠ ra := by
      obtain ⟨cb, Ab, -⟩ := V_ra
      exact ne_arr E_nu (hw _ (List.mem_of_getElem? (i := 4) rfl)) Ab
    have ne_nu_ga : nu ≠ ga := by
      obtain ⟨cb, Ab, -⟩ := V_ga
      exact ne_arr E_nu (hw _ (List.mem_of_getElem? (i := 4) rfl)) Ab
    have ne_nu_ha : nu ≠ ha := by
      obtain ⟨cb, Ab, -⟩ := V_ha
      exact ne_arr E_nu (hw _ (List.mem_of_getElem? (i := 4) rfl)) Ab
    have ne_a_nu : a ≠ nu := ne_exa E_a E_nu (by decide)
    have ne_al_la : al ≠ la := by
      obtain ⟨cb, Ab, -⟩ := V_la
      exact ne_arr E_al (hw _ (List.mem_of_getElem? (i := 31) rfl)) Ab
    have ne_al_ra : al ≠ ra := by
      obtain ⟨cb, Ab, -⟩ := V_ra
      exact ne_arr E_al (hw _ (List.mem_of_getElem? (i := 31) rfl)) Ab
    have ne_al_ga : al ≠ ga := by
      obtain ⟨cb, Ab, -⟩ := V_ga
      exact ne_arr E_al (hw _ (List.mem_of_getElem? (i := 31) rfl)) Ab
    have ne_al_ha : al ≠ ha := by
      obtain ⟨cb, Ab, -⟩ := V_ha
      exact ne_arr E_al (hw _ (List.mem_of_getElem? (i := 31) rfl)) Ab
    have ne_a_al : a ≠ al := ne_exa E_a E_al (by decide)
    have ne_nu_al : nu ≠ al := ne_exa E_nu E_al (by decide)
    refine own_go (U' := s₁.setTop (mkF m 1 #[.val (.ref a)] [(.ref a)])) (fun t k => XS.aloadN X0.here hx rfl (hb hby dt2_0) rfl rfl k) ?_
    obtain ⟨T12, X12, e12, st12⟩ := getF X0 hx hZ hown (host := "") (Or.inl (hw _ (List.mem_of_getElem? (i := 102) rfl))) Via.refl e0 F_table_a (g := (mkF m 1 #[.val (.ref a)] [(.ref a)])) rfl rfl (hb hby dt2_1)
    refine own_go (U' := T12.setTop (mkF m 4 #[.val (.ref a)] [(.ref t)])) st12 ?_
    refine own_go (U' := T12.setTop (mkF m 43 #[.val (.ref a)] [])) (fun t k => XS.ifnonnullYes X12.here hx rfl (pc0 := 4) (pc' := 43) rfl (hb hby dt2_4) rfl (by decide) (by decide) k) ?_
    refine own_go (U' := T12.setTop (mkF m 44 #[.val (.ref a)] [(.ref a)])) (fun t k => XS.aloadN X12.here hx rfl (hb hby dt2_43) rfl rfl k) ?_
    obtain ⟨T13, X13, e13, st13⟩ := getF X12 hx hZ hown (host := "") (Or.inl (hw _ (List.mem_of_getElem? (i := 102) rfl))) Via.refl e12 F_table_a (g := (mkF m 44 #[.val (.ref a)] [(.ref a)])) rfl rfl (hb hby dt2_44)
    refine own_go (U' := T13.setTop (mkF m 47 #[.val (.ref a)] [(.ref t)])) st13 ?_
    refine own_retA X13 hx (t := (.object "com/example/obedient_dog/obedientdog/topologydiscovery/AgeTable")) hret rfl hlk rfl (hb hby dt2_47) ?_ (by decide) (by decide)
    rw [e13]
    exact ⟨_, se, rfl, N0, O, hT0, J⟩
theorem dac_0 : decode jdk_22_method_1_code 0 = .ok (.aload_n 0, 1) := by decide +kernel
theorem dac_1 : decode jdk_22_method_1_code 1 = .ok (.invokespecial 1, 3) := by decide +kernel
theorem dac_4 : decode jdk_22_method_1_code 4 = .ok (.return_, 1) := by decide +kernel
theorem own_pn6 : plainName "java/util/AbstractCollection" = true := by first | (simp [plainName, overriddenIn]; done) | decide +kernel
theorem own_efac (m : MethodId) (a : Addr) : entryFrame m #[(.ref a)] 1 = mkF m 0 #[.val (.ref a)] [] := by first | (simp [entryFrame, mkF, argsToLocals, Value.category]; done) | rfl
set_option maxRecDepth 65536 in
set_option maxHeartbeats 40000000 in
theorem own_rmac (l : Launch) (Z : State) (a0 : Array Value) (hw : ∀ d ∈ tables_1, d.before a0 Z = true) (a : Addr) (h0 : Heap)  :
    own_C l Z (⟨"java/util/AbstractCollection", "<init>", "()V"⟩ : MethodName) jdk_22_method_1_code 1 none [] ({ frames := 1, cells := 0, slots := 0, locals := 12 } : Room) #[(.ref a)] h0 (fun v h L => v = none ∧ L = [] ∧ h = h0) := by
  refine own_body (plainFor_of_name own_pn6) fun p e s m below meth c s₁ hx hby hml hret hlk hown hnm hZ X0 e0 => ?_
  rw [own_efac m a]
  refine own_go (U' := s₁.setTop (mkF m 1 #[.val (.ref a)] [(.ref a)])) (fun t k => XS.aloadN X0.here hx rfl (hb hby dac_0) rfl rfl k) ?_
  obtain ⟨T1, X1, e1, st1⟩ := initO X0 hx hZ hown (hw _ (List.mem_of_getElem? (i := 48) rfl)) (hw _ (List.mem_of_getElem? (i := 10) rfl)) (hw _ (List.mem_of_getElem? (i := 11) rfl)) e0 (g := (mkF m 1 #[.val (.ref a)] [(.ref a)])) rfl (by rw [hml]; rfl) rfl (hb hby dac_1) (by decide) (W := 0) (by show 2 * 0 + _ ≤ _; exact Nat.le_of_eq rfl) (by decide)
  refine own_go (U' := T1.setTop (mkF m 4 #[.val (.ref a)] [])) st1 ?_
  refine own_retV X1 hx hret hlk (hb hby dac_4) ?_ (by decide) (by decide)
  exact ⟨rfl, rfl, e1⟩
theorem dab_0 : decode jdk_39_method_1_code 0 = .ok (.aload_n 0, 1) := by decide +kernel
theorem dab_1 : decode jdk_39_method_1_code 1 = .ok (.invokespecial 1, 3) := by decide +kernel
theorem dab_4 : decode jdk_39_method_1_code 4 = .ok (.aload_n 0, 1) := by decide +kernel
theorem dab_5 : decode jdk_39_method_1_code 5 = .ok (.iconst 0, 1) := by decide +kernel
theorem dab_6 : decode jdk_39_method_1_code 6 = .ok (.putfield 7, 3) := by decide +kernel
theorem dab_9 : decode jdk_39_method_1_code 9 = .ok (.return_, 1) := by decide +kernel
theorem own_pn7 : plainName "java/util/AbstractList" = true := by first | (simp [plainName, overriddenIn]; done) | decide +kernel
theorem own_efab (m : MethodId) (a : Addr) : entryFrame m #[(.ref a)] 1 = mkF m 0 #[.val (.ref a)] [] := by first | (simp [entryFrame, mkF, argsToLocals, Value.category]; done) | rfl
set_option maxRecDepth 65536 in
set_option maxHeartbeats 40000000 in
theorem own_rmab (l : Launch) (Z : State) (a0 : Array Value) (hw : ∀ d ∈ tables_1, d.before a0 Z = true) (a : Addr) (h0 : Heap) (n0 : Nat) (g_a : n0 ≤ a) (u0 u1 u2 : Value) (E_a : Exa Z h0 a "java/util/ArrayList") (F_modCount_a : Fld Z h0 a "java/util/AbstractList" "modCount" "I" u0) (F_elementData_a : Fld Z h0 a "java/util/ArrayList" "elementData" "[Ljava/lang/Object;" u1) (F_size_a : Fld Z h0 a "java/util/ArrayList" "size" "I" u2) :
    own_C l Z (⟨"java/util/AbstractList", "<init>", "()V"⟩ : MethodName) jdk_39_method_1_code 1 none [] ({ frames := 2, cells := 0, slots := 0, locals := 24 } : Room) #[(.ref a)] h0 (fun v h L => v = none ∧ Fr n0 L ∧ Keep h0 h [a] ∧ Fld Z h a "java/util/AbstractList" "modCount" "I" (.int 0) ∧ Fld Z h a "java/util/ArrayList" "elementData" "[Ljava/lang/Object;" u1 ∧ Fld Z h a "java/util/ArrayList" "size" "I" u2) := by
  refine own_body (plainFor_of_name own_pn7) fun p e s m below meth c s₁ hx hby hml hret hlk hown hnm hZ X0 e0 => ?_
  rw [own_efab m a]
  have N0 := Fr.nil n0
  have K := Keep.refl h0 [a]
  refine own_go (U' := s₁.setTop (mkF m 1 #[.val (.ref a)] [(.ref a)])) (fun t k => XS.aloadN X0.here hx rfl (hb hby dab_0) rfl rfl k) ?_
  obtain ⟨v1, T1, h1, L1, e1, X1, hQ1, st1⟩ := own_callC X0 hx hZ (y := (⟨"java/util/AbstractCollection", "<init>", "()V"⟩ : MethodName)) rfl hown (hw _ (List.mem_of_getElem? (i := 42) rfl)) (hw _ (List.mem_of_getElem? (i := 43) rfl)) (hw _ (List.mem_of_getElem? (i := 46) rfl)) (hw _ (List.mem_of_getElem? (i := 47) rfl)) (by decide) (a := a) (own_rmac l Z a0 hw a h0) (W := 0) (by decide) (by decide) (g := (mkF m 1 #[.val (.ref a)] [(.ref a)])) rfl (by rw [hml]; rfl) (argsL := []) (rest := []) (lenOf own_pd4 rfl) rfl rfl (by show 2 * 0 + _ ≤ _; exact Nat.le_of_eq rfl) (hb hby dab_1) e0 (by decide) (by decide)
  obtain ⟨rfl, rfl, eh1⟩ := hQ1
  have e1 := e1.trans eh1
  rw [List.append_nil] at X1
  refine own_go (U' := T1.setTop (mkF m 4 #[.val (.ref a)] [])) st1 ?_
  refine own_go (U' := T1.setTop (mkF m 5 #[.val (.ref a)] [(.ref a)])) (fun t k => XS.aloadN X1.here hx rfl (hb hby dab_4) rfl rfl k) ?_
  refine own_go (U' := T1.setTop (mkF m 6 #[.val (.ref a)] [(.int (0 : Int32)), (.ref a)])) (fun t k => XS.iconst X1.here hx rfl (hb hby dab_5) k) ?_
  obtain ⟨T2, h2, X2, e2, W2, st2⟩ := putF X1 hx hZ hown (host := "") (Or.inl (hw _ (List.mem_of_getElem? (i := 49) rfl))) Via.refl e1 F_modCount_a E_a (Or.inl (hw _ (List.mem_of_getElem? (i := 50) rfl))) (hw _ (List.mem_of_getElem? (i := 31) rfl)) (ty := .int) (by decide) rfl rfl (g := (mkF m 6 #[.val (.ref a)] [(.int (0 : Int32)), (.ref a)])) rfl rfl (hb hby dab_6)
  have K := K.wr W2 (Or.inl (List.mem_of_getElem? (i := 0) rfl))
  have E_a := E_a.wr W2
  have F_elementData_a := F_elementData_a.other W2 (Or.inr (slot_ne (Or.inl (hw _ (List.mem_of_getElem? (i := 53) rfl))) (Or.inl (hw _ (List.mem_of_getElem? (i := 50) rfl))) (by decide) (t := (.array (.object "java/lang/Object"))) (t' := .int) (by decide) (by decide)))
  have F_size_a := F_size_a.other W2 (Or.inr (slot_ne (Or.inl (hw _ (List.mem_of_getElem? (i := 130) rfl))) (Or.inl (hw _ (List.mem_of_getElem? (i := 50) rfl))) (by decide) (t := .int) (t' := .int) (by decide) (by decide)))
  have F_modCount_a := F_modCount_a.same W2
  have N2 := Fr.snoc X2 N0 g_a
  refine own_go (U' := T2.setTop (mkF m 9 #[.val (.ref a)] [])) st2 ?_
  refine own_retV X2 hx hret hlk (hb hby dab_9) ?_ (by decide) (by decide)
  rw [e2]
  exact ⟨rfl, N2, K, F_modCount_a, F_elementData_a, F_size_a⟩
theorem dal_0 : decode jdk_38_method_2_code 0 = .ok (.aload_n 0, 1) := by decide +kernel
theorem dal_1 : decode jdk_38_method_2_code 1 = .ok (.invokespecial 1, 3) := by decide +kernel
theorem dal_4 : decode jdk_38_method_2_code 4 = .ok (.aload_n 0, 1) := by decide +kernel
theorem dal_5 : decode jdk_38_method_2_code 5 = .ok (.getstatic 39, 3) := by decide +kernel
theorem dal_8 : decode jdk_38_method_2_code 8 = .ok (.putfield 9, 3) := by decide +kernel
theorem dal_11 : decode jdk_38_method_2_code 11 = .ok (.return_, 1) := by decide +kernel
theorem own_efal (m : MethodId) (a : Addr) : entryFrame m #[(.ref a)] 1 = mkF m 0 #[.val (.ref a)] [] := by first | (simp [entryFrame, mkF, argsToLocals, Value.category]; done) | rfl
set_option maxRecDepth 65536 in
set_option maxHeartbeats 40000000 in
theorem own_rmal (l : Launch) (Z : State) (a0 : Array Value) (hw : ∀ d ∈ tables_1, d.before a0 Z = true) (a : Addr) (h0 : Heap) (n0 : Nat) (g_a : n0 ≤ a) (u0 u1 u2 : Value) (dd : Addr) (O : Old Z n0 h0) (S_dd : Sta Z Z.heap "java/util/ArrayList" "DEFAULTCAPACITY_EMPTY_ELEMENTDATA" "[Ljava/lang/Object;" (.ref dd)) (E_a : Exa Z h0 a "java/util/ArrayList") (F_modCount_a : Fld Z h0 a "java/util/AbstractList" "modCount" "I" u0) (F_elementData_a : Fld Z h0 a "java/util/ArrayList" "elementData" "[Ljava/lang/Object;" u1) (F_size_a : Fld Z h0 a "java/util/ArrayList" "size" "I" u2) :
    own_C l Z (⟨"java/util/ArrayList", "<init>", "()V"⟩ : MethodName) jdk_38_method_2_code 1 none [] ({ frames := 3, cells := 0, slots := 0, locals := 36 } : Room) #[(.ref a)] h0 (fun v h L => v = none ∧ Fr n0 L ∧ Keep h0 h [a] ∧ Fld Z h a "java/util/AbstractList" "modCount" "I" (.int 0) ∧ Fld Z h a "java/util/ArrayList" "elementData" "[Ljava/lang/Object;" (.ref dd) ∧ Fld Z h a "java/util/ArrayList" "size" "I" u2) := by
  refine own_body (plainFor_of_name own_pn2) fun p e s m below meth c s₁ hx hby hml hret hlk hown hnm hZ X0 e0 => ?_
  rw [own_efal m a]
  have N0 := Fr.nil n0
  have K := Keep.refl h0 [a]
  refine own_go (U' := s₁.setTop (mkF m 1 #[.val (.ref a)] [(.ref a)])) (fun t k => XS.aloadN X0.here hx rfl (hb hby dal_0) rfl rfl k) ?_
  obtain ⟨v1, T1, h1, L1, e1, X1, hQ1, st1⟩ := own_callC X0 hx hZ (y := (⟨"java/util/AbstractList", "<init>", "()V"⟩ : MethodName)) rfl hown (hw _ (List.mem_of_getElem? (i := 36) rfl)) (hw _ (List.mem_of_getElem? (i := 37) rfl)) (hw _ (List.mem_of_getElem? (i := 40) rfl)) (hw _ (List.mem_of_getElem? (i := 41) rfl)) (by decide) (a := a) (own_rmab l Z a0 hw a h0 n0 g_a u0 u1 u2 E_a F_modCount_a F_elementData_a F_size_a) (W := 0) (by decide) (by decide) (g := (mkF m 1 #[.val (.ref a)] [(.ref a)])) rfl (by rw [hml]; rfl) (argsL := []) (rest := []) (lenOf own_pd4 rfl) rfl rfl (by show 2 * 0 + _ ≤ _; exact Nat.le_of_eq rfl) (hb hby dal_1) e0 (by decide) (by decide)
  obtain ⟨rfl, Nq, Kq, F_modCount_a, F_elementData_a, F_size_a⟩ := hQ1
  have K := K.trans Kq (allS (Or.inl (List.mem_of_getElem? (i := 0) rfl)) all0)
  have O := O.keep Kq (allS g_a all0)
  have E_a := E_a.keep Kq
  have N1 := Fr.app N0 Nq
  refine own_go (U' := T1.setTop (mkF m 4 #[.val (.ref a)] [])) st1 ?_
  refine own_go (U' := T1.setTop (mkF m 5 #[.val (.ref a)] [(.ref a)])) (fun t k => XS.aloadN X1.here hx rfl (hb hby dal_4) rfl rfl k) ?_
  obtain ⟨T2, X2, e2, st2⟩ := getS2 X1 hx hZ hown (host := "") (Or.inl (hw _ (List.mem_of_getElem? (i := 51) rfl))) Via.refl e1 (S_dd.ext O.2) (g := (mkF m 5 #[.val (.ref a)] [(.ref a)])) rfl (hb hby dal_5)
  refine own_go (U' := T2.setTop (mkF m 8 #[.val (.ref a)] [(.ref dd), (.ref a)])) st2 ?_
  obtain ⟨T3, h3, X3, e3, W3, st3⟩ := putF X2 hx hZ hown (host := "") (Or.inl (hw _ (List.mem_of_getElem? (i := 52) rfl))) Via.refl e2 F_elementData_a E_a (Or.inl (hw _ (List.mem_of_getElem? (i := 53) rfl))) (hw _ (List.mem_of_getElem? (i := 31) rfl)) (ty := (.array (.object "java/lang/Object"))) (by decide) rfl rfl (g := (mkF m 8 #[.val (.ref a)] [(.ref dd), (.ref a)])) rfl rfl (hb hby dal_8)
  have K := K.wr W3 (Or.inl (List.mem_of_getElem? (i := 0) rfl))
  have O := O.wr W3 g_a
  have E_a := E_a.wr W3
  have F_modCount_a := F_modCount_a.other W3 (Or.inr (slot_ne (Or.inl (hw _ (List.mem_of_getElem? (i := 50) rfl))) (Or.inl (hw _ (List.mem_of_getElem? (i := 53) rfl))) (by decide) (t := .int) (t' := (.array (.object "java/lang/Object"))) (by decide) (by decide)))
  have F_size_a := F_size_a.other W3 (Or.inr (slot_ne (Or.inl (hw _ (List.mem_of_getElem? (i := 130) rfl))) (Or.inl (hw _ (List.mem_of_getElem? (i := 53) rfl))) (by decide) (t := .int) (t' := (.array (.object "java/lang/Object"))) (by decide) (by decide)))
  have F_elementData_a := F_elementData_a.same W3
  have N3 := Fr.snoc X3 N1 g_a
  refine own_go (U' := T3.setTop (mkF m 11 #[.val (.ref a)] [])) st3 ?_
  refine own_retV X3 hx hret hlk (hb hby dal_11) ?_ (by decide) (by decide)
  rw [e3]
  exact ⟨rfl, N3, K, F_modCount_a, F_elementData_a, F_size_a⟩
theorem dhm_0 : decode jdk_69_method_7_code 0 = .ok (.aload_n 0, 1) := by decide +kernel
theorem dhm_1 : decode jdk_69_method_7_code 1 = .ok (.invokespecial 43, 3) := by decide +kernel
theorem dhm_4 : decode jdk_69_method_7_code 4 = .ok (.aload_n 0, 1) := by decide +kernel
theorem dhm_5 : decode jdk_69_method_7_code 5 = .ok (.ldc 92, 2) := by decide +kernel
theorem dhm_7 : decode jdk_69_method_7_code 7 = .ok (.putfield 81, 3) := by decide +kernel
theorem dhm_10 : decode jdk_69_method_7_code 10 = .ok (.return_, 1) := by decide +kernel
theorem own_pn8 : plainName "java/util/HashMap" = true := by first | (simp [plainName, overriddenIn]; done) | decide +kernel
theorem own_efhm (m : MethodId) (a : Addr) : entryFrame m #[(.ref a)] 1 = mkF m 0 #[.val (.ref a)] [] := by first | (simp [entryFrame, mkF, argsToLocals, Value.category]; done) | rfl
set_option maxRecDepth 65536 in
set_option maxHeartbeats 40000000 in
theorem own_rmhm (l : Launch) (Z : State) (a0 : Array Value) (hw : ∀ d ∈ tables_1, d.before a0 Z = true) (a : Addr) (h0 : Heap) (n0 : Nat) (g_a : n0 ≤ a) (u0 : Value) (E_a : Exa Z h0 a "java/util/HashMap") (F_loadFactor_a : Fld Z h0 a "java/util/HashMap" "loadFactor" "F" u0) :
    own_C l Z (⟨"java/util/HashMap", "<init>", "()V"⟩ : MethodName) jdk_69_method_7_code 1 none [] ({ frames := 2, cells := 0, slots := 0, locals := 24 } : Room) #[(.ref a)] h0 (fun v h L => v = none ∧ Fr n0 L ∧ Keep h0 h [a]) := by
  refine own_body (plainFor_of_name own_pn8) fun p e s m below meth c s₁ hx hby hml hret hlk hown hnm hZ X0 e0 => ?_
  rw [own_efhm m a]
  have N0 := Fr.nil n0
  have K := Keep.refl h0 [a]
  refine own_go (U' := s₁.setTop (mkF m 1 #[.val (.ref a)] [(.ref a)])) (fun t k => XS.aloadN X0.here hx rfl (hb hby dhm_0) rfl rfl k) ?_
  obtain ⟨v1, T1, h1, L1, e1, X1, hQ1, st1⟩ := own_callC X0 hx hZ (y := (⟨"java/util/AbstractMap", "<init>", "()V"⟩ : MethodName)) rfl hown (hw _ (List.mem_of_getElem? (i := 18) rfl)) (hw _ (List.mem_of_getElem? (i := 19) rfl)) (hw _ (List.mem_of_getElem? (i := 22) rfl)) (hw _ (List.mem_of_getElem? (i := 23) rfl)) (by decide) (a := a) (own_rmam l Z a0 hw a h0) (W := 0) (by decide) (by decide) (g := (mkF m 1 #[.val (.ref a)] [(.ref a)])) rfl (by rw [hml]; rfl) (argsL := []) (rest := []) (lenOf own_pd4 rfl) rfl rfl (by show 2 * 0 + _ ≤ _; exact Nat.le_of_eq rfl) (hb hby dhm_1) e0 (by decide) (by decide)
  obtain ⟨rfl, rfl, eh1⟩ := hQ1
  have e1 := e1.trans eh1
  rw [List.append_nil] at X1
  refine own_go (U' := T1.setTop (mkF m 4 #[.val (.ref a)] [])) st1 ?_
  refine own_go (U' := T1.setTop (mkF m 5 #[.val (.ref a)] [(.ref a)])) (fun t k => XS.aloadN X1.here hx rfl (hb hby dhm_4) rfl rfl k) ?_
  refine own_go (U' := T1.setTop (mkF m 7 #[.val (.ref a)] [(.float (1061158912 : UInt32)), (.ref a)])) (fun t k => own_ldcF X1 hx hZ hown (hw _ (List.mem_of_getElem? (i := 25) rfl)) (g := (mkF m 5 #[.val (.ref a)] [(.ref a)])) rfl (hb hby dhm_5) _ k) ?_
  obtain ⟨T2, h2, X2, e2, W2, st2⟩ := putF X1 hx hZ hown (host := "") (Or.inl (hw _ (List.mem_of_getElem? (i := 26) rfl))) Via.refl e1 F_loadFactor_a E_a (Or.inr ⟨(hw _ (List.mem_of_getElem? (i := 27) rfl)), rfl, hnm⟩) (hw _ (List.mem_of_getElem? (i := 13) rfl)) (ty := .float) (by decide) rfl rfl (g := (mkF m 7 #[.val (.ref a)] [(.float (1061158912 : UInt32)), (.ref a)])) rfl rfl (hb hby dhm_7)
  have K := K.wr W2 (Or.inl (List.mem_of_getElem? (i := 0) rfl))
  have E_a := E_a.wr W2
  have F_loadFactor_a := F_loadFactor_a.same W2
  have N2 := Fr.snoc X2 N0 g_a
  refine own_go (U' := T2.setTop (mkF m 10 #[.val (.ref a)] [])) st2 ?_
  refine own_retV X2 hx hret hlk (hb hby dhm_10) ?_ (by decide) (by decide)
  rw [e2]
  exact ⟨rfl, N2, K⟩
theorem dli_0 : decode prog_46_method_1_code 0 = .ok (.aload_n 0, 1) := by decide +kernel
theorem dli_1 : decode prog_46_method_1_code 1 = .ok (.invokespecial 1, 3) := by decide +kernel
theorem dli_4 : decode prog_46_method_1_code 4 = .ok (.aload_n 0, 1) := by decide +kernel
theorem dli_5 : decode prog_46_method_1_code 5 = .ok (.new 7, 3) := by decide +kernel
theorem dli_8 : decode prog_46_method_1_code 8 = .ok (.dup, 1) := by decide +kernel
theorem dli_9 : decode prog_46_method_1_code 9 = .ok (.invokespecial 9, 3) := by decide +kernel
theorem dli_12 : decode prog_46_method_1_code 12 = .ok (.putfield 10, 3) := by decide +kernel
theorem dli_15 : decode prog_46_method_1_code 15 = .ok (.aload_n 0, 1) := by decide +kernel
theorem dli_16 : decode prog_46_method_1_code 16 = .ok (.new 16, 3) := by decide +kernel
theorem dli_19 : decode prog_46_method_1_code 19 = .ok (.dup, 1) := by decide +kernel
theorem dli_20 : decode prog_46_method_1_code 20 = .ok (.invokespecial 18, 3) := by decide +kernel
theorem dli_23 : decode prog_46_method_1_code 23 = .ok (.putfield 19, 3) := by decide +kernel
theorem dli_26 : decode prog_46_method_1_code 26 = .ok (.aload_n 0, 1) := by decide +kernel
theorem dli_27 : decode prog_46_method_1_code 27 = .ok (.bipush 16, 2) := by decide +kernel
theorem dli_29 : decode prog_46_method_1_code 29 = .ok (.newarray .int, 2) := by decide +kernel
theorem dli_31 : decode prog_46_method_1_code 31 = .ok (.putfield 23, 3) := by decide +kernel
theorem dli_34 : decode prog_46_method_1_code 34 = .ok (.return_, 1) := by decide +kernel
theorem own_efli (m : MethodId) (a : Addr) : entryFrame m #[(.ref a)] 1 = mkF m 0 #[.val (.ref a)] [] := by first | (simp [entryFrame, mkF, argsToLocals, Value.category]; done) | rfl
set_option maxRecDepth 65536 in
set_option maxHeartbeats 40000000 in
theorem own_rmli (l : Launch) (Z : State) (a0 : Array Value) (hw : ∀ d ∈ tables_1, d.before a0 Z = true) (a : Addr) (h0 : Heap) (n0 : Nat) (g_a : n0 ≤ a) (u0 u1 u2 : Value) (dd : Addr) (O : Old Z n0 h0) (S_dd : Sta Z Z.heap "java/util/ArrayList" "DEFAULTCAPACITY_EMPTY_ELEMENTDATA" "[Ljava/lang/Object;" (.ref dd)) (E_a : Exa Z h0 a "com/example/obedient_dog/obedientdog/topologydiscovery/LinkNumbers") (F_numbers_a : Fld Z h0 a "com/example/obedient_dog/obedientdog/topologydiscovery/LinkNumbers" "numbers" "Ljava/util/Map;" u0) (F_links_a : Fld Z h0 a "com/example/obedient_dog/obedientdog/topologydiscovery/LinkNumbers" "links" "Ljava/util/List;" u1) (F_hashes_a : Fld Z h0 a "com/example/obedient_dog/obedientdog/topologydiscovery/LinkNumbers" "hashes" "[I" u2) :
    own_C l Z (⟨"com/example/obedient_dog/obedientdog/topologydiscovery/LinkNumbers", "<init>", "()V"⟩ : MethodName) prog_46_method_1_code 1 none [] ({ frames := 4, cells := 3, slots := 27, locals := 51 } : Room) #[(.ref a)] h0 (fun v h L => v = none ∧ Fr n0 L ∧ Keep h0 h [a] ∧ ∃ ha kh al, Fld Z h a "com/example/obedient_dog/obedientdog/topologydiscovery/LinkNumbers" "hashes" "[I" (.ref ha) ∧ own_Ar Z h ha kh .int own_zs ∧ h0.size ≤ ha ∧ Fld Z h a "com/example/obedient_dog/obedientdog/topologydiscovery/LinkNumbers" "links" "Ljava/util/List;" (.ref al) ∧ Exa Z h al "java/util/ArrayList" ∧ Fld Z h al "java/util/ArrayList" "size" "I" (.int 0)) := by
  refine own_body (plainFor_of_name own_pn0) fun p e s m below meth c s₁ hx hby hml hret hlk hown hnm hZ X0 e0 => ?_
  rw [own_efli m a]
  have N0 := Fr.nil n0
  have K := Keep.refl h0 [a]
  refine own_go (U' := s₁.setTop (mkF m 1 #[.val (.ref a)] [(.ref a)])) (fun t k => XS.aloadN X0.here hx rfl (hb hby dli_0) rfl rfl k) ?_
  obtain ⟨T1, X1, e1, st1⟩ := initO X0 hx hZ hown (hw _ (List.mem_of_getElem? (i := 9) rfl)) (hw _ (List.mem_of_getElem? (i := 10) rfl)) (hw _ (List.mem_of_getElem? (i := 11) rfl)) e0 (g := (mkF m 1 #[.val (.ref a)] [(.ref a)])) rfl (by rw [hml]; rfl) rfl (hb hby dli_1) (by decide) (W := 0) (by show 2 * 0 + _ ≤ _; exact Nat.le_of_eq rfl) (by decide)
  refine own_go (U' := T1.setTop (mkF m 4 #[.val (.ref a)] [])) st1 ?_
  refine own_go (U' := T1.setTop (mkF m 5 #[.val (.ref a)] [(.ref a)])) (fun t k => XS.aloadN X1.here hx rfl (hb hby dli_4) rfl rfl k) ?_
  obtain ⟨T2, h2, X2, e2, E2, A2, D2, -, st2⟩ := newO X1 hx hZ hown (hw _ (List.mem_of_getElem? (i := 12) rfl)) (hw _ (List.mem_of_getElem? (i := 13) rfl)) (hw _ (List.mem_of_getElem? (i := 14) rfl)) e1 (g := (mkF m 5 #[.val (.ref a)] [(.ref a)])) rfl (hb hby dli_5) (by decide) (by decide)
  obtain ⟨b2, g2⟩ : ∃ z, z = h0.size := ⟨_, rfl⟩
  rw [← g2] at A2 D2 st2
  have ne_a_b2 : a ≠ b2 := Nat.ne_of_lt (Nat.lt_of_lt_of_eq E_a.lt g2.symm)
  have g_b2 : n0 ≤ b2 := Nat.le_trans (Nat.le_trans (Nat.le_of_eq O.1.symm) O.2.1) (Nat.le_of_eq g2.symm)
  have sz_b2 : h0.size ≤ b2 := Nat.le_trans K.1 (Nat.le_of_eq g2.symm)
  have K := K.ext E2
  have O := O.ext E2
  have E_a := E_a.ext E2
  have F_numbers_a := F_numbers_a.ext E2
  have F_links_a := F_links_a.ext E2
  have F_hashes_a := F_hashes_a.ext E2
  have E_b2 := A2
  have F_loadFactor_b2 : Fld Z h2 b2 "java/util/HashMap" "loadFactor" "F" (defaultValue .float) := D2 (Or.inr (hw _ (List.mem_of_getElem? (i := 27) rfl))) (ty := .float) (by decide)
  refine own_go (U' := T2.setTop (mkF m 8 #[.val (.ref a)] [(.ref b2), (.ref a)])) st2 ?_
  refine own_go (U' := T2.setTop (mkF m 9 #[.val (.ref a)] [(.ref b2), (.ref b2), (.ref a)])) (fun t k => XS.dup X2.here hx rfl (hb hby dli_8) rfl rfl k) ?_
  obtain ⟨v3, T3, h3, L3, e3, X3, hQ3, st3⟩ := own_callC X2 hx hZ (y := (⟨"java/util/HashMap", "<init>", "()V"⟩ : MethodName)) rfl hown (hw _ (List.mem_of_getElem? (i := 15) rfl)) (hw _ (List.mem_of_getElem? (i := 16) rfl)) (hw _ (List.mem_of_getElem? (i := 14) rfl)) (hw _ (List.mem_of_getElem? (i := 17) rfl)) (by decide) (a := b2) (own_rmhm l Z a0 hw b2 h2 n0 g_b2 _ E_b2 F_loadFactor_b2) (W := 2) (by decide) (by decide) (g := (mkF m 9 #[.val (.ref a)] [(.ref b2), (.ref b2), (.ref a)])) rfl (by rw [hml]; rfl) (argsL := []) (rest := [(.ref b2), (.ref a)]) (lenOf own_pd4 rfl) rfl rfl (by show 2 * 0 + _ ≤ _; exact Nat.le_of_eq rfl) (hb hby dli_9) e2 (by decide) (by decide)
  obtain ⟨rfl, Nq, Kq⟩ := hQ3
  have K := K.trans Kq (allS (Or.inr sz_b2) all0)
  have O := O.keep Kq (allS g_b2 all0)
  have E_a := E_a.keep Kq
  have F_numbers_a := F_numbers_a.keep Kq (ninS ne_a_b2 nin0)
  have F_links_a := F_links_a.keep Kq (ninS ne_a_b2 nin0)
  have F_hashes_a := F_hashes_a.keep Kq (ninS ne_a_b2 nin0)
  have E_b2 := E_b2.keep Kq
  have N3 := Fr.app N0 Nq
  refine own_go (U' := T3.setTop (mkF m 12 #[.val (.ref a)] [(.ref b2), (.ref a)])) st3 ?_
  obtain ⟨T4, h4, X4, e4, W4, st4⟩ := putF X3 hx hZ hown (host := "") (Or.inl (hw _ (List.mem_of_getElem? (i := 28) rfl))) Via.refl e3 F_numbers_a E_a (Or.inr ⟨(hw _ (List.mem_of_getElem? (i := 29) rfl)), rfl, hnm⟩) (hw _ (List.mem_of_getElem? (i := 4) rfl)) (ty := (.object "java/util/Map")) (by decide) rfl rfl (g := (mkF m 12 #[.val (.ref a)] [(.ref b2), (.ref a)])) rfl rfl (hb hby dli_12)
  have K := K.wr W4 (Or.inl (List.mem_of_getElem? (i := 0) rfl))
  have O := O.wr W4 g_a
  have E_a := E_a.wr W4
  have F_links_a := F_links_a.other W4 (Or.inr (slot_ne (Or.inr (hw _ (List.mem_of_getElem? (i := 55) rfl))) (Or.inr (hw _ (List.mem_of_getElem? (i := 29) rfl))) (by decide) (t := (.object "java/util/List")) (t' := (.object "java/util/Map")) (by decide) (by decide)))
  have F_hashes_a := F_hashes_a.other W4 (Or.inr (slot_ne (Or.inl (hw _ (List.mem_of_getElem? (i := 58) rfl))) (Or.inr (hw _ (List.mem_of_getElem? (i := 29) rfl))) (by decide) (t := (.array .int)) (t' := (.object "java/util/Map")) (by decide) (by decide)))
  have E_b2 := E_b2.wr W4
  have F_numbers_a := F_numbers_a.same W4
  have N4 := Fr.snoc X4 N3 g_a
  refine own_go (U' := T4.setTop (mkF m 15 #[.val (.ref a)] [])) st4 ?_
  refine own_go (U' := T4.setTop (mkF m 16 #[.val (.ref a)] [(.ref a)])) (fun t k => XS.aloadN X4.here hx rfl (hb hby dli_15) rfl rfl k) ?_
  obtain ⟨T5, h5, X5, e5, E5, A5, D5, -, st5⟩ := newO X4 hx hZ hown (hw _ (List.mem_of_getElem? (i := 30) rfl)) (hw _ (List.mem_of_getElem? (i := 31) rfl)) (hw _ (List.mem_of_getElem? (i := 32) rfl)) e4 (g := (mkF m 16 #[.val (.ref a)] [(.ref a)])) rfl (hb hby dli_16) (by decide) (by decide)
  obtain ⟨b5, g5⟩ : ∃ z, z = h4.size := ⟨_, rfl⟩
  rw [← g5] at A5 D5 st5
  have ne_a_b5 : a ≠ b5 := Nat.ne_of_lt (Nat.lt_of_lt_of_eq E_a.lt g5.symm)
  have g_b5 : n0 ≤ b5 := Nat.le_trans (Nat.le_trans (Nat.le_of_eq O.1.symm) O.2.1) (Nat.le_of_eq g5.symm)
  have sz_b5 : h0.size ≤ b5 := Nat.le_trans K.1 (Nat.le_of_eq g5.symm)
  have K := K.ext E5
  have O := O.ext E5
  have E_a := E_a.ext E5
  have F_numbers_a := F_numbers_a.ext E5
  have F_links_a := F_links_a.ext E5
  have F_hashes_a := F_hashes_a.ext E5
  have E_b5 := A5
  have F_modCount_b5 : Fld Z h5 b5 "java/util/AbstractList" "modCount" "I" (.int (0 : Int32)) := D5 (Or.inl (hw _ (List.mem_of_getElem? (i := 50) rfl))) (ty := .int) (by decide)
  have F_elementData_b5 : Fld Z h5 b5 "java/util/ArrayList" "elementData" "[Ljava/lang/Object;" .null := D5 (Or.inl (hw _ (List.mem_of_getElem? (i := 53) rfl))) (ty := (.array (.object "java/lang/Object"))) (by decide)
  have F_size_b5 : Fld Z h5 b5 "java/util/ArrayList" "size" "I" (.int (0 : Int32)) := D5 (Or.inl (hw _ (List.mem_of_getElem? (i := 130) rfl))) (ty := .int) (by decide)
  refine own_go (U' := T5.setTop (mkF m 19 #[.val (.ref a)] [(.ref b5), (.ref a)])) st5 ?_
  refine own_go (U' := T5.setTop (mkF m 20 #[.val (.ref a)] [(.ref b5), (.ref b5), (.ref a)])) (fun t k => XS.dup X5.here hx rfl (hb hby dli_19) rfl rfl k) ?_
  obtain ⟨v6, T6, h6, L6, e6, X6, hQ6, st6⟩ := own_callC X5 hx hZ (y := (⟨"java/util/ArrayList", "<init>", "()V"⟩ : MethodName)) rfl hown (hw _ (List.mem_of_getElem? (i := 33) rfl)) (hw _ (List.mem_of_getElem? (i := 34) rfl)) (hw _ (List.mem_of_getElem? (i := 32) rfl)) (hw _ (List.mem_of_getElem? (i := 35) rfl)) (by decide) (a := b5) (own_rmal l Z a0 hw b5 h5 n0 g_b5 _ _ _ dd O S_dd E_b5 F_modCount_b5 F_elementData_b5 F_size_b5) (W := 2) (by decide) (by decide) (g := (mkF m 20 #[.val (.ref a)] [(.ref b5), (.ref b5), (.ref a)])) rfl (by rw [hml]; rfl) (argsL := []) (rest := [(.ref b5), (.ref a)]) (lenOf own_pd4 rfl) rfl rfl (by show 2 * 0 + _ ≤ _; exact Nat.le_of_eq rfl) (hb hby dli_20) e5 (by decide) (by decide)
  obtain ⟨rfl, Nq, Kq, Fm, Fe, Fs⟩ := hQ6
  have K := K.trans Kq (allS (Or.inr sz_b5) all0)
  have O := O.keep Kq (allS g_b5 all0)
  have E_a := E_a.keep Kq
  have F_numbers_a := F_numbers_a.keep Kq (ninS ne_a_b5 nin0)
  have F_links_a := F_links_a.keep Kq (ninS ne_a_b5 nin0)
  have F_hashes_a := F_hashes_a.keep Kq (ninS ne_a_b5 nin0)
  have E_b5 := E_b5.keep Kq
  have F_modCount_b5 := Fm
  have F_elementData_b5 := Fe
  have F_size_b5 := Fs
  have N6 := Fr.app N4 Nq
  refine own_go (U' := T6.setTop (mkF m 23 #[.val (.ref a)] [(.ref b5), (.ref a)])) st6 ?_
  obtain ⟨T7, h7, X7, e7, W7, st7⟩ := putF X6 hx hZ hown (host := "") (Or.inl (hw _ (List.mem_of_getElem? (i := 54) rfl))) Via.refl e6 F_links_a E_a (Or.inr ⟨(hw _ (List.mem_of_getElem? (i := 55) rfl)), rfl, hnm⟩) (hw _ (List.mem_of_getElem? (i := 4) rfl)) (ty := (.object "java/util/List")) (by decide) rfl rfl (g := (mkF m 23 #[.val (.ref a)] [(.ref b5), (.ref a)])) rfl rfl (hb hby dli_23)
  have K := K.wr W7 (Or.inl (List.mem_of_getElem? (i := 0) rfl))
  have O := O.wr W7 g_a
  have E_a := E_a.wr W7
  have F_numbers_a := F_numbers_a.other W7 (Or.inr (slot_ne (Or.inr (hw _ (List.mem_of_getElem? (i := 29) rfl))) (Or.inr (hw _ (List.mem_of_getElem? (i := 55) rfl))) (by decide) (t := (.object "java/util/Map")) (t' := (.object "java/util/List")) (by decide) (by decide)))
  have F_hashes_a := F_hashes_a.other W7 (Or.inr (slot_ne (Or.inl (hw _ (List.mem_of_getElem? (i := 58) rfl))) (Or.inr (hw _ (List.mem_of_getElem? (i := 55) rfl))) (by decide) (t := (.array .int)) (t' := (.object "java/util/List")) (by decide) (by decide)))
  have E_b5 := E_b5.wr W7
  have F_modCount_b5 := F_modCount_b5.other W7 (Or.inl (Ne.symm ne_a_b5))
  have F_elementData_b5 := F_elementData_b5.other W7 (Or.inl (Ne.symm ne_a_b5))
  have F_size_b5 := F_size_b5.other W7 (Or.inl (Ne.symm ne_a_b5))
  have F_links_a := F_links_a.same W7
  have N7 := Fr.snoc X7 N6 g_a
  refine own_go (U' := T7.setTop (mkF m 26 #[.val (.ref a)] [])) st7 ?_
  refine own_go (U' := T7.setTop (mkF m 27 #[.val (.ref a)] [(.ref a)])) (fun t k => XS.aloadN X7.here hx rfl (hb hby dli_26) rfl rfl k) ?_
  refine own_go (U' := T7.setTop (mkF m 29 #[.val (.ref a)] [(.int (16 : Int32)), (.ref a)])) (fun t k => XS.bipush X7.here hx rfl (hb hby dli_27) k) ?_
  obtain ⟨T8, h8, k8, X8, e8, E8, A8, Y8, st8⟩ := own_newarr X7 hx hZ (hw _ (List.mem_of_getElem? (i := 56) rfl)) e7 (g := (mkF m 29 #[.val (.ref a)] [(.int (16 : Int32)), (.ref a)])) rfl (hb hby dli_29) rfl (by decide) (cap := 16) (by decide) (by decide) (by decide) (by decide) (ad := "[I") (by decide) rfl (vs := own_zs) rfl
  obtain ⟨b8, g8⟩ : ∃ z, z = h7.size := ⟨_, rfl⟩
  rw [← g8] at A8 Y8 st8
  have ne_a_b8 : a ≠ b8 := Nat.ne_of_lt (Nat.lt_of_lt_of_eq E_a.lt g8.symm)
  have ne_b5_b8 : b5 ≠ b8 := Nat.ne_of_lt (Nat.lt_of_lt_of_eq E_b5.lt g8.symm)
  have g_b8 : n0 ≤ b8 := Nat.le_trans (Nat.le_trans (Nat.le_of_eq O.1.symm) O.2.1) (Nat.le_of_eq g8.symm)
  have sz_b8 : h0.size ≤ b8 := Nat.le_trans K.1 (Nat.le_of_eq g8.symm)
  have K := K.ext E8
  have O := O.ext E8
  have E_a := E_a.ext E8
  have F_numbers_a := F_numbers_a.ext E8
  have F_links_a := F_links_a.ext E8
  have F_hashes_a := F_hashes_a.ext E8
  have E_b5 := E_b5.ext E8
  have F_size_b5 := F_size_b5.ext E8
  have V_b8 : own_Ar Z h8 b8 k8 .int own_zs := A8
  have E_b8 := Y8
  refine own_go (U' := T8.setTop (mkF m 31 #[.val (.ref a)] [(.ref b8), (.ref a)])) st8 ?_
  obtain ⟨T9, h9, X9, e9, W9, st9⟩ := putF X8 hx hZ hown (host := "") (Or.inl (hw _ (List.mem_of_getElem? (i := 57) rfl))) Via.refl e8 F_hashes_a E_a (Or.inl (hw _ (List.mem_of_getElem? (i := 58) rfl))) (hw _ (List.mem_of_getElem? (i := 4) rfl)) (ty := (.array .int)) (by decide) rfl rfl (g := (mkF m 31 #[.val (.ref a)] [(.ref b8), (.ref a)])) rfl rfl (hb hby dli_31)
  have K := K.wr W9 (Or.inl (List.mem_of_getElem? (i := 0) rfl))
  have O := O.wr W9 g_a
  have E_a := E_a.wr W9
  have F_numbers_a := F_numbers_a.other W9 (Or.inr (slot_ne (Or.inr (hw _ (List.mem_of_getElem? (i := 29) rfl))) (Or.inl (hw _ (List.mem_of_getElem? (i := 58) rfl))) (by decide) (t := (.object "java/util/Map")) (t' := (.array .int)) (by decide) (by decide)))
  have F_links_a := F_links_a.other W9 (Or.inr (slot_ne (Or.inr (hw _ (List.mem_of_getElem? (i := 55) rfl))) (Or.inl (hw _ (List.mem_of_getElem? (i := 58) rfl))) (by decide) (t := (.object "java/util/List")) (t' := (.array .int)) (by decide) (by decide)))
  have E_b5 := E_b5.wr W9
  have F_size_b5 := F_size_b5.other W9 (Or.inl (Ne.symm ne_a_b5))
  have V_b8 := V_b8.other W9 (Ne.symm ne_a_b8)
  have E_b8 := E_b8.wr W9
  have F_hashes_a := F_hashes_a.same W9
  have N9 := Fr.snoc X9 N7 g_a
  refine own_go (U' := T9.setTop (mkF m 34 #[.val (.ref a)] [])) st9 ?_
  refine own_retV X9 hx hret hlk (hb hby dli_34) ?_ (by decide) (by decide)
  rw [e9]
  exact ⟨rfl, N9, K, _, _, _, F_hashes_a, V_b8, sz_b8, F_links_a, E_b5, F_size_b5⟩
theorem dai_0 : decode prog_39_method_1_code 0 = .ok (.aload_n 0, 1) := by decide +kernel
theorem dai_1 : decode prog_39_method_1_code 1 = .ok (.invokespecial 1, 3) := by decide +kernel
theorem dai_4 : decode prog_39_method_1_code 4 = .ok (.aload_n 0, 1) := by decide +kernel
theorem dai_5 : decode prog_39_method_1_code 5 = .ok (.bipush 8, 2) := by decide +kernel
theorem dai_7 : decode prog_39_method_1_code 7 = .ok (.newarray .int, 2) := by decide +kernel
theorem dai_9 : decode prog_39_method_1_code 9 = .ok (.putfield 9, 3) := by decide +kernel
theorem dai_12 : decode prog_39_method_1_code 12 = .ok (.aload_n 0, 1) := by decide +kernel
theorem dai_13 : decode prog_39_method_1_code 13 = .ok (.bipush 8, 2) := by decide +kernel
theorem dai_15 : decode prog_39_method_1_code 15 = .ok (.newarray .int, 2) := by decide +kernel
theorem dai_17 : decode prog_39_method_1_code 17 = .ok (.putfield 13, 3) := by decide +kernel
theorem dai_20 : decode prog_39_method_1_code 20 = .ok (.aload_n 0, 1) := by decide +kernel
theorem dai_21 : decode prog_39_method_1_code 21 = .ok (.bipush 8, 2) := by decide +kernel
theorem dai_23 : decode prog_39_method_1_code 23 = .ok (.newarray .int, 2) := by decide +kernel
theorem dai_25 : decode prog_39_method_1_code 25 = .ok (.putfield 16, 3) := by decide +kernel
theorem dai_28 : decode prog_39_method_1_code 28 = .ok (.aload_n 0, 1) := by decide +kernel
theorem dai_29 : decode prog_39_method_1_code 29 = .ok (.aload_n 1, 1) := by decide +kernel
theorem dai_30 : decode prog_39_method_1_code 30 = .ok (.putfield 19, 3) := by decide +kernel
theorem dai_33 : decode prog_39_method_1_code 33 = .ok (.return_, 1) := by decide +kernel
theorem own_efai (m : MethodId) (a nu : Addr) : entryFrame m #[(.ref a), (.ref nu)] 2 = mkF m 0 #[.val (.ref a), .val (.ref nu)] [] := by first | (simp [entryFrame, mkF, argsToLocals, Value.category]; done) | rfl
set_option maxRecDepth 65536 in
set_option maxHeartbeats 40000000 in
theorem own_rmai (l : Launch) (Z : State) (a0 : Array Value) (hw : ∀ d ∈ tables_1, d.before a0 Z = true) (a nu : Addr) (h0 : Heap) (n0 : Nat) (g_a : n0 ≤ a) (O : Old Z n0 h0) (F_a : own_F0 Z h0 a) :
    own_C l Z (⟨"com/example/obedient_dog/obedientdog/topologydiscovery/AgeLog", "<init>", "(Lcom/example/obedient_dog/obedientdog/topologydiscovery/LinkNumbers;)V"⟩ : MethodName) prog_39_method_1_code 2 none [] ({ frames := 1, cells := 3, slots := 24, locals := 12 } : Room) #[(.ref a), (.ref nu)] h0 (fun v h L => v = none ∧ Fr n0 L ∧ Keep h0 h [a] ∧ ∃ la ra ga kl kr kg, own_F Z h a la ra ga nu 0 0 0 0 0 .null .null .null ∧ own_Ar Z h la kl .int (own_is (List.replicate 8 0)) ∧ own_Ar Z h ra kr .int (own_is (List.replicate 8 0)) ∧ own_Ar Z h ga kg .int ((List.replicate 8 (0 : Int32)).map Value.int) ∧ (la ≠ ra ∧ la ≠ ga ∧ ra ≠ ga) ∧ (h0.size ≤ la ∧ h0.size ≤ ra ∧ h0.size ≤ ga) ∧ (n0 ≤ la ∧ n0 ≤ ra ∧ n0 ≤ ga)) := by
  refine own_body (plainFor_of_name own_pn1) fun p e s m below meth c s₁ hx hby hml hret hlk hown hnm hZ X0 e0 => ?_
  rw [own_efai m a nu]
  have N0 := Fr.nil n0
  have K := Keep.refl h0 [a]
  obtain ⟨E_a, F_latest_a, F_raised_a, F_ages_a, F_numbers_a, F_entries_a, F_size_a, F_sealed_a, F_present_a, F_hash_a, F_table_a, F_earlier_a, F_later_a⟩ := F_a
  refine own_go (U' := s₁.setTop (mkF m 1 #[.val (.ref a), .val (.ref nu)] [(.ref a)])) (fun t k => XS.aloadN X0.here hx rfl (hb hby dai_0) rfl rfl k) ?_
  obtain ⟨T1, X1, e1, st1⟩ := initO X0 hx hZ hown (hw _ (List.mem_of_getElem? (i := 62) rfl)) (hw _ (List.mem_of_getElem? (i := 10) rfl)) (hw _ (List.mem_of_getElem? (i := 11) rfl)) e0 (g := (mkF m 1 #[.val (.ref a), .val (.ref nu)] [(.ref a)])) rfl (by rw [hml]; rfl) rfl (hb hby dai_1) (by decide) (W := 0) (by show 2 * 0 + _ ≤ _; exact Nat.le_of_eq rfl) (by decide)
  refine own_go (U' := T1.setTop (mkF m 4 #[.val (.ref a), .val (.ref nu)] [])) st1 ?_
  refine own_go (U' := T1.setTop (mkF m 5 #[.val (.ref a), .val (.ref nu)] [(.ref a)])) (fun t k => XS.aloadN X1.here hx rfl (hb hby dai_4) rfl rfl k) ?_
  refine own_go (U' := T1.setTop (mkF m 7 #[.val (.ref a), .val (.ref nu)] [(.int (8 : Int32)), (.ref a)])) (fun t k => XS.bipush X1.here hx rfl (hb hby dai_5) k) ?_
  obtain ⟨T2, h2, k2, X2, e2, E2, A2, Y2, st2⟩ := own_newarr X1 hx hZ (hw _ (List.mem_of_getElem? (i := 56) rfl)) e1 (g := (mkF m 7 #[.val (.ref a), .val (.ref nu)] [(.int (8 : Int32)), (.ref a)])) rfl (hb hby dai_7) rfl (by decide) (cap := 8) (by decide) (by decide) (by decide) (by decide) (ad := "[I") (by decide) rfl (vs := (own_is (List.replicate 8 0))) rfl
  obtain ⟨b2, g2⟩ : ∃ z, z = h0.size := ⟨_, rfl⟩
  rw [← g2] at A2 Y2 st2
  have ne_a_b2 : a ≠ b2 := Nat.ne_of_lt (Nat.lt_of_lt_of_eq E_a.lt g2.symm)
  have g_b2 : n0 ≤ b2 := Nat.le_trans (Nat.le_trans (Nat.le_of_eq O.1.symm) O.2.1) (Nat.le_of_eq g2.symm)
  have sz_b2 : h0.size ≤ b2 := Nat.le_trans K.1 (Nat.le_of_eq g2.symm)
  have K := K.ext E2
  have O := O.ext E2
  have E_a := E_a.ext E2
  have F_latest_a := F_latest_a.ext E2
  have F_raised_a := F_raised_a.ext E2
  have F_ages_a := F_ages_a.ext E2
  have F_numbers_a := F_numbers_a.ext E2
  have F_entries_a := F_entries_a.ext E2
  have F_size_a := F_size_a.ext E2
  have F_sealed_a := F_sealed_a.ext E2
  have F_present_a := F_present_a.ext E2
  have F_hash_a := F_hash_a.ext E2
  have F_table_a := F_table_a.ext E2
  have F_earlier_a := F_earlier_a.ext E2
  have F_later_a := F_later_a.ext E2
  have V_b2 : own_Ar Z h2 b2 k2 .int (own_is (List.replicate 8 0)) := A2
  have E_b2 := Y2
  refine own_go (U' := T2.setTop (mkF m 9 #[.val (.ref a), .val (.ref nu)] [(.ref b2), (.ref a)])) st2 ?_
  obtain ⟨T3, h3, X3, e3, W3, st3⟩ := putF X2 hx hZ hown (host := "") (Or.inl (hw _ (List.mem_of_getElem? (i := 63) rfl))) Via.refl e2 F_latest_a E_a (Or.inl (hw _ (List.mem_of_getElem? (i := 64) rfl))) (hw _ (List.mem_of_getElem? (i := 1) rfl)) (ty := (.array .int)) (by decide) rfl rfl (g := (mkF m 9 #[.val (.ref a), .val (.ref nu)] [(.ref b2), (.ref a)])) rfl rfl (hb hby dai_9)
  have K := K.wr W3 (Or.inl (List.mem_of_getElem? (i := 0) rfl))
  have O := O.wr W3 g_a
  have E_a := E_a.wr W3
  have F_raised_a := F_raised_a.other W3 (Or.inr (slot_ne (Or.inl (hw _ (List.mem_of_getElem? (i := 66) rfl))) (Or.inl (hw _ (List.mem_of_getElem? (i := 64) rfl))) (by decide) (t := (.array .int)) (t' := (.array .int)) (by decide) (by decide)))
  have F_ages_a := F_ages_a.other W3 (Or.inr (slot_ne (Or.inl (hw _ (List.mem_of_getElem? (i := 68) rfl))) (Or.inl (hw _ (List.mem_of_getElem? (i := 64) rfl))) (by decide) (t := (.array .int)) (t' := (.array .int)) (by decide) (by decide)))
  have F_numbers_a := F_numbers_a.other W3 (Or.inr (slot_ne (Or.inr (hw _ (List.mem_of_getElem? (i := 70) rfl))) (Or.inl (hw _ (List.mem_of_getElem? (i := 64) rfl))) (by decide) (t := (.object "com/example/obedient_dog/obedientdog/topologydiscovery/LinkNumbers")) (t' := (.array .int)) (by decide) (by decide)))
  have F_entries_a := F_entries_a.other W3 (Or.inr (slot_ne (Or.inl (hw _ (List.mem_of_getElem? (i := 86) rfl))) (Or.inl (hw _ (List.mem_of_getElem? (i := 64) rfl))) (by decide) (t := .int) (t' := (.array .int)) (by decide) (by decide)))
  have F_size_a := F_size_a.other W3 (Or.inr (slot_ne (Or.inl (hw _ (List.mem_of_getElem? (i := 88) rfl))) (Or.inl (hw _ (List.mem_of_getElem? (i := 64) rfl))) (by decide) (t := .int) (t' := (.array .int)) (by decide) (by decide)))
  have F_sealed_a := F_sealed_a.other W3 (Or.inr (slot_ne (Or.inl (hw _ (List.mem_of_getElem? (i := 110) rfl))) (Or.inl (hw _ (List.mem_of_getElem? (i := 64) rfl))) (by decide) (t := .int) (t' := (.array .int)) (by decide) (by decide)))
  have F_present_a := F_present_a.other W3 (Or.inr (slot_ne (Or.inl (hw _ (List.mem_of_getElem? (i := 94) rfl))) (Or.inl (hw _ (List.mem_of_getElem? (i := 64) rfl))) (by decide) (t := .int) (t' := (.array .int)) (by decide) (by decide)))
  have F_hash_a := F_hash_a.other W3 (Or.inr (slot_ne (Or.inl (hw _ (List.mem_of_getElem? (i := 96) rfl))) (Or.inl (hw _ (List.mem_of_getElem? (i := 64) rfl))) (by decide) (t := .int) (t' := (.array .int)) (by decide) (by decide)))
  have F_table_a := F_table_a.other W3 (Or.inr (slot_ne (Or.inl (hw _ (List.mem_of_getElem? (i := 103) rfl))) (Or.inl (hw _ (List.mem_of_getElem? (i := 64) rfl))) (by decide) (t := (.object "com/example/obedient_dog/obedientdog/topologydiscovery/AgeTable")) (t' := (.array .int)) (by decide) (by decide)))
  have F_earlier_a := F_earlier_a.other W3 (Or.inr (slot_ne (Or.inl (hw _ (List.mem_of_getElem? (i := 170) rfl))) (Or.inl (hw _ (List.mem_of_getElem? (i := 64) rfl))) (by decide) (t := (.array .int)) (t' := (.array .int)) (by decide) (by decide)))
  have F_later_a := F_later_a.other W3 (Or.inr (slot_ne (Or.inl (hw _ (List.mem_of_getElem? (i := 172) rfl))) (Or.inl (hw _ (List.mem_of_getElem? (i := 64) rfl))) (by decide) (t := (.array .int)) (t' := (.array .int)) (by decide) (by decide)))
  have V_b2 := V_b2.other W3 (Ne.symm ne_a_b2)
  have E_b2 := E_b2.wr W3
  have F_latest_a := F_latest_a.same W3
  have N3 := Fr.snoc X3 N0 g_a
  refine own_go (U' := T3.setTop (mkF m 12 #[.val (.ref a), .val (.ref nu)] [])) st3 ?_
  refine own_go (U' := T3.setTop (mkF m 13 #[.val (.ref a), .val (.ref nu)] [(.ref a)])) (fun t k => XS.aloadN X3.here hx rfl (hb hby dai_12) rfl rfl k) ?_
  refine own_go (U' := T3.setTop (mkF m 15 #[.val (.ref a), .val (.ref nu)] [(.int (8 : Int32)), (.ref a)])) (fun t k => XS.bipush X3.here hx rfl (hb hby dai_13) k) ?_
  obtain ⟨T4, h4, k4, X4, e4, E4, A4, Y4, st4⟩ := own_newarr X3 hx hZ (hw _ (List.mem_of_getElem? (i := 56) rfl)) e3 (g := (mkF m 15 #[.val (.ref a), .val (.ref nu)] [(.int (8 : Int32)), (.ref a)])) rfl (hb hby dai_15) rfl (by decide) (cap := 8) (by decide) (by decide) (by decide) (by decide) (ad := "[I") (by decide) rfl (vs := (own_is (List.replicate 8 0))) rfl
  obtain ⟨b4, g4⟩ : ∃ z, z = h3.size := ⟨_, rfl⟩
  rw [← g4] at A4 Y4 st4
  have ne_a_b4 : a ≠ b4 := Nat.ne_of_lt (Nat.lt_of_lt_of_eq E_a.lt g4.symm)
  have ne_b2_b4 : b2 ≠ b4 := Nat.ne_of_lt (Nat.lt_of_lt_of_eq V_b2.lt g4.symm)
  have g_b4 : n0 ≤ b4 := Nat.le_trans (Nat.le_trans (Nat.le_of_eq O.1.symm) O.2.1) (Nat.le_of_eq g4.symm)
  have sz_b4 : h0.size ≤ b4 := Nat.le_trans K.1 (Nat.le_of_eq g4.symm)
  have K := K.ext E4
  have O := O.ext E4
  have E_a := E_a.ext E4
  have F_latest_a := F_latest_a.ext E4
  have F_raised_a := F_raised_a.ext E4
  have F_ages_a := F_ages_a.ext E4
  have F_numbers_a := F_numbers_a.ext E4
  have F_entries_a := F_entries_a.ext E4
  have F_size_a := F_size_a.ext E4
  have F_sealed_a := F_sealed_a.ext E4
  have F_present_a := F_present_a.ext E4
  have F_hash_a := F_hash_a.ext E4
  have F_table_a := F_table_a.ext E4
  have F_earlier_a := F_earlier_a.ext E4
  have F_later_a := F_later_a.ext E4
  have V_b2 := V_b2.ext E4
  have E_b2 := E_b2.ext E4
  have V_b4 : own_Ar Z h4 b4 k4 .int (own_is (List.replicate 8 0)) := A4
  have E_b4 := Y4
  refine own_go (U' := T4.setTop (mkF m 17 #[.val (.ref a), .val (.ref nu)] [(.ref b4), (.ref a)])) st4 ?_
  obtain ⟨T5, h5, X5, e5, W5, st5⟩ := putF X4 hx hZ hown (host := "") (Or.inl (hw _ (List.mem_of_getElem? (i := 65) rfl))) Via.refl e4 F_raised_a E_a (Or.inl (hw _ (List.mem_of_getElem? (i := 66) rfl))) (hw _ (List.mem_of_getElem? (i := 1) rfl)) (ty := (.array .int)) (by decide) rfl rfl (g := (mkF m 17 #[.val (.ref a), .val (.ref nu)] [(.ref b4), (.ref a)])) rfl rfl (hb hby dai_17)
  have K := K.wr W5 (Or.inl (List.mem_of_getElem? (i := 0) rfl))
  have O := O.wr W5 g_a
  have E_a := E_a.wr W5
  have F_latest_a := F_latest_a.other W5 (Or.inr (slot_ne (Or.inl (hw _ (List.mem_of_getElem? (i := 64) rfl))) (Or.inl (hw _ (List.mem_of_getElem? (i := 66) rfl))) (by decide) (t := (.array .int)) (t' := (.array .int)) (by decide) (by decide)))
  have F_ages_a := F_ages_a.other W5 (Or.inr (slot_ne (Or.inl (hw _ (List.mem_of_getElem? (i := 68) rfl))) (Or.inl (hw _ (List.mem_of_getElem? (i := 66) rfl))) (by decide) (t := (.array .int)) (t' := (.array .int)) (by decide) (by decide)))
  have F_numbers_a := F_numbers_a.other W5 (Or.inr (slot_ne (Or.inr (hw _ (List.mem_of_getElem? (i := 70) rfl))) (Or.inl (hw _ (List.mem_of_getElem? (i := 66) rfl))) (by decide) (t := (.object "com/example/obedient_dog/obedientdog/topologydiscovery/LinkNumbers")) (t' := (.array .int)) (by decide) (by decide)))
  have F_entries_a := F_entries_a.other W5 (Or.inr (slot_ne (Or.inl (hw _ (List.mem_of_getElem? (i := 86) rfl))) (Or.inl (hw _ (List.mem_of_getElem? (i := 66) rfl))) (by decide) (t := .int) (t' := (.array .int)) (by decide) (by decide)))
  have F_size_a := F_size_a.other W5 (Or.inr (slot_ne (Or.inl (hw _ (List.mem_of_getElem? (i := 88) rfl))) (Or.inl (hw _ (List.mem_of_getElem? (i := 66) rfl))) (by decide) (t := .int) (t' := (.array .int)) (by decide) (by decide)))
  have F_sealed_a := F_sealed_a.other W5 (Or.inr (slot_ne (Or.inl (hw _ (List.mem_of_getElem? (i := 110) rfl))) (Or.inl (hw _ (List.mem_of_getElem? (i := 66) rfl))) (by decide) (t := .int) (t' := (.array .int)) (by decide) (by decide)))
  have F_present_a := F_present_a.other W5 (Or.inr (slot_ne (Or.inl (hw _ (List.mem_of_getElem? (i := 94) rfl))) (Or.inl (hw _ (List.mem_of_getElem? (i := 66) rfl))) (by decide) (t := .int) (t' := (.array .int)) (by decide) (by decide)))
  have F_hash_a := F_hash_a.other W5 (Or.inr (slot_ne (Or.inl (hw _ (List.mem_of_getElem? (i := 96) rfl))) (Or.inl (hw _ (List.mem_of_getElem? (i := 66) rfl))) (by decide) (t := .int) (t' := (.array .int)) (by decide) (by decide)))
  have F_table_a := F_table_a.other W5 (Or.inr (slot_ne (Or.inl (hw _ (List.mem_of_getElem? (i := 103) rfl))) (Or.inl (hw _ (List.mem_of_getElem? (i := 66) rfl))) (by decide) (t := (.object "com/example/obedient_dog/obedientdog/topologydiscovery/AgeTable")) (t' := (.array .int)) (by decide) (by decide)))
  have F_earlier_a := F_earlier_a.other W5 (Or.inr (slot_ne (Or.inl (hw _ (List.mem_of_getElem? (i := 170) rfl))) (Or.inl (hw _ (List.mem_of_getElem? (i := 66) rfl))) (by decide) (t := (.array .int)) (t' := (.array .int)) (by decide) (by decide)))
  have F_later_a := F_later_a.other W5 (Or.inr (slot_ne (Or.inl (hw _ (List.mem_of_getElem? (i := 172) rfl))) (Or.inl (hw _ (List.mem_of_getElem? (i := 66) rfl))) (by decide) (t := (.array .int)) (t' := (.array .int)) (by decide) (by decide)))
  have V_b2 := V_b2.other W5 (Ne.symm ne_a_b2)
  have E_b2 := E_b2.wr W5
  have V_b4 := V_b4.other W5 (Ne.symm ne_a_b4)
  have E_b4 := E_b4.wr W5
  have F_raised_a := F_raised_a.same W5
  have N5 := Fr.snoc X5 N3 g_a
  refine own_go (U' := T5.setTop (mkF m 20 #[.val (.ref a), .val (.ref nu)] [])) st5 ?_
  refine own_go (U' := T5.setTop (mkF m 21 #[.val (.ref a), .val (.ref nu)] [(.ref a)])) (fun t k => XS.aloadN X5.here hx rfl (hb hby dai_20) rfl rfl k) ?_
  refine own_go (U' := T5.setTop (mkF m 23 #[.val (.ref a), .val (.ref nu)] [(.int (8 : Int32)), (.ref a)])) (fun t k => XS.bipush X5.here hx rfl (hb hby dai_21) k) ?_
  obtain ⟨T6, h6, k6, X6, e6, E6, A6, Y6, st6⟩ := own_newarr X5 hx hZ (hw _ (List.mem_of_getElem? (i := 56) rfl)) e5 (g := (mkF m 23 #[.val (.ref a), .val (.ref nu)] [(.int (8 : Int32)), (.ref a)])) rfl (hb hby dai_23) rfl (by decide) (cap := 8) (by decide) (by decide) (by decide) (by decide) (ad := "[I") (by decide) rfl (vs := ((List.replicate 8 (0 : Int32)).map Value.int)) rfl
  obtain ⟨b6, g6⟩ : ∃ z, z = h5.size := ⟨_, rfl⟩
  rw [← g6] at A6 Y6 st6
  have ne_a_b6 : a ≠ b6 := Nat.ne_of_lt (Nat.lt_of_lt_of_eq E_a.lt g6.symm)
  have ne_b2_b6 : b2 ≠ b6 := Nat.ne_of_lt (Nat.lt_of_lt_of_eq V_b2.lt g6.symm)
  have ne_b4_b6 : b4 ≠ b6 := Nat.ne_of_lt (Nat.lt_of_lt_of_eq V_b4.lt g6.symm)
  have g_b6 : n0 ≤ b6 := Nat.le_trans (Nat.le_trans (Nat.le_of_eq O.1.symm) O.2.1) (Nat.le_of_eq g6.symm)
  have sz_b6 : h0.size ≤ b6 := Nat.le_trans K.1 (Nat.le_of_eq g6.symm)
  have K := K.ext E6
  have O := O.ext E6
  have E_a := E_a.ext E6
  have F_latest_a := F_latest_a.ext E6
  have F_raised_a := F_raised_a.ext E6
  have F_ages_a := F_ages_a.ext E6
  have F_numbers_a := F_numbers_a.ext E6
  have F_entries_a := F_entries_a.ext E6
  have F_size_a := F_size_a.ext E6
  have F_sealed_a := F_sealed_a.ext E6
  have F_present_a := F_present_a.ext E6
  have F_hash_a := F_hash_a.ext E6
  have F_table_a := F_table_a.ext E6
  have F_earlier_a := F_earlier_a.ext E6
  have F_later_a := F_later_a.ext E6
  have V_b2 := V_b2.ext E6
  have E_b2 := E_b2.ext E6
  have V_b4 := V_b4.ext E6
  have E_b4 := E_b4.ext E6
  have V_b6 : own_Ar Z h6 b6 k6 .int ((List.replicate 8 (0 : Int32)).map Value.int) := A6
  have E_b6 := Y6
  refine own_go (U' := T6.setTop (mkF m 25 #[.val (.ref a), .val (.ref nu)] [(.ref b6), (.ref a)])) st6 ?_
  obtain ⟨T7, h7, X7, e7, W7, st7⟩ := putF X6 hx hZ hown (host := "") (Or.inl (hw _ (List.mem_of_getElem? (i := 67) rfl))) Via.refl e6 F_ages_a E_a (Or.inl (hw _ (List.mem_of_getElem? (i := 68) rfl))) (hw _ (List.mem_of_getElem? (i := 1) rfl)) (ty := (.array .int)) (by decide) rfl rfl (g := (mkF m 25 #[.val (.ref a), .val (.ref nu)] [(.ref b6), (.ref a)])) rfl rfl (hb hby dai_25)
  have K := K.wr W7 (Or.inl (List.mem_of_getElem? (i := 0) rfl))
  have O := O.wr W7 g_a
  have E_a := E_a.wr W7
  have F_latest_a := F_latest_a.other W7 (Or.inr (slot_ne (Or.inl (hw _ (List.mem_of_getElem? (i := 64) rfl))) (Or.inl (hw _ (List.mem_of_getElem? (i := 68) rfl))) (by decide) (t := (.array .int)) (t' := (.array .int)) (by decide) (by decide)))
  have F_raised_a := F_raised_a.other W7 (Or.inr (slot_ne (Or.inl (hw _ (List.mem_of_getElem? (i := 66) rfl))) (Or.inl (hw _ (List.mem_of_getElem? (i := 68) rfl))) (by decide) (t := (.array .int)) (t' := (.array .int)) (by decide) (by decide)))
  have F_numbers_a := F_numbers_a.other W7 (Or.inr (slot_ne (Or.inr (hw _ (List.mem_of_getElem? (i := 70) rfl))) (Or.inl (hw _ (List.mem_of_getElem? (i := 68) rfl))) (by decide) (t := (.object "com/example/obedient_dog/obedientdog/topologydiscovery/LinkNumbers")) (t' := (.array .int)) (by decide) (by decide)))
  have F_entries_a := F_entries_a.other W7 (Or.inr (slot_ne (Or.inl (hw _ (List.mem_of_getElem? (i := 86) rfl))) (Or.inl (hw _ (List.mem_of_getElem? (i := 68) rfl))) (by decide) (t := .int) (t' := (.array .int)) (by decide) (by decide)))
  have F_size_a := F_size_a.other W7 (Or.inr (slot_ne (Or.inl (hw _ (List.mem_of_getElem? (i := 88) rfl))) (Or.inl (hw _ (List.mem_of_getElem? (i := 68) rfl))) (by decide) (t := .int) (t' := (.array .int)) (by decide) (by decide)))
  have F_sealed_a := F_sealed_a.other W7 (Or.inr (slot_ne (Or.inl (hw _ (List.mem_of_getElem? (i := 110) rfl))) (Or.inl (hw _ (List.mem_of_getElem? (i := 68) rfl))) (by decide) (t := .int) (t' := (.array .int)) (by decide) (by decide)))
  have F_present_a := F_present_a.other W7 (Or.inr (slot_ne (Or.inl (hw _ (List.mem_of_getElem? (i := 94) rfl))) (Or.inl (hw _ (List.mem_of_getElem? (i := 68) rfl))) (by decide) (t := .int) (t' := (.array .int)) (by decide) (by decide)))
  have F_hash_a := F_hash_a.other W7 (Or.inr (slot_ne (Or.inl (hw _ (List.mem_of_getElem? (i := 96) rfl))) (Or.inl (hw _ (List.mem_of_getElem? (i := 68) rfl))) (by decide) (t := .int) (t' := (.array .int)) (by decide) (by decide)))
  have F_table_a := F_table_a.other W7 (Or.inr (slot_ne (Or.inl (hw _ (List.mem_of_getElem? (i := 103) rfl))) (Or.inl (hw _ (List.mem_of_getElem? (i := 68) rfl))) (by decide) (t := (.object "com/example/obedient_dog/obedientdog/topologydiscovery/AgeTable")) (t' := (.array .int)) (by decide) (by decide)))
  have F_earlier_a := F_earlier_a.other W7 (Or.inr (slot_ne (Or.inl (hw _ (List.mem_of_getElem? (i := 170) rfl))) (Or.inl (hw _ (List.mem_of_getElem? (i := 68) rfl))) (by decide) (t := (.array .int)) (t' := (.array .int)) (by decide) (by decide)))
  have F_later_a := F_later_a.other W7 (Or.inr (slot_ne (Or.inl (hw _ (List.mem_of_getElem? (i := 172) rfl))) (Or.inl (hw _ (List.mem_of_getElem? (i := 68) rfl))) (by decide) (t := (.array .int)) (t' := (.array .int)) (by decide) (by decide)))
  have V_b2 := V_b2.other W7 (Ne.symm ne_a_b2)
  have E_b2 := E_b2.wr W7
  have V_b4 := V_b4.other W7 (Ne.symm ne_a_b4)
  have E_b4 := E_b4.wr W7
  have V_b6 := V_b6.other W7 (Ne.symm ne_a_b6)
  have E_b6 := E_b6.wr W7
  have F_ages_a := F_ages_a.same W7
  have N7 := Fr.snoc X7 N5 g_a
  refine own_go (U' := T7.setTop (mkF m 28 #[.val (.ref a), .val (.ref nu)] [])) st7 ?_
  refine own_go (U' := T7.setTop (mkF m 29 #[.val (.ref a), .val (.ref nu)] [(.ref a)])) (fun t k => XS.aloadN X7.here hx rfl (hb hby dai_28) rfl rfl k) ?_
  refine own_go (U' := T7.setTop (mkF m 30 #[.val (.ref a), .val (.ref nu)] [(.ref nu), (.ref a)])) (fun t k => XS.aloadN X7.here hx rfl (hb hby dai_29) rfl rfl k) ?_
  obtain ⟨T8, h8, X8, e8, W8, st8⟩ := putF X7 hx hZ hown (host := "") (Or.inl (hw _ (List.mem_of_getElem? (i := 69) rfl))) Via.refl e7 F_numbers_a E_a (Or.inr ⟨(hw _ (List.mem_of_getElem? (i := 70) rfl)), rfl, hnm⟩) (hw _ (List.mem_of_getElem? (i := 1) rfl)) (ty := (.object "com/example/obedient_dog/obedientdog/topologydiscovery/LinkNumbers")) (by decide) rfl rfl (g := (mkF m 30 #[.val (.ref a), .val (.ref nu)] [(.ref nu), (.ref a)])) rfl rfl (hb hby dai_30)
  have K := K.wr W8 (Or.inl (List.mem_of_getElem? (i := 0) rfl))
  have O := O.wr W8 g_a
  have E_a := E_a.wr W8
  have F_latest_a := F_latest_a.other W8 (Or.inr (slot_ne (Or.inl (hw _ (List.mem_of_getElem? (i := 64) rfl))) (Or.inr (hw _ (List.mem_of_getElem? (i := 70) rfl))) (by decide) (t := (.array .int)) (t' := (.object "com/example/obedient_dog/obedientdog/topologydiscovery/LinkNumbers")) (by decide) (by decide)))
  have F_raised_a := F_raised_a.other W8 (Or.inr (slot_ne (Or.inl (hw _ (List.mem_of_getElem? (i := 66) rfl))) (Or.inr (hw _ (List.mem_of_getElem? (i := 70) rfl))) (by decide) (t := (.array .int)) (t' := (.object "com/example/obedient_dog/obedientdog/topologydiscovery/LinkNumbers")) (by decide) (by decide)))
  have F_ages_a := F_ages_a.other W8 (Or.inr (slot_ne (Or.inl (hw _ (List.mem_of_getElem? (i := 68) rfl))) (Or.inr (hw _ (List.mem_of_getElem? (i := 70) rfl))) (by decide) (t := (.array .int)) (t' := (.object "com/example/obedient_dog/obedientdog/topologydiscovery/LinkNumbers")) (by decide) (by decide)))
  have F_entries_a := F_entries_a.other W8 (Or.inr (slot_ne (Or.inl (hw _ (List.mem_of_getElem? (i := 86) rfl))) (Or.inr (hw _ (List.mem_of_getElem? (i := 70) rfl))) (by decide) (t := .int) (t' := (.object "com/example/obedient_dog/obedientdog/topologydiscovery/LinkNumbers")) (by decide) (by decide)))
  have F_size_a := F_size_a.other W8 (Or.inr (slot_ne (Or.inl (hw _ (List.mem_of_getElem? (i := 88) rfl))) (Or.inr (hw _ (List.mem_of_getElem? (i := 70) rfl))) (by decide) (t := .int) (t' := (.object "com/example/obedient_dog/obedientdog/topologydiscovery/LinkNumbers")) (by decide) (by decide)))
  have F_sealed_a := F_sealed_a.other W8 (Or.inr (slot_ne (Or.inl (hw _ (List.mem_of_getElem? (i := 110) rfl))) (Or.inr (hw _ (List.mem_of_getElem? (i := 70) rfl))) (by decide) (t := .int) (t' := (.object "com/example/obedient_dog/obedientdog/topologydiscovery/LinkNumbers")) (by decide) (by decide)))
  have F_present_a := F_present_a.other W8 (Or.inr (slot_ne (Or.inl (hw _ (List.mem_of_getElem? (i := 94) rfl))) (Or.inr (hw _ (List.mem_of_getElem? (i := 70) rfl))) (by decide) (t := .int) (t' := (.object "com/example/obedient_dog/obedientdog/topologydiscovery/LinkNumbers")) (by decide) (by decide)))
  have F_hash_a := F_hash_a.other W8 (Or.inr (slot_ne (Or.inl (hw _ (List.mem_of_getElem? (i := 96) rfl))) (Or.inr (hw _ (List.mem_of_getElem? (i := 70) rfl))) (by decide) (t := .int) (t' := (.object "com/example/obedient_dog/obedientdog/topologydiscovery/LinkNumbers")) (by decide) (by decide)))
  have F_table_a := F_table_a.other W8 (Or.inr (slot_ne (Or.inl (hw _ (List.mem_of_getElem? (i := 103) rfl))) (Or.inr (hw _ (List.mem_of_getElem? (i := 70) rfl))) (by decide) (t := (.object "com/example/obedient_dog/obedientdog/topologydiscovery/AgeTable")) (t' := (.object "com/example/obedient_dog/obedientdog/topologydiscovery/LinkNumbers")) (by decide) (by decide)))
  have F_earlier_a := F_earlier_a.other W8 (Or.inr (slot_ne (Or.inl (hw _ (List.mem_of_getElem? (i := 170) rfl))) (Or.inr (hw _ (List.mem_of_getElem? (i := 70) rfl))) (by decide) (t := (.array .int)) (t' := (.object "com/example/obedient_dog/obedientdog/topologydiscovery/LinkNumbers")) (by decide) (by decide)))
  have F_later_a := F_later_a.other W8 (Or.inr (slot_ne (Or.inl (hw _ (List.mem_of_getElem? (i := 172) rfl))) (Or.inr (hw _ (List.mem_of_getElem? (i := 70) rfl))) (by decide) (t := (.array .int)) (t' := (.object "com/example/obedient_dog/obedientdog/topologydiscovery/LinkNumbers")) (by decide) (by decide)))
  have V_b2 := V_b2.other W8 (Ne.symm ne_a_b2)
  have E_b2 := E_b2.wr W8
  have V_b4 := V_b4.other W8 (Ne.symm ne_a_b4)
  have E_b4 := E_b4.wr W8
  have V_b6 := V_b6.other W8 (Ne.symm ne_a_b6)
  have E_b6 := E_b6.wr W8
  have F_numbers_a := F_numbers_a.same W8
  have N8 := Fr.snoc X8 N7 g_a
  refine own_go (U' := T8.setTop (mkF m 33 #[.val (.ref a), .val (.ref nu)] [])) st8 ?_
  refine own_retV X8 hx hret hlk (hb hby dai_33) ?_ (by decide) (by decide)
  rw [e8]
  exact ⟨rfl, N8, K, _, _, _, _, _, _, ⟨E_a, F_latest_a, F_raised_a, F_ages_a, F_numbers_a, F_entries_a, F_size_a, F_sealed_a, F_present_a, F_hash_a, F_table_a, F_earlier_a, F_later_a⟩, V_b2, V_b4, V_b6, ⟨ne_b2_b4, ne_b2_b6, ne_b4_b6⟩, ⟨sz_b2, sz_b4, sz_b6⟩, ⟨g_b2, g_b4, g_b6⟩⟩
theorem own_pn9 : plainName "com/example/obedient_dog/obedientdog/topologydiscovery/AgeLogAgePinLaw" = true := by first | (simp [plainName, overriddenIn]; done) | decide +kernel
theorem own_ef0 (m : MethodId) (p1 p2 p3 p4 p5 : Int32) : entryFrame m #[(.int p1), (.int p2), (.int p3), (.int p4), (.int p5)] maxLocals = mkF m 0 #[.val (.int p1), .val (.int p2), .val (.int p3), .val (.int p4), .val (.int p5), .unset, .unset, .unset, .unset, .unset, .unset, .unset, .unset, .unset, .unset, .unset, .unset, .unset, .unset, .unset] [] := by first | (simp [entryFrame, mkF, argsToLocals, Value.category, maxLocals]; done) | rfl
set_option maxRecDepth 65536 in
set_option maxHeartbeats 40000000 in
theorem own_rm0 (l : Launch) (Z : State) (a0 : Array Value) (hw : ∀ d ∈ tables_1, d.before a0 Z = true) (ws : List Jvm.Cond) (p1 p2 p3 p4 p5 : Int32) (h0 : Heap) (n0 : Nat) (dd : Addr) (O : Old Z n0 h0) (S_dd : Sta Z Z.heap "java/util/ArrayList" "DEFAULTCAPACITY_EMPTY_ELEMENTDATA" "[Ljava/lang/Object;" (.ref dd)) :
    own_C l Z x code maxLocals ret ws room_1 #[(.int p1), (.int p2), (.int p3), (.int p4), (.int p5)] h0 (fun v h L => v = some (.int 1) ∧ Fr n0 L) := by
  refine own_body (plainFor_of_name own_pn9) fun p e s m below meth c s₁ hx hby hml hret hlk hown hnm hZ X0 e0 => ?_
  rw [own_ef0 m p1 p2 p3 p4 p5]
  have hml : c.maxLocals = 20 := hml
  have hret : meth.sig.returnType = some .boolean := hret
  have N0 := Fr.nil n0
  refine own_go (U' := s₁.setTop (mkF m 1 #[.val (.int p1), .val (.int p2), .val (.int p3), .val (.int p4), .val (.int p5), .unset, .unset, .unset, .unset, .unset, .unset, .unset, .unset, .unset, .unset, .unset, .unset, .unset, .unset, .unset] [(.int p1)])) (fun t k => XS.iloadN X0.here hx rfl (hb hby at_0) rfl k) ?_
  refine own_go (U' := s₁.setTop (mkF m 3 #[.val (.int p1), .val (.int p2), .val (.int p3), .val (.int p4), .val (.int p5), .unset, .unset, .unset, .unset, .unset, .unset, .unset, .unset, .unset, .unset, .unset, .unset, .unset, .unset, .unset] [(.int (15 : Int32)), (.int p1)])) (fun t k => XS.bipush X0.here hx rfl (hb hby at_1) k) ?_
  refine own_go (U' := s₁.setTop (mkF m 4 #[.val (.int p1), .val (.int p2), .val (.int p3), .val (.int p4), .val (.int p5), .unset, .unset, .unset, .unset, .unset, .unset, .unset, .unset, .unset, .unset, .unset, .unset, .unset, .unset, .unset] [(.int (p1 &&& (15 : Int32)))])) (fun t k => XS.iand X0.here hx rfl (hb hby at_3) rfl k) ?_
  obtain ⟨m1, hm1, em1⟩ := own_fift p1
  generalize hv_x1 : (p1 &&& (15 : Int32)) = x1
  have ex1 : x1 = Int32.ofNat m1 := hv_x1.symm.trans em1
  refine own_go (U' := s₁.setTop (mkF m 6 #[.val (.int p1), .val (.int p2), .val (.int p3), .val (.int p4), .val (.int p5), .val (.int x1), .unset, .unset, .unset, .unset, .unset, .unset, .unset, .unset, .unset, .unset, .unset, .unset, .unset, .unset] [])) (fun t k => XS.istore X0.here hx rfl (hb hby at_4) rfl (l' := #[.val (.int p1), .val (.int p2), .val (.int p3), .val (.int p4), .val (.int p5), .val (.int x1), .unset, .unset, .unset, .unset, .unset, .unset, .unset, .unset, .unset, .unset, .unset, .unset, .unset, .unset]) rfl k) ?_
  refine own_go (U' := s₁.setTop (mkF m 7 #[.val (.int p1), .val (.int p2), .val (.int p3), .val (.int p4), .val (.int p5), .val (.int x1), .unset, .unset, .unset, .unset, .unset, .unset, .unset, .unset, .unset, .unset, .unset, .unset, .unset, .unset] [(.int p1)])) (fun t k => XS.iloadN X0.here hx rfl (hb hby at_6) rfl k) ?_
  refine own_go (U' := s₁.setTop (mkF m 8 #[.val (.int p1), .val (.int p2), .val (.int p3), .val (.int p4), .val (.int p5), .val (.int x1), .unset, .unset, .unset, .unset, .unset, .unset, .unset, .unset, .unset, .unset, .unset, .unset, .unset, .unset] [(.int (4 : Int32)), (.int p1)])) (fun t k => XS.iconst X0.here hx rfl (hb hby at_7) k) ?_
  refine own_go (U' := s₁.setTop (mkF m 9 #[.val (.int p1), .val (.int p2), .val (.int p3), .val (.int p4), .val (.int p5), .val (.int x1), .unset, .unset, .unset, .unset, .unset, .unset, .unset, .unset, .unset, .unset, .unset, .unset, .unset, .unset] [(.int ((p1.toUInt32 >>> ((4 : Int32) &&& 31).toUInt32).toInt32))])) (fun t k => XS.iushr X0.here hx rfl (hb hby at_8) rfl k) ?_
  refine own_go (U' := s₁.setTop (mkF m 11 #[.val (.int p1), .val (.int p2), .val (.int p3), .val (.int p4), .val (.int p5), .val (.int x1), .unset, .unset, .unset, .unset, .unset, .unset, .unset, .unset, .unset, .unset, .unset, .unset, .unset, .unset] [(.int (15 : Int32)), (.int ((p1.toUInt32 >>> ((4 : Int32) &&& 31).toUInt32).toInt32))])) (fun t k => XS.bipush X0.here hx rfl (hb hby at_9) k) ?_
  refine own_go (U' := s₁.setTop (mkF m 12 #[.val (.int p1), .val (.int p2), .val (.int p3), .val (.int p4), .val (.int p5), .val (.int x1), .unset, .unset, .unset, .unset, .unset, .unset, .unset, .unset, .unset, .unset, .unset, .unset, .unset, .unset] [(.int (((p1.toUInt32 >>> ((4 : Int32) &&& 31).toUInt32).toInt32) &&& (15 : Int32)))])) (fun t k => XS.iand X0.here hx rfl (hb hby at_11) rfl k) ?_
  obtain ⟨m2, hm2, em2⟩ := own_fift ((p1.toUInt32 >>> ((4 : Int32) &&& 31).toUInt32).toInt32)
  generalize hv_x2 : (((p1.toUInt32 >>> ((4 : Int32) &&& 31).toUInt32).toInt32) &&& (15 : Int32)) = x2
  have ex2 : x2 = Int32.ofNat m2 := hv_x2.symm.trans em2
  refine own_go (U' := s₁.setTop (mkF m 14 #[.val (.int p1), .val (.int p2), .val (.int p3), .val (.int p4), .val (.int p5), .val (.int x1), .val (.int x2), .unset, .unset, .unset, .unset, .unset, .unset, .unset, .unset, .unset, .unset, .unset, .unset, .unset] [])) (fun t k => XS.istore X0.here hx rfl (hb hby at_12) rfl (l' := #[.val (.int p1), .val (.int p2), .val (.int p3), .val (.int p4), .val (.int p5), .val (.int x1), .val (.int x2), .unset, .unset, .unset, .unset, .unset, .unset, .unset, .unset, .unset, .unset, .unset, .unset, .unset]) rfl k) ?_
  refine own_go (U' := s₁.setTop (mkF m 15 #[.val (.int p1), .val (.int p2), .val (.int p3), .val (.int p4), .val (.int p5), .val (.int x1), .val (.int x2), .unset, .unset, .unset, .unset, .unset, .unset, .unset, .unset, .unset, .unset, .unset, .unset, .unset] [(.int p1)])) (fun t k => XS.iloadN X0.here hx rfl (hb hby at_14) rfl k) ?_
  refine own_go (U' := s₁.setTop (mkF m 17 #[.val (.int p1), .val (.int p2), .val (.int p3), .val (.int p4), .val (.int p5), .val (.int x1), .val (.int x2), .unset, .unset, .unset, .unset, .unset, .unset, .unset, .unset, .unset, .unset, .unset, .unset, .unset] [(.int (8 : Int32)), (.int p1)])) (fun t k => XS.bipush X0.here hx rfl (hb hby at_15) k) ?_
  refine own_go (U' := s₁.setTop (mkF m 18 #[.val (.int p1), .val (.int p2), .val (.int p3), .val (.int p4), .val (.int p5), .val (.int x1), .val (.int x2), .unset, .unset, .unset, .unset, .unset, .unset, .unset, .unset, .unset, .unset, .unset, .unset, .unset] [(.int ((p1.toUInt32 >>> ((8 : Int32) &&& 31).toUInt32).toInt32))])) (fun t k => XS.iushr X0.here hx rfl (hb hby at_17) rfl k) ?_
  refine own_go (U' := s₁.setTop (mkF m 20 #[.val (.int p1), .val (.int p2), .val (.int p3), .val (.int p4), .val (.int p5), .val (.int x1), .val (.int x2), .unset, .unset, .unset, .unset, .unset, .unset, .unset, .unset, .unset, .unset, .unset, .unset, .unset] [(.int (15 : Int32)), (.int ((p1.toUInt32 >>> ((8 : Int32) &&& 31).toUInt32).toInt32))])) (fun t k => XS.bipush X0.here hx rfl (hb hby at_18) k) ?_
  refine own_go (U' := s₁.setTop (mkF m 21 #[.val (.int p1), .val (.int p2), .val (.int p3), .val (.int p4), .val (.int p5), .val (.int x1), .val (.int x2), .unset, .unset, .unset, .unset, .unset, .unset, .unset, .unset, .unset, .unset, .unset, .unset, .unset] [(.int (((p1.toUInt32 >>> ((8 : Int32) &&& 31).toUInt32).toInt32) &&& (15 : Int32)))])) (fun t k => XS.iand X0.here hx rfl (hb hby at_20) rfl k) ?_
  obtain ⟨m3, hm3, em3⟩ := own_fift ((p1.toUInt32 >>> ((8 : Int32) &&& 31).toUInt32).toInt32)
  generalize hv_x3 : (((p1.toUInt32 >>> ((8 : Int32) &&& 31).toUInt32).toInt32) &&& (15 : Int32)) = x3
  have ex3 : x3 = Int32.ofNat m3 := hv_x3.symm.trans em3
  refine own_go (U' := s₁.setTop (mkF m 23 #[.val (.int p1), .val (.int p2), .val (.int p3), .val (.int p4), .val (.int p5), .val (.int x1), .val (.int x2), .val (.int x3), .unset, .unset, .unset, .unset, .unset, .unset, .unset, .unset, .unset, .unset, .unset, .unset] [])) (fun t k => XS.istore X0.here hx rfl (hb hby at_21) rfl (l' := #[.val (.int p1), .val (.int p2), .val (.int p3), .val (.int p4), .val (.int p5), .val (.int x1), .val (.int x2), .val (.int x3), .unset, .unset, .unset, .unset, .unset, .unset, .unset, .unset, .unset, .unset, .unset, .unset]) rfl k) ?_
  refine own_go (U' := s₁.setTop (mkF m 24 #[.val (.int p1), .val (.int p2), .val (.int p3), .val (.int p4), .val (.int p5), .val (.int x1), .val (.int x2), .val (.int x3), .unset, .unset, .unset, .unset, .unset, .unset, .unset, .unset, .unset, .unset, .unset, .unset] [(.int p1)])) (fun t k => XS.iloadN X0.here hx rfl (hb hby at_23) rfl k) ?_
  refine own_go (U' := s₁.setTop (mkF m 27 #[.val (.int p1), .val (.int p2), .val (.int p3), .val (.int p4), .val (.int p5), .val (.int x1), .val (.int x2), .val (.int x3), .unset, .unset, .unset, .unset, .unset, .unset, .unset, .unset, .unset, .unset, .unset, .unset] [(.int (4096 : Int32)), (.int p1)])) (fun t k => XS.sipush X0.here hx rfl (hb hby at_24) k) ?_
  refine own_go (U' := s₁.setTop (mkF m 28 #[.val (.int p1), .val (.int p2), .val (.int p3), .val (.int p4), .val (.int p5), .val (.int x1), .val (.int x2), .val (.int x3), .unset, .unset, .unset, .unset, .unset, .unset, .unset, .unset, .unset, .unset, .unset, .unset] [(.int (p1 &&& (4096 : Int32)))])) (fun t k => XS.iand X0.here hx rfl (hb hby at_27) rfl k) ?_
  refine own_go (U' := s₁.setTop (mkF m 36 #[.val (.int p1), .val (.int p2), .val (.int p3), .val (.int p4), .val (.int p5), .val (.int x1), .val (.int x2), .val (.int x3), .unset, .unset, .unset, .unset, .unset, .unset, .unset, .unset, .unset, .unset, .unset, .unset] [(.int (if (p1 &&& (4096 : Int32)) = (0 : Int32) then (0 : Int32) else (1 : Int32)))])) (fun t k => ?_) ?_
  · show Steps p.tables e below (s₁.setTop (mkF m 28 #[.val (.int p1), .val (.int p2), .val (.int p3), .val (.int p4), .val (.int p5), .val (.int x1), .val (.int x2), .val (.int x3), .unset, .unset, .unset, .unset, .unset, .unset, .unset, .unset, .unset, .unset, .unset, .unset] [(.int (p1 &&& (4096 : Int32)))])) _
    by_cases hd28 : (p1 &&& (4096 : Int32)) = (0 : Int32)
    · simp only [if_pos hd28] at k
      refine XS.ifYes X0.here hx rfl (pc0 := 28) (pc' := 35) rfl (hb hby at_28) rfl ((if0 _ _).trans (teq hd28).1) (by decide) (by decide) ?_
      show Steps p.tables e below (s₁.setTop (mkF m 35 #[.val (.int p1), .val (.int p2), .val (.int p3), .val (.int p4), .val (.int p5), .val (.int x1), .val (.int x2), .val (.int x3), .unset, .unset, .unset, .unset, .unset, .unset, .unset, .unset, .unset, .unset, .unset, .unset] [])) _
      refine XS.iconst X0.here hx rfl (hb hby at_35) ?_
      show Steps p.tables e below (s₁.setTop (mkF m 36 #[.val (.int p1), .val (.int p2), .val (.int p3), .val (.int p4), .val (.int p5), .val (.int x1), .val (.int x2), .val (.int x3), .unset, .unset, .unset, .unset, .unset, .unset, .unset, .unset, .unset, .unset, .unset, .unset] [(.int (0 : Int32))])) _
      exact k
    · simp only [if_neg hd28] at k
      refine XS.ifNo X0.here hx rfl (hb hby at_28) rfl ((if0 _ _).trans (feq hd28).1) ?_
      show Steps p.tables e below (s₁.setTop (mkF m 31 #[.val (.int p1), .val (.int p2), .val (.int p3), .val (.int p4), .val (.int p5), .val (.int x1), .val (.int x2), .val (.int x3), .unset, .unset, .unset, .unset, .unset, .unset, .unset, .unset, .unset, .unset, .unset, .unset] [])) _
      refine XS.iconst X0.here hx rfl (hb hby at_31) ?_
      show Steps p.tables e below (s₁.setTop (mkF m 32 #[.val (.int p1), .val (.int p2), .val (.int p3), .val (.int p4), .val (.int p5), .val (.int x1), .val (.int x2), .val (.int x3), .unset, .unset, .unset, .unset, .unset, .unset, .unset, .unset, .unset, .unset, .unset, .unset] [(.int (1 : Int32))])) _
      refine XS.goto X0.here hx rfl (pc0 := 32) (pc' := 36) rfl (hb hby at_32) (by decide) (by decide) ?_
      show Steps p.tables e below (s₁.setTop (mkF m 36 #[.val (.int p1), .val (.int p2), .val (.int p3), .val (.int p4), .val (.int p5), .val (.int x1), .val (.int x2), .val (.int x3), .unset, .unset, .unset, .unset, .unset, .unset, .unset, .unset, .unset, .unset, .unset, .unset] [(.int (1 : Int32))])) _
      exact k
  generalize hv_c8 : (if (p1 &&& (4096 : Int32)) = (0 : Int32) then (0 : Int32) else (1 : Int32)) = c8
  refine own_go (U' := s₁.setTop (mkF m 38 #[.val (.int p1), .val (.int p2), .val (.int p3), .val (.int p4), .val (.int p5), .val (.int x1), .val (.int x2), .val (.int x3), .val (.int c8), .unset, .unset, .unset, .unset, .unset, .unset, .unset, .unset, .unset, .unset, .unset] [])) (fun t k => XS.istore X0.here hx rfl (hb hby at_36) rfl (l' := #[.val (.int p1), .val (.int p2), .val (.int p3), .val (.int p4), .val (.int p5), .val (.int x1), .val (.int x2), .val (.int x3), .val (.int c8), .unset, .unset, .unset, .unset, .unset, .unset, .unset, .unset, .unset, .unset, .unset]) rfl k) ?_
  refine own_go (U' := s₁.setTop (mkF m 39 #[.val (.int p1), .val (.int p2), .val (.int p3), .val (.int p4), .val (.int p5), .val (.int x1), .val (.int x2), .val (.int x3), .val (.int c8), .unset, .unset, .unset, .unset, .unset, .unset, .unset, .unset, .unset, .unset, .unset] [(.int p1)])) (fun t k => XS.iloadN X0.here hx rfl (hb hby at_38) rfl k) ?_
  refine own_go (U' := s₁.setTop (mkF m 42 #[.val (.int p1), .val (.int p2), .val (.int p3), .val (.int p4), .val (.int p5), .val (.int x1), .val (.int x2), .val (.int x3), .val (.int c8), .unset, .unset, .unset, .unset, .unset, .unset, .unset, .unset, .unset, .unset, .unset] [(.int (8192 : Int32)), (.int p1)])) (fun t k => XS.sipush X0.here hx rfl (hb hby at_39) k) ?_
  refine own_go (U' := s₁.setTop (mkF m 43 #[.val (.int p1), .val (.int p2), .val (.int p3), .val (.int p4), .val (.int p5), .val (.int x1), .val (.int x2), .val (.int x3), .val (.int c8), .unset, .unset, .unset, .unset, .unset, .unset, .unset, .unset, .unset, .unset, .unset] [(.int (p1 &&& (8192 : Int32)))])) (fun t k => XS.iand X0.here hx rfl (hb hby at_42) rfl k) ?_
  refine own_go (U' := s₁.setTop (mkF m 51 #[.val (.int p1), .val (.int p2), .val (.int p3), .val (.int p4), .val (.int p5), .val (.int x1), .val (.int x2), .val (.int x3), .val (.int c8), .unset, .unset, .unset, .unset, .unset, .unset, .unset, .unset, .unset, .unset, .unset] [(.int (if (p1 &&& (8192 : Int32)) = (0 : Int32) then (0 : Int32) else (1 : Int32)))])) (fun t k => ?_) ?_
  · show Steps p.tables e below (s₁.setTop (mkF m 43 #[.val (.int p1), .val (.int p2), .val (.int p3), .val (.int p4), .val (.int p5), .val (.int x1), .val (.int x2), .val (.int x3), .val (.int c8), .unset, .unset, .unset, .unset, .unset, .unset, .unset, .unset, .unset, .unset, .unset] [(.int (p1 &&& (8192 : Int32)))])) _
    by_cases hd43 : (p1 &&& (8192 : Int32)) = (0 : Int32)
    · simp only [if_pos hd43] at k
      refine XS.ifYes X0.here hx rfl (pc0 := 43) (pc' := 50) rfl (hb hby at_43) rfl ((if0 _ _).trans (teq hd43).1) (by decide) (by decide) ?_
      show Steps p.tables e below (s₁.setTop (mkF m 50 #[.val (.int p1), .val (.int p2), .val (.int p3), .val (.int p4), .val (.int p5), .val (.int x1), .val (.int x2), .val (.int x3), .val (.int c8), .unset, .unset, .unset, .unset, .unset, .unset, .unset, .unset, .unset, .unset, .unset] [])) _
      refine XS.iconst X0.here hx rfl (hb hby at_50) ?_
      show Steps p.tables e below (s₁.setTop (mkF m 51 #[.val (.int p1), .val (.int p2), .val (.int p3), .val (.int p4), .val (.int p5), .val (.int x1), .val (.int x2), .val (.int x3), .val (.int c8), .unset, .unset, .unset, .unset, .unset, .unset, .unset, .unset, .unset, .unset, .unset] [(.int (0 : Int32))])) _
      exact k
    · simp only [if_neg hd43] at k
      refine XS.ifNo X0.here hx rfl (hb hby at_43) rfl ((if0 _ _).trans (feq hd43).1) ?_
      show Steps p.tables e below (s₁.setTop (mkF m 46 #[.val (.int p1), .val (.int p2), .val (.int p3), .val (.int p4), .val (.int p5), .val (.int x1), .val (.int x2), .val (.int x3), .val (.int c8), .unset, .unset, .unset, .unset, .unset, .unset, .unset, .unset, .unset, .unset, .unset] [])) _
      refine XS.iconst X0.here hx rfl (hb hby at_46) ?_
      show Steps p.tables e below (s₁.setTop (mkF m 47 #[.val (.int p1), .val (.int p2), .val (.int p3), .val (.int p4), .val (.int p5), .val (.int x1), .val (.int x2), .val (.int x3), .val (.int c8), .unset, .unset, .unset, .unset, .unset, .unset, .unset, .unset, .unset, .unset, .unset] [(.int (1 : Int32))])) _
      refine XS.goto X0.here hx rfl (pc0 := 47) (pc' := 51) rfl (hb hby at_47) (by decide) (by decide) ?_
      show Steps p.tables e below (s₁.setTop (mkF m 51 #[.val (.int p1), .val (.int p2), .val (.int p3), .val (.int p4), .val (.int p5), .val (.int x1), .val (.int x2), .val (.int x3), .val (.int c8), .unset, .unset, .unset, .unset, .unset, .unset, .unset, .unset, .unset, .unset, .unset] [(.int (1 : Int32))])) _
      exact k
  generalize hv_c9 : (if (p1 &&& (8192 : Int32)) = (0 : Int32) then (0 : Int32) else (1 : Int32)) = c9
  refine own_go (U' := s₁.setTop (mkF m 53 #[.val (.int p1), .val (.int p2), .val (.int p3), .val (.int p4), .val (.int p5), .val (.int x1), .val (.int x2), .val (.int x3), .val (.int c8), .val (.int c9), .unset, .unset, .unset, .unset, .unset, .unset, .unset, .unset, .unset, .unset] [])) (fun t k => XS.istore X0.here hx rfl (hb hby at_51) rfl (l' := #[.val (.int p1), .val (.int p2), .val (.int p3), .val (.int p4), .val (.int p5), .val (.int x1), .val (.int x2), .val (.int x3), .val (.int c8), .val (.int c9), .unset, .unset, .unset, .unset, .unset, .unset, .unset, .unset, .unset, .unset]) rfl k) ?_
  refine own_go (U' := s₁.setTop (mkF m 54 #[.val (.int p1), .val (.int p2), .val (.int p3), .val (.int p4), .val (.int p5), .val (.int x1), .val (.int x2), .val (.int x3), .val (.int c8), .val (.int c9), .unset, .unset, .unset, .unset, .unset, .unset, .unset, .unset, .unset, .unset] [(.int p1)])) (fun t k => XS.iloadN X0.here hx rfl (hb hby at_53) rfl k) ?_
  refine own_go (U' := s₁.setTop (mkF m 57 #[.val (.int p1), .val (.int p2), .val (.int p3), .val (.int p4), .val (.int p5), .val (.int x1), .val (.int x2), .val (.int x3), .val (.int c8), .val (.int c9), .unset, .unset, .unset, .unset, .unset, .unset, .unset, .unset, .unset, .unset] [(.int (16384 : Int32)), (.int p1)])) (fun t k => XS.sipush X0.here hx rfl (hb hby at_54) k) ?_
  refine own_go (U' := s₁.setTop (mkF m 58 #[.val (.int p1), .val (.int p2), .val (.int p3), .val (.int p4), .val (.int p5), .val (.int x1), .val (.int x2), .val (.int x3), .val (.int c8), .val (.int c9), .unset, .unset, .unset, .unset, .unset, .unset, .unset, .unset, .unset, .unset] [(.int (p1 &&& (16384 : Int32)))])) (fun t k => XS.iand X0.here hx rfl (hb hby at_57) rfl k) ?_
  refine own_go (U' := s₁.setTop (mkF m 66 #[.val (.int p1), .val (.int p2), .val (.int p3), .val (.int p4), .val (.int p5), .val (.int x1), .val (.int x2), .val (.int x3), .val (.int c8), .val (.int c9), .unset, .unset, .unset, .unset, .unset, .unset, .unset, .unset, .unset, .unset] [(.int (if (p1 &&& (16384 : Int32)) = (0 : Int32) then (0 : Int32) else (1 : Int32)))])) (fun t k => ?_) ?_
  · show Steps p.tables e below (s₁.setTop (mkF m 58 #[.val (.int p1), .val (.int p2), .val (.int p3), .val (.int p4), .val (.int p5), .val (.int x1), .val (.int x2), .val (.int x3), .val (.int c8), .val (.int c9), .unset, .unset, .unset, .unset, .unset, .unset, .unset, .unset, .unset, .unset] [(.int (p1 &&& (16384 : Int32)))])) _
    by_cases hd58 : (p1 &&& (16384 : Int32)) = (0 : Int32)
    · simp only [if_pos hd58] at k
      refine XS.ifYes X0.here hx rfl (pc0 := 58) (pc' := 65) rfl (hb hby at_58) rfl ((if0 _ _).trans (teq hd58).1) (by decide) (by decide) ?_
      show Steps p.tables e below (s₁.setTop (mkF m 65 #[.val (.int p1), .val (.int p2), .val (.int p3), .val (.int p4), .val (.int p5), .val (.int x1), .val (.int x2), .val (.int x3), .val (.int c8), .val (.int c9), .unset, .unset, .unset, .unset, .unset, .unset, .unset, .unset, .unset, .unset] [])) _
      refine XS.iconst X0.here hx rfl (hb hby at_65) ?_
      show Steps p.tables e below (s₁.setTop (mkF m 66 #[.val (.int p1), .val (.int p2), .val (.int p3), .val (.int p4), .val (.int p5), .val (.int x1), .val (.int x2), .val (.int x3), .val (.int c8), .val (.int c9), .unset, .unset, .unset, .unset, .unset, .unset, .unset, .unset, .unset, .unset] [(.int (0 : Int32))])) _
      exact k
    · simp only [if_neg hd58] at k
      refine XS.ifNo X0.here hx rfl (hb hby at_58) rfl ((if0 _ _).trans (feq hd58).1) ?_
      show Steps p.tables e below (s₁.setTop (mkF m 61 #[.val (.int p1), .val (.int p2), .val (.int p3), .val (.int p4), .val (.int p5), .val (.int x1), .val (.int x2), .val (.int x3), .val (.int c8), .val (.int c9), .unset, .unset, .unset, .unset, .unset, .unset, .unset, .unset, .unset, .unset] [])) _
      refine XS.iconst X0.here hx rfl (hb hby at_61) ?_
      show Steps p.tables e below (s₁.setTop (mkF m 62 #[.val (.int p1), .val (.int p2), .val (.int p3), .val (.int p4), .val (.int p5), .val (.int x1), .val (.int x2), .val (.int x3), .val (.int c8), .val (.int c9), .unset, .unset, .unset, .unset, .unset, .unset, .unset, .unset, .unset, .unset] [(.int (1 : Int32))])) _
      refine XS.goto X0.here hx rfl (pc0 := 62) (pc' := 66) rfl (hb hby at_62) (by decide) (by decide) ?_
      show Steps p.tables e below (s₁.setTop (mkF m 66 #[.val (.int p1), .val (.int p2), .val (.int p3), .val (.int p4), .val (.int p5), .val (.int x1), .val (.int x2), .val (.int x3), .val (.int c8), .val (.int c9), .unset, .unset, .unset, .unset, .unset, .unset, .unset, .unset, .unset, .unset] [(.int (1 : Int32))])) _
      exact k
  generalize hv_c10 : (if (p1 &&& (16384 : Int32)) = (0 : Int32) then (0 : Int32) else (1 : Int32)) = c10
  refine own_go (U' := s₁.setTop (mkF m 68 #[.val (.int p1), .val (.int p2), .val (.int p3), .val (.int p4), .val (.int p5), .val (.int x1), .val (.int x2), .val (.int x3), .val (.int c8), .val (.int c9), .val (.int c10), .unset, .unset, .unset, .unset, .unset, .unset, .unset, .unset, .unset] [])) (fun t k => XS.istore X0.here hx rfl (hb hby at_66) rfl (l' := #[.val (.int p1), .val (.int p2), .val (.int p3), .val (.int p4), .val (.int p5), .val (.int x1), .val (.int x2), .val (.int x3), .val (.int c8), .val (.int c9), .val (.int c10), .unset, .unset, .unset, .unset, .unset, .unset, .unset, .unset, .unset]) rfl k) ?_
  refine own_go (U' := s₁.setTop (mkF m 70 #[.val (.int p1), .val (.int p2), .val (.int p3), .val (.int p4), .val (.int p5), .val (.int x1), .val (.int x2), .val (.int x3), .val (.int c8), .val (.int c9), .val (.int c10), .unset, .unset, .unset, .unset, .unset, .unset, .unset, .unset, .unset] [(.int p5)])) (fun t k => XS.iload X0.here hx rfl (hb hby at_68) rfl k) ?_
  refine own_go (U' := s₁.setTop (mkF m 71 #[.val (.int p1), .val (.int p2), .val (.int p3), .val (.int p4), .val (.int p5), .val (.int x1), .val (.int x2), .val (.int x3), .val (.int c8), .val (.int c9), .val (.int c10), .unset, .unset, .unset, .unset, .unset, .unset, .unset, .unset, .unset] [(.int (1 : Int32)), (.int p5)])) (fun t k => XS.iconst X0.here hx rfl (hb hby at_70) k) ?_
  refine own_go (U' := s₁.setTop (mkF m 72 #[.val (.int p1), .val (.int p2), .val (.int p3), .val (.int p4), .val (.int p5), .val (.int x1), .val (.int x2), .val (.int x3), .val (.int c8), .val (.int c9), .val (.int c10), .unset, .unset, .unset, .unset, .unset, .unset, .unset, .unset, .unset] [(.int (p5 &&& (1 : Int32)))])) (fun t k => XS.iand X0.here hx rfl (hb hby at_71) rfl k) ?_
  refine own_go (U' := s₁.setTop (mkF m 89 #[.val (.int p1), .val (.int p2), .val (.int p3), .val (.int p4), .val (.int p5), .val (.int x1), .val (.int x2), .val (.int x3), .val (.int c8), .val (.int c9), .val (.int c10), .unset, .unset, .unset, .unset, .unset, .unset, .unset, .unset, .unset] [(.int (if (p5 &&& (1 : Int32)) = (0 : Int32) then ((p5.toUInt32 >>> ((1 : Int32) &&& 31).toUInt32).toInt32) else (((p5.toUInt32 >>> ((1 : Int32) &&& 31).toUInt32).toInt32) &&& (15 : Int32))))])) (fun t k => ?_) ?_
  · show Steps p.tables e below (s₁.setTop (mkF m 72 #[.val (.int p1), .val (.int p2), .val (.int p3), .val (.int p4), .val (.int p5), .val (.int x1), .val (.int x2), .val (.int x3), .val (.int c8), .val (.int c9), .val (.int c10), .unset, .unset, .unset, .unset, .unset, .unset, .unset, .unset, .unset] [(.int (p5 &&& (1 : Int32)))])) _
    by_cases hd72 : (p5 &&& (1 : Int32)) = (0 : Int32)
    · simp only [if_pos hd72] at k
      refine XS.ifYes X0.here hx rfl (pc0 := 72) (pc' := 85) rfl (hb hby at_72) rfl ((if0 _ _).trans (teq hd72).1) (by decide) (by decide) ?_
      show Steps p.tables e below (s₁.setTop (mkF m 85 #[.val (.int p1), .val (.int p2), .val (.int p3), .val (.int p4), .val (.int p5), .val (.int x1), .val (.int x2), .val (.int x3), .val (.int c8), .val (.int c9), .val (.int c10), .unset, .unset, .unset, .unset, .unset, .unset, .unset, .unset, .unset] [])) _
      refine XS.iload X0.here hx rfl (hb hby at_85) rfl ?_
      show Steps p.tables e below (s₁.setTop (mkF m 87 #[.val (.int p1), .val (.int p2), .val (.int p3), .val (.int p4), .val (.int p5), .val (.int x1), .val (.int x2), .val (.int x3), .val (.int c8), .val (.int c9), .val (.int c10), .unset, .unset, .unset, .unset, .unset, .unset, .unset, .unset, .unset] [(.int p5)])) _
      refine XS.iconst X0.here hx rfl (hb hby at_87) ?_
      show Steps p.tables e below (s₁.setTop (mkF m 88 #[.val (.int p1), .val (.int p2), .val (.int p3), .val (.int p4), .val (.int p5), .val (.int x1), .val (.int x2), .val (.int x3), .val (.int c8), .val (.int c9), .val (.int c10), .unset, .unset, .unset, .unset, .unset, .unset, .unset, .unset, .unset] [(.int (1 : Int32)), (.int p5)])) _
      refine XS.iushr X0.here hx rfl (hb hby at_88) rfl ?_
      show Steps p.tables e below (s₁.setTop (mkF m 89 #[.val (.int p1), .val (.int p2), .val (.int p3), .val (.int p4), .val (.int p5), .val (.int x1), .val (.int x2), .val (.int x3), .val (.int c8), .val (.int c9), .val (.int c10), .unset, .unset, .unset, .unset, .unset, .unset, .unset, .unset, .unset] [(.int ((p5.toUInt32 >>> ((1 : Int32) &&& 31).toUInt32).toInt32))])) _
      exact k
    · simp only [if_neg hd72] at k
      refine XS.ifNo X0.here hx rfl (hb hby at_72) rfl ((if0 _ _).trans (feq hd72).1) ?_
      show Steps p.tables e below (s₁.setTop (mkF m 75 #[.val (.int p1), .val (.int p2), .val (.int p3), .val (.int p4), .val (.int p5), .val (.int x1), .val (.int x2), .val (.int x3), .val (.int c8), .val (.int c9), .val (.int c10), .unset, .unset, .unset, .unset, .unset, .unset, .unset, .unset, .unset] [])) _
      refine XS.iload X0.here hx rfl (hb hby at_75) rfl ?_
      show Steps p.tables e below (s₁.setTop (mkF m 77 #[.val (.int p1), .val (.int p2), .val (.int p3), .val (.int p4), .val (.int p5), .val (.int x1), .val (.int x2), .val (.int x3), .val (.int c8), .val (.int c9), .val (.int c10), .unset, .unset, .unset, .unset, .unset, .unset, .unset, .unset, .unset] [(.int p5)])) _
      refine XS.iconst X0.here hx rfl (hb hby at_77) ?_
      show Steps p.tables e below (s₁.setTop (mkF m 78 #[.val (.int p1), .val (.int p2), .val (.int p3), .val (.int p4), .val (.int p5), .val (.int x1), .val (.int x2), .val (.int x3), .val (.int c8), .val (.int c9), .val (.int c10), .unset, .unset, .unset, .unset, .unset, .unset, .unset, .unset, .unset] [(.int (1 : Int32)), (.int p5)])) _
      refine XS.iushr X0.here hx rfl (hb hby at_78) rfl ?_
      show Steps p.tables e below (s₁.setTop (mkF m 79 #[.val (.int p1), .val (.int p2), .val (.int p3), .val (.int p4), .val (.int p5), .val (.int x1), .val (.int x2), .val (.int x3), .val (.int c8), .val (.int c9), .val (.int c10), .unset, .unset, .unset, .unset, .unset, .unset, .unset, .unset, .unset] [(.int ((p5.toUInt32 >>> ((1 : Int32) &&& 31).toUInt32).toInt32))])) _
      refine XS.bipush X0.here hx rfl (hb hby at_79) ?_
      show Steps p.tables e below (s₁.setTop (mkF m 81 #[.val (.int p1), .val (.int p2), .val (.int p3), .val (.int p4), .val (.int p5), .val (.int x1), .val (.int x2), .val (.int x3), .val (.int c8), .val (.int c9), .val (.int c10), .unset, .unset, .unset, .unset, .unset, .unset, .unset, .unset, .unset] [(.int (15 : Int32)), (.int ((p5.toUInt32 >>> ((1 : Int32) &&& 31).toUInt32).toInt32))])) _
      refine XS.iand X0.here hx rfl (hb hby at_81) rfl ?_
      show Steps p.tables e below (s₁.setTop (mkF m 82 #[.val (.int p1), .val (.int p2), .val (.int p3), .val (.int p4), .val (.int p5), .val (.int x1), .val (.int x2), .val (.int x3), .val (.int c8), .val (.int c9), .val (.int c10), .unset, .unset, .unset, .unset, .unset, .unset, .unset, .unset, .unset] [(.int (((p5.toUInt32 >>> ((1 : Int32) &&& 31).toUInt32).toInt32) &&& (15 : Int32)))])) _
      refine XS.goto X0.here hx rfl (pc0 := 82) (pc' := 89) rfl (hb hby at_82) (by decide) (by decide) ?_
      show Steps p.tables e below (s₁.setTop (mkF m 89 #[.val (.int p1), .val (.int p2), .val (.int p3), .val (.int p4), .val (.int p5), .val (.int x1), .val (.int x2), .val (.int x3), .val (.int c8), .val (.int c9), .val (.int c10), .unset, .unset, .unset, .unset, .unset, .unset, .unset, .unset, .unset] [(.int (((p5.toUInt32 >>> ((1 : Int32) &&& 31).toUInt32).toInt32) &&& (15 : Int32)))])) _
      exact k
  generalize hv_qq : (if (p5 &&& (1 : Int32)) = (0 : Int32) then ((p5.toUInt32 >>> ((1 : Int32) &&& 31).toUInt32).toInt32) else (((p5.toUInt32 >>> ((1 : Int32) &&& 31).toUInt32).toInt32) &&& (15 : Int32))) = qq
  have hqq : ¬ qq < 0 := by
    rw [← hv_qq]
    split
    · exact own_nn _
    · exact own_nnm _
  refine own_go (U' := s₁.setTop (mkF m 91 #[.val (.int p1), .val (.int p2), .val (.int p3), .val (.int p4), .val (.int p5), .val (.int x1), .val (.int x2), .val (.int x3), .val (.int c8), .val (.int c9), .val (.int c10), .val (.int qq), .unset, .unset, .unset, .unset, .unset, .unset, .unset, .unset] [])) (fun t k => XS.istore X0.here hx rfl (hb hby at_89) rfl (l' := #[.val (.int p1), .val (.int p2), .val (.int p3), .val (.int p4), .val (.int p5), .val (.int x1), .val (.int x2), .val (.int x3), .val (.int c8), .val (.int c9), .val (.int c10), .val (.int qq), .unset, .unset, .unset, .unset, .unset, .unset, .unset, .unset]) rfl k) ?_
  obtain ⟨T1, h1, X1, e1, E1, A1, D1, -, st1⟩ := newO X0 hx hZ hown (hw _ (List.mem_of_getElem? (i := 0) rfl)) (hw _ (List.mem_of_getElem? (i := 1) rfl)) (hw _ (List.mem_of_getElem? (i := 2) rfl)) e0 (g := (mkF m 91 #[.val (.int p1), .val (.int p2), .val (.int p3), .val (.int p4), .val (.int p5), .val (.int x1), .val (.int x2), .val (.int x3), .val (.int c8), .val (.int c9), .val (.int c10), .val (.int qq), .unset, .unset, .unset, .unset, .unset, .unset, .unset, .unset] [])) rfl (hb hby at_91) (by decide) (by decide)
  obtain ⟨b1, g1⟩ : ∃ z, z = h0.size := ⟨_, rfl⟩
  rw [← g1] at A1 D1 st1
  have g_b1 : n0 ≤ b1 := Nat.le_trans (Nat.le_trans (Nat.le_of_eq O.1.symm) O.2.1) (Nat.le_of_eq g1.symm)
  have O := O.ext E1
  have E_b1 := A1
  have F_latest_b1 : Fld Z h1 b1 "com/example/obedient_dog/obedientdog/topologydiscovery/AgeLog" "latest" "[I" .null := D1 (Or.inl (hw _ (List.mem_of_getElem? (i := 64) rfl))) (ty := (.array .int)) (by decide)
  have F_raised_b1 : Fld Z h1 b1 "com/example/obedient_dog/obedientdog/topologydiscovery/AgeLog" "raised" "[I" .null := D1 (Or.inl (hw _ (List.mem_of_getElem? (i := 66) rfl))) (ty := (.array .int)) (by decide)
  have F_ages_b1 : Fld Z h1 b1 "com/example/obedient_dog/obedientdog/topologydiscovery/AgeLog" "ages" "[I" .null := D1 (Or.inl (hw _ (List.mem_of_getElem? (i := 68) rfl))) (ty := (.array .int)) (by decide)
  have F_numbers_b1 : Fld Z h1 b1 "com/example/obedient_dog/obedientdog/topologydiscovery/AgeLog" "numbers" "Lcom/example/obedient_dog/obedientdog/topologydiscovery/LinkNumbers;" .null := D1 (Or.inr (hw _ (List.mem_of_getElem? (i := 70) rfl))) (ty := (.object "com/example/obedient_dog/obedientdog/topologydiscovery/LinkNumbers")) (by decide)
  have F_entries_b1 : Fld Z h1 b1 "com/example/obedient_dog/obedientdog/topologydiscovery/AgeLog" "entries" "I" (.int (0 : Int32)) := D1 (Or.inl (hw _ (List.mem_of_getElem? (i := 86) rfl))) (ty := .int) (by decide)
  have F_size_b1 : Fld Z h1 b1 "com/example/obedient_dog/obedientdog/topologydiscovery/AgeLog" "size" "I" (.int (0 : Int32)) := D1 (Or.inl (hw _ (List.mem_of_getElem? (i := 88) rfl))) (ty := .int) (by decide)
  have F_present_b1 : Fld Z h1 b1 "com/example/obedient_dog/obedientdog/topologydiscovery/AgeLog" "present" "I" (.int (0 : Int32)) := D1 (Or.inl (hw _ (List.mem_of_getElem? (i := 94) rfl))) (ty := .int) (by decide)
  have F_hash_b1 : Fld Z h1 b1 "com/example/obedient_dog/obedientdog/topologydiscovery/AgeLog" "hash" "I" (.int (0 : Int32)) := D1 (Or.inl (hw _ (List.mem_of_getElem? (i := 96) rfl))) (ty := .int) (by decide)
  have F_table_b1 : Fld Z h1 b1 "com/example/obedient_dog/obedientdog/topologydiscovery/AgeLog" "table" "Lcom/example/obedient_dog/obedientdog/topologydiscovery/AgeTable;" .null := D1 (Or.inl (hw _ (List.mem_of_getElem? (i := 103) rfl))) (ty := (.object "com/example/obedient_dog/obedientdog/topologydiscovery/AgeTable")) (by decide)
  have F_sealed_b1 : Fld Z h1 b1 "com/example/obedient_dog/obedientdog/topologydiscovery/AgeLog" "sealed" "I" (.int (0 : Int32)) := D1 (Or.inl (hw _ (List.mem_of_getElem? (i := 110) rfl))) (ty := .int) (by decide)
  have F_earlier_b1 : Fld Z h1 b1 "com/example/obedient_dog/obedientdog/topologydiscovery/AgeLog" "earlier" "[I" .null := D1 (Or.inl (hw _ (List.mem_of_getElem? (i := 170) rfl))) (ty := (.array .int)) (by decide)
  have F_later_b1 : Fld Z h1 b1 "com/example/obedient_dog/obedientdog/topologydiscovery/AgeLog" "later" "[I" .null := D1 (Or.inl (hw _ (List.mem_of_getElem? (i := 172) rfl))) (ty := (.array .int)) (by decide)
  refine own_go (U' := T1.setTop (mkF m 94 #[.val (.int p1), .val (.int p2), .val (.int p3), .val (.int p4), .val (.int p5), .val (.int x1), .val (.int x2), .val (.int x3), .val (.int c8), .val (.int c9), .val (.int c10), .val (.int qq), .unset, .unset, .unset, .unset, .unset, .unset, .unset, .unset] [(.ref b1)])) st1 ?_
  refine own_go (U' := T1.setTop (mkF m 95 #[.val (.int p1), .val (.int p2), .val (.int p3), .val (.int p4), .val (.int p5), .val (.int x1), .val (.int x2), .val (.int x3), .val (.int c8), .val (.int c9), .val (.int c10), .val (.int qq), .unset, .unset, .unset, .unset, .unset, .unset, .unset, .unset] [(.ref b1), (.ref b1)])) (fun t k => XS.dup X1.here hx rfl (hb hby at_94) rfl rfl k) ?_
  obtain ⟨T2, h2, X2, e2, E2, A2, D2, -, st2⟩ := newO X1 hx hZ hown (hw _ (List.mem_of_getElem? (i := 3) rfl)) (hw _ (List.mem_of_getElem? (i := 4) rfl)) (hw _ (List.mem_of_getElem? (i := 5) rfl)) e1 (g := (mkF m 95 #[.val (.int p1), .val (.int p2), .val (.int p3), .val (.int p4), .val (.int p5), .val (.int x1), .val (.int x2), .val (.int x3), .val (.int c8), .val (.int c9), .val (.int c10), .val (.int qq), .unset, .unset, .unset, .unset, .unset, .unset, .unset, .unset] [(.ref b1), (.ref b1)])) rfl (hb hby at_95) (by decide) (by decide)
  obtain ⟨b2, g2⟩ : ∃ z, z = h1.size := ⟨_, rfl⟩
  rw [← g2] at A2 D2 st2
  have ne_b1_b2 : b1 ≠ b2 := Nat.ne_of_lt (Nat.lt_of_lt_of_eq E_b1.lt g2.symm)
  have g_b2 : n0 ≤ b2 := Nat.le_trans (Nat.le_trans (Nat.le_of_eq O.1.symm) O.2.1) (Nat.le_of_eq g2.symm)
  have O := O.ext E2
  have E_b1 := E_b1.ext E2
  have F_latest_b1 := F_latest_b1.ext E2
  have F_raised_b1 := F_raised_b1.ext E2
  have F_ages_b1 := F_ages_b1.ext E2
  have F_numbers_b1 := F_numbers_b1.ext E2
  have F_entries_b1 := F_entries_b1.ext E2
  have F_size_b1 := F_size_b1.ext E2
  have F_present_b1 := F_present_b1.ext E2
  have F_hash_b1 := F_hash_b1.ext E2
  have F_table_b1 := F_table_b1.ext E2
  have F_sealed_b1 := F_sealed_b1.ext E2
  have F_earlier_b1 := F_earlier_b1.ext E2
  have F_later_b1 := F_later_b1.ext E2
  have E_b2 := A2
  have F_numbers_b2 : Fld Z h2 b2 "com/example/obedient_dog/obedientdog/topologydiscovery/LinkNumbers" "numbers" "Ljava/util/Map;" .null := D2 (Or.inr (hw _ (List.mem_of_getElem? (i := 29) rfl))) (ty := (.object "java/util/Map")) (by decide)
  have F_links_b2 : Fld Z h2 b2 "com/example/obedient_dog/obedientdog/topologydiscovery/LinkNumbers" "links" "Ljava/util/List;" .null := D2 (Or.inr (hw _ (List.mem_of_getElem? (i := 55) rfl))) (ty := (.object "java/util/List")) (by decide)
  have F_hashes_b2 : Fld Z h2 b2 "com/example/obedient_dog/obedientdog/topologydiscovery/LinkNumbers" "hashes" "[I" .null := D2 (Or.inl (hw _ (List.mem_of_getElem? (i := 58) rfl))) (ty := (.array .int)) (by decide)
  refine own_go (U' := T2.setTop (mkF m 98 #[.val (.int p1), .val (.int p2), .val (.int p3), .val (.int p4), .val (.int p5), .val (.int x1), .val (.int x2), .val (.int x3), .val (.int c8), .val (.int c9), .val (.int c10), .val (.int qq), .unset, .unset, .unset, .unset, .unset, .unset, .unset, .unset] [(.ref b2), (.ref b1), (.ref b1)])) st2 ?_
  refine own_go (U' := T2.setTop (mkF m 99 #[.val (.int p1), .val (.int p2), .val (.int p3), .val (.int p4), .val (.int p5), .val (.int x1), .val (.int x2), .val (.int x3), .val (.int c8), .val (.int c9), .val (.int c10), .val (.int qq), .unset, .unset, .unset, .unset, .unset, .unset, .unset, .unset] [(.ref b2), (.ref b2), (.ref b1), (.ref b1)])) (fun t k => XS.dup X2.here hx rfl (hb hby at_98) rfl rfl k) ?_
  obtain ⟨v3, T3, h3, L3, e3, X3, hQ3, st3⟩ := own_callC X2 hx hZ (y := (⟨"com/example/obedient_dog/obedientdog/topologydiscovery/LinkNumbers", "<init>", "()V"⟩ : MethodName)) rfl hown (hw _ (List.mem_of_getElem? (i := 6) rfl)) (hw _ (List.mem_of_getElem? (i := 7) rfl)) (hw _ (List.mem_of_getElem? (i := 5) rfl)) (hw _ (List.mem_of_getElem? (i := 8) rfl)) (by decide) (a := b2) (own_rmli l Z a0 hw b2 h2 n0 g_b2 _ _ _ dd O S_dd E_b2 F_numbers_b2 F_links_b2 F_hashes_b2) (W := 3) (by decide) (by decide) (g := (mkF m 99 #[.val (.int p1), .val (.int p2), .val (.int p3), .val (.int p4), .val (.int p5), .val (.int x1), .val (.int x2), .val (.int x3), .val (.int c8), .val (.int c9), .val (.int c10), .val (.int qq), .unset, .unset, .unset, .unset, .unset, .unset, .unset, .unset] [(.ref b2), (.ref b2), (.ref b1), (.ref b1)])) rfl (by rw [hml]; rfl) (argsL := []) (rest := [(.ref b2), (.ref b1), (.ref b1)]) (lenOf own_pd4 rfl) rfl rfl (by show 2 * 0 + _ ≤ _; exact Nat.le_of_eq rfl) (hb hby at_99) e2 (by decide) (by decide)
  obtain ⟨rfl, Nq, Kq, ha, kh, al, Fh, V_ha, sz_ha, Fl, E_al, F_size_al⟩ := hQ3
  have laa : b1 < h2.size := E_b1.lt
  have O := O.keep Kq (allS g_b2 all0)
  have E_b1 := E_b1.keep Kq
  have F_latest_b1 := F_latest_b1.keep Kq (ninS ne_b1_b2 nin0)
  have F_raised_b1 := F_raised_b1.keep Kq (ninS ne_b1_b2 nin0)
  have F_ages_b1 := F_ages_b1.keep Kq (ninS ne_b1_b2 nin0)
  have F_numbers_b1 := F_numbers_b1.keep Kq (ninS ne_b1_b2 nin0)
  have F_entries_b1 := F_entries_b1.keep Kq (ninS ne_b1_b2 nin0)
  have F_size_b1 := F_size_b1.keep Kq (ninS ne_b1_b2 nin0)
  have F_present_b1 := F_present_b1.keep Kq (ninS ne_b1_b2 nin0)
  have F_hash_b1 := F_hash_b1.keep Kq (ninS ne_b1_b2 nin0)
  have F_table_b1 := F_table_b1.keep Kq (ninS ne_b1_b2 nin0)
  have F_sealed_b1 := F_sealed_b1.keep Kq (ninS ne_b1_b2 nin0)
  have F_earlier_b1 := F_earlier_b1.keep Kq (ninS ne_b1_b2 nin0)
  have F_later_b1 := F_later_b1.keep Kq (ninS ne_b1_b2 nin0)
  have E_b2 := E_b2.keep Kq
  have F_hashes_b2 := Fh
  have F_links_b2 := Fl
  have ne_b1_ha : b1 ≠ ha := Nat.ne_of_lt (Nat.lt_of_lt_of_le laa sz_ha)
  have ne_b1_al : b1 ≠ al := ne_exa E_b1 E_al (by decide)
  have N3 := Fr.app N0 Nq
  refine own_go (U' := T3.setTop (mkF m 102 #[.val (.int p1), .val (.int p2), .val (.int p3), .val (.int p4), .val (.int p5), .val (.int x1), .val (.int x2), .val (.int x3), .val (.int c8), .val (.int c9), .val (.int c10), .val (.int qq), .unset, .unset, .unset, .unset, .unset, .unset, .unset, .unset] [(.ref b2), (.ref b1), (.ref b1)])) st3 ?_
  obtain ⟨v4, T4, h4, L4, e4, X4, hQ4, st4⟩ := own_callC X3 hx hZ (y := (⟨"com/example/obedient_dog/obedientdog/topologydiscovery/AgeLog", "<init>", "(Lcom/example/obedient_dog/obedientdog/topologydiscovery/LinkNumbers;)V"⟩ : MethodName)) rfl hown (hw _ (List.mem_of_getElem? (i := 59) rfl)) (hw _ (List.mem_of_getElem? (i := 60) rfl)) (hw _ (List.mem_of_getElem? (i := 2) rfl)) (hw _ (List.mem_of_getElem? (i := 61) rfl)) (by decide) (a := b1) (own_rmai l Z a0 hw b1 b2 h3 n0 g_b1 O ⟨E_b1, F_latest_b1, F_raised_b1, F_ages_b1, F_numbers_b1, F_entries_b1, F_size_b1, F_sealed_b1, F_present_b1, F_hash_b1, F_table_b1, F_earlier_b1, F_later_b1⟩) (W := 1) (by decide) (by decide) (g := (mkF m 102 #[.val (.int p1), .val (.int p2), .val (.int p3), .val (.int p4), .val (.int p5), .val (.int x1), .val (.int x2), .val (.int x3), .val (.int c8), .val (.int c9), .val (.int c10), .val (.int qq), .unset, .unset, .unset, .unset, .unset, .unset, .unset, .unset] [(.ref b2), (.ref b1), (.ref b1)])) rfl (by rw [hml]; rfl) (argsL := [(.ref b2)]) (rest := [(.ref b1)]) (lenOf own_pd10 rfl) rfl rfl (by show 2 * 0 + _ ≤ _; exact Nat.le_of_eq rfl) (hb hby at_102) e3 (by decide) (by decide)
  obtain ⟨rfl, Nq, Kq, la, ra, ga, kl, kr, kg, F_a, V_la, V_ra, V_ga, ⟨ne_la_ra, ne_la_ga, ne_ra_ga⟩, ⟨sz_la, sz_ra, sz_ga⟩, ⟨g_la, g_ra, g_ga⟩⟩ := hQ4
  have ne_ha_la : ha ≠ la := Nat.ne_of_lt (Nat.lt_of_lt_of_le V_ha.lt sz_la)
  have ne_ha_ra : ha ≠ ra := Nat.ne_of_lt (Nat.lt_of_lt_of_le V_ha.lt sz_ra)
  have ne_ha_ga : ha ≠ ga := Nat.ne_of_lt (Nat.lt_of_lt_of_le V_ha.lt sz_ga)
  have O := O.keep Kq (allS g_b1 all0)
  have E_b1 := E_b1.keep Kq
  have E_b2 := E_b2.keep Kq
  have F_hashes_b2 := F_hashes_b2.keep Kq (ninS (Ne.symm ne_b1_b2) nin0)
  have F_links_b2 := F_links_b2.keep Kq (ninS (Ne.symm ne_b1_b2) nin0)
  have E_al := E_al.keep Kq
  have F_size_al := F_size_al.keep Kq (ninS (Ne.symm ne_b1_al) nin0)
  have V_ha := V_ha.keep Kq (ninS (Ne.symm ne_b1_ha) nin0)
  have N4 := Fr.app N3 Nq
  refine own_go (U' := T4.setTop (mkF m 105 #[.val (.int p1), .val (.int p2), .val (.int p3), .val (.int p4), .val (.int p5), .val (.int x1), .val (.int x2), .val (.int x3), .val (.int c8), .val (.int c9), .val (.int c10), .val (.int qq), .unset, .unset, .unset, .unset, .unset, .unset, .unset, .unset] [(.ref b1)])) st4 ?_
  have hT : own_T Z h4 n0 b1 b2 ha al (List.replicate 8 0) (List.replicate 8 (0 : Int32)) 0 0 .null := ⟨la, ra, ga, _, _, _, _, _, _, _, _, _, _, F_a, V_la, V_ra, V_ga, rfl, ⟨E_b2, F_hashes_b2, V_ha, F_links_b2, E_al, F_size_al⟩, Or.inl ⟨rfl, rfl⟩, rfl, ⟨ne_la_ra, ne_la_ga, ne_ra_ga, ne_ha_la, ne_ha_ra, ne_ha_ga⟩, ⟨g_b1, g_la, g_ra, g_ga⟩⟩
  have hz0 : ∀ i, (List.replicate 8 0).getD i 0 = 0 := fun i => by
    rw [List.getD, List.getElem?_replicate]; split <;> rfl
  have J : own_J (List.replicate 8 0) (List.replicate 8 (0 : Int32)) 0 0 := ⟨Or.inl rfl, rfl, fun i => Nat.le_of_eq (hz0 i), Nat.le_refl _, fun i j _ q => absurd (hz0 i) q⟩
  have hf : own_age (List.replicate 8 0) (List.replicate 8 (0 : Int32)) = own_f0 := funext fun i => by rw [own_age, if_pos (hz0 i)]; rfl
  have hen : (0 : Nat) ≤ 0 := Nat.le_refl _
  have q21 : x2 = x1 ↔ m2 = m1 := by rw [ex2, ex1]; exact own_eqn (by omega) (by omega)
  have q31 : x3 = x1 ↔ m3 = m1 := by rw [ex3, ex1]; exact own_eqn (by omega) (by omega)
  have q32 : x3 = x2 ↔ m3 = m2 := by rw [ex3, ex2]; exact own_eqn (by omega) (by omega)
  have qq1 : qq = x1 ↔ qq.toNatClampNeg = m1 := by rw [ex1]; exact own_qn hqq (by omega)
  have qq2 : qq = x2 ↔ qq.toNatClampNeg = m2 := by rw [ex2]; exact own_qn hqq (by omega)
  have qq3 : qq = x3 ↔ qq.toNatClampNeg = m3 := by rw [ex3]; exact own_qn hqq (by omega)
  refine own_go (U' := T4.setTop (mkF m 107 #[.val (.int p1), .val (.int p2), .val (.int p3), .val (.int p4), .val (.int p5), .val (.int x1), .val (.int x2), .val (.int x3), .val (.int c8), .val (.int c9), .val (.int c10), .val (.int qq), .val (.ref b1), .unset, .unset, .unset, .unset, .unset, .unset, .unset] [])) (fun t k => XS.astore X4.here hx rfl (hb hby at_105) rfl rfl (l' := #[.val (.int p1), .val (.int p2), .val (.int p3), .val (.int p4), .val (.int p5), .val (.int x1), .val (.int x2), .val (.int x3), .val (.int c8), .val (.int c9), .val (.int c10), .val (.int qq), .val (.ref b1), .unset, .unset, .unset, .unset, .unset, .unset, .unset]) rfl k) ?_
  refine own_go (U' := T4.setTop (mkF m 109 #[.val (.int p1), .val (.int p2), .val (.int p3), .val (.int p4), .val (.int p5), .val (.int x1), .val (.int x2), .val (.int x3), .val (.int c8), .val (.int c9), .val (.int c10), .val (.int qq), .val (.ref b1), .unset, .unset, .unset, .unset, .unset, .unset, .unset] [(.int c8)])) (fun t k => XS.iload X4.here hx rfl (hb hby at_107) rfl k) ?_
  have tail : ∀ (T9 : State) (h9 : Heap) (L9 : List Loc) (f1 : Nat → Int32) (lt9 : List Nat) (ag9 : List Int32) (en9 : Nat) (se9 : Nat) (tb9 : Value) (r1 : Int32) (r2 : Int32), Stand p l e room_1 s m #[(.int p1), (.int p2), (.int p3), (.int p4), (.int p5)] below meth c T9 L9 20 200 → T9.heap = h9 → Fr n0 L9 → Old Z n0 h9 → own_T Z h9 n0 b1 b2 ha al lt9 ag9 en9 se9 tb9 → own_J lt9 ag9 en9 se9 → en9 < 8 → own_age lt9 ag9 = own_up (own_up f1 m2 p3) m3 p4 → (if f1 m2 < p3 then (1 : Int32) else (0 : Int32)) = r1 → (if own_up f1 m2 p3 m3 < p4 then (1 : Int32) else (0 : Int32)) = r2 → (∀ (k : Nat) (P : Prop) [Decidable P], (P ↔ k = m1) → (if c8 = (0 : Int32) then (-1 : Int32) else (if P then p2 else (-1 : Int32))) = f1 k) → own_Fin p e below s (fun v h L => v = some (.int 1) ∧ Fr n0 L) room_1.cells room_1.slots (T9.setTop (mkF m 162 #[.val (.int p1), .val (.int p2), .val (.int p3), .val (.int p4), .val (.int p5), .val (.int x1), .val (.int x2), .val (.int x3), .val (.int c8), .val (.int c9), .val (.int c10), .val (.int qq), .val (.ref b1), .val (.int r1), .val (.int r2), .unset, .unset, .unset, .unset, .unset] [])) := by
    intro T9 h9 L9 f1 lt9 ag9 en9 se9 tb9 r1 r2 X9 e9 N9 O hT J hen9 hf hv_r1 hv_r2 hbs
    refine own_go (U' := T9.setTop (mkF m 164 #[.val (.int p1), .val (.int p2), .val (.int p3), .val (.int p4), .val (.int p5), .val (.int x1), .val (.int x2), .val (.int x3), .val (.int c8), .val (.int c9), .val (.int c10), .val (.int qq), .val (.ref b1), .val (.int r1), .val (.int r2), .unset, .unset, .unset, .unset, .unset] [(.int c8)])) (fun t k => XS.iload X9.here hx rfl (hb hby at_162) rfl k) ?_
    refine own_go (U' := T9.setTop (mkF m 179 #[.val (.int p1), .val (.int p2), .val (.int p3), .val (.int p4), .val (.int p5), .val (.int x1), .val (.int x2), .val (.int x3), .val (.int c8), .val (.int c9), .val (.int c10), .val (.int qq), .val (.ref b1), .val (.int r1), .val (.int r2), .unset, .unset, .unset, .unset, .unset] [(.int (if c8 = (0 : Int32) then (-1 : Int32) else (if x2 = x1 then p2 else (-1 : Int32))))])) (fun t k => ?_) ?_
    · show Steps p.tables e below (T9.setTop (mkF m 164 #[.val (.int p1), .val (.int p2), .val (.int p3), .val (.int p4), .val (.int p5), .val (.int x1), .val (.int x2), .val (.int x3), .val (.int c8), .val (.int c9), .val (.int c10), .val (.int qq), .val (.ref b1), .val (.int r1), .val (.int r2), .unset, .unset, .unset, .unset, .unset] [(.int c8)])) _
      by_cases hd164 : c8 = (0 : Int32)
      · simp only [if_pos hd164] at k
        refine XS.ifYes X9.here hx rfl (pc0 := 164) (pc' := 178) rfl (hb hby at_164) rfl ((if0 _ _).trans (teq hd164).1) (by decide) (by decide) ?_
        show Steps p.tables e below (T9.setTop (mkF m 178 #[.val (.int p1), .val (.int p2), .val (.int p3), .val (.int p4), .val (.int p5), .val (.int x1), .val (.int x2), .val (.int x3), .val (.int c8), .val (.int c9), .val (.int c10), .val (.int qq), .val (.ref b1), .val (.int r1), .val (.int r2), .unset, .unset, .unset, .unset, .unset] [])) _
        refine XS.iconst X9.here hx rfl (hb hby at_178) ?_
        show Steps p.tables e below (T9.setTop (mkF m 179 #[.val (.int p1), .val (.int p2), .val (.int p3), .val (.int p4), .val (.int p5), .val (.int x1), .val (.int x2), .val (.int x3), .val (.int c8), .val (.int c9), .val (.int c10), .val (.int qq), .val (.ref b1), .val (.int r1), .val (.int r2), .unset, .unset, .unset, .unset, .unset] [(.int (-1 : Int32))])) _
        exact k
      · simp only [if_neg hd164] at k
        refine XS.ifNo X9.here hx rfl (hb hby at_164) rfl ((if0 _ _).trans (feq hd164).1) ?_
        show Steps p.tables e below (T9.setTop (mkF m 167 #[.val (.int p1), .val (.int p2), .val (.int p3), .val (.int p4), .val (.int p5), .val (.int x1), .val (.int x2), .val (.int x3), .val (.int c8), .val (.int c9), .val (.int c10), .val (.int qq), .val (.ref b1), .val (.int r1), .val (.int r2), .unset, .unset, .unset, .unset, .unset] [])) _
        refine XS.iload X9.here hx rfl (hb hby at_167) rfl ?_
        show Steps p.tables e below (T9.setTop (mkF m 169 #[.val (.int p1), .val (.int p2), .val (.int p3), .val (.int p4), .val (.int p5), .val (.int x1), .val (.int x2), .val (.int x3), .val (.int c8), .val (.int c9), .val (.int c10), .val (.int qq), .val (.ref b1), .val (.int r1), .val (.int r2), .unset, .unset, .unset, .unset, .unset] [(.int x2)])) _
        refine XS.iload X9.here hx rfl (hb hby at_169) rfl ?_
        show Steps p.tables e below (T9.setTop (mkF m 171 #[.val (.int p1), .val (.int p2), .val (.int p3), .val (.int p4), .val (.int p5), .val (.int x1), .val (.int x2), .val (.int x3), .val (.int c8), .val (.int c9), .val (.int c10), .val (.int qq), .val (.ref b1), .val (.int r1), .val (.int r2), .unset, .unset, .unset, .unset, .unset] [(.int x1), (.int x2)])) _
        by_cases hd171 : x2 = x1
        · simp only [if_pos hd171] at k
          refine XS.icmpNo X9.here hx rfl (hb hby at_171) rfl (teq hd171).2 ?_
          show Steps p.tables e below (T9.setTop (mkF m 174 #[.val (.int p1), .val (.int p2), .val (.int p3), .val (.int p4), .val (.int p5), .val (.int x1), .val (.int x2), .val (.int x3), .val (.int c8), .val (.int c9), .val (.int c10), .val (.int qq), .val (.ref b1), .val (.int r1), .val (.int r2), .unset, .unset, .unset, .unset, .unset] [])) _
          refine XS.iloadN X9.here hx rfl (hb hby at_174) rfl ?_
          show Steps p.tables e below (T9.setTop (mkF m 175 #[.val (.int p1), .val (.int p2), .val (.int p3), .val (.int p4), .val (.int p5), .val (.int x1), .val (.int x2), .val (.int x3), .val (.int c8), .val (.int c9), .val (.int c10), .val (.int qq), .val (.ref b1), .val (.int r1), .val (.int r2), .unset, .unset, .unset, .unset, .unset] [(.int p2)])) _
          refine XS.goto X9.here hx rfl (pc0 := 175) (pc' := 179) rfl (hb hby at_175) (by decide) (by decide) ?_
          show Steps p.tables e below (T9.setTop (mkF m 179 #[.val (.int p1), .val (.int p2), .val (.int p3), .val (.int p4), .val (.int p5), .val (.int x1), .val (.int x2), .val (.int x3), .val (.int c8), .val (.int c9), .val (.int c10), .val (.int qq), .val (.ref b1), .val (.int r1), .val (.int r2), .unset, .unset, .unset, .unset, .unset] [(.int p2)])) _
          exact k
        · simp only [if_neg hd171] at k
          refine XS.icmpYes X9.here hx rfl (pc0 := 171) (pc' := 178) rfl (hb hby at_171) rfl (feq hd171).2 (by decide) (by decide) ?_
          show Steps p.tables e below (T9.setTop (mkF m 178 #[.val (.int p1), .val (.int p2), .val (.int p3), .val (.int p4), .val (.int p5), .val (.int x1), .val (.int x2), .val (.int x3), .val (.int c8), .val (.int c9), .val (.int c10), .val (.int qq), .val (.ref b1), .val (.int r1), .val (.int r2), .unset, .unset, .unset, .unset, .unset] [])) _
          refine XS.iconst X9.here hx rfl (hb hby at_178) ?_
          show Steps p.tables e below (T9.setTop (mkF m 179 #[.val (.int p1), .val (.int p2), .val (.int p3), .val (.int p4), .val (.int p5), .val (.int x1), .val (.int x2), .val (.int x3), .val (.int c8), .val (.int c9), .val (.int c10), .val (.int qq), .val (.ref b1), .val (.int r1), .val (.int r2), .unset, .unset, .unset, .unset, .unset] [(.int (-1 : Int32))])) _
          exact k
    refine own_go (U' := T9.setTop (mkF m 181 #[.val (.int p1), .val (.int p2), .val (.int p3), .val (.int p4), .val (.int p5), .val (.int x1), .val (.int x2), .val (.int x3), .val (.int c8), .val (.int c9), .val (.int c10), .val (.int qq), .val (.ref b1), .val (.int r1), .val (.int r2), .val (.int (if c8 = (0 : Int32) then (-1 : Int32) else (if x2 = x1 then p2 else (-1 : Int32)))), .unset, .unset, .unset, .unset] [])) (fun t k => XS.istore X9.here hx rfl (hb hby at_179) rfl (l' := #[.val (.int p1), .val (.int p2), .val (.int p3), .val (.int p4), .val (.int p5), .val (.int x1), .val (.int x2), .val (.int x3), .val (.int c8), .val (.int c9), .val (.int c10), .val (.int qq), .val (.ref b1), .val (.int r1), .val (.int r2), .val (.int (if c8 = (0 : Int32) then (-1 : Int32) else (if x2 = x1 then p2 else (-1 : Int32)))), .unset, .unset, .unset, .unset]) rfl k) ?_
    have en_b1 : (if c8 = (0 : Int32) then (-1 : Int32) else (if x2 = x1 then p2 else (-1 : Int32))) = (f1 m2) := hbs _ _ q21
    rw [en_b1]
    refine own_go (U' := T9.setTop (mkF m 182 #[.val (.int p1), .val (.int p2), .val (.int p3), .val (.int p4), .val (.int p5), .val (.int x1), .val (.int x2), .val (.int x3), .val (.int c8), .val (.int c9), .val (.int c10), .val (.int qq), .val (.ref b1), .val (.int r1), .val (.int r2), .val (.int (f1 m2)), .unset, .unset, .unset, .unset] [(.int p3)])) (fun t k => XS.iloadN X9.here hx rfl (hb hby at_181) rfl k) ?_
    refine own_go (U' := T9.setTop (mkF m 184 #[.val (.int p1), .val (.int p2), .val (.int p3), .val (.int p4), .val (.int p5), .val (.int x1), .val (.int x2), .val (.int x3), .val (.int c8), .val (.int c9), .val (.int c10), .val (.int qq), .val (.ref b1), .val (.int r1), .val (.int r2), .val (.int (f1 m2)), .unset, .unset, .unset, .unset] [(.int (f1 m2)), (.int p3)])) (fun t k => XS.iload X9.here hx rfl (hb hby at_182) rfl k) ?_
    refine own_go (U' := T9.setTop (mkF m 192 #[.val (.int p1), .val (.int p2), .val (.int p3), .val (.int p4), .val (.int p5), .val (.int x1), .val (.int x2), .val (.int x3), .val (.int c8), .val (.int c9), .val (.int c10), .val (.int qq), .val (.ref b1), .val (.int r1), .val (.int r2), .val (.int (f1 m2)), .unset, .unset, .unset, .unset] [(.int (if (f1 m2) < p3 then (1 : Int32) else (0 : Int32)))])) (fun t k => ?_) ?_
    · show Steps p.tables e below (T9.setTop (mkF m 184 #[.val (.int p1), .val (.int p2), .val (.int p3), .val (.int p4), .val (.int p5), .val (.int x1), .val (.int x2), .val (.int x3), .val (.int c8), .val (.int c9), .val (.int c10), .val (.int qq), .val (.ref b1), .val (.int r1), .val (.int r2), .val (.int (f1 m2)), .unset, .unset, .unset, .unset] [(.int (f1 m2)), (.int p3)])) _
      by_cases hd184 : (f1 m2) < p3
      · simp only [if_pos hd184] at k
        refine XS.icmpNo X9.here hx rfl (hb hby at_184) rfl (tlt hd184).2.2.2 ?_
        show Steps p.tables e below (T9.setTop (mkF m 187 #[.val (.int p1), .val (.int p2), .val (.int p3), .val (.int p4), .val (.int p5), .val (.int x1), .val (.int x2), .val (.int x3), .val (.int c8), .val (.int c9), .val (.int c10), .val (.int qq), .val (.ref b1), .val (.int r1), .val (.int r2), .val (.int (f1 m2)), .unset, .unset, .unset, .unset] [])) _
        refine XS.iconst X9.here hx rfl (hb hby at_187) ?_
        show Steps p.tables e below (T9.setTop (mkF m 188 #[.val (.int p1), .val (.int p2), .val (.int p3), .val (.int p4), .val (.int p5), .val (.int x1), .val (.int x2), .val (.int x3), .val (.int c8), .val (.int c9), .val (.int c10), .val (.int qq), .val (.ref b1), .val (.int r1), .val (.int r2), .val (.int (f1 m2)), .unset, .unset, .unset, .unset] [(.int (1 : Int32))])) _
        refine XS.goto X9.here hx rfl (pc0 := 188) (pc' := 192) rfl (hb hby at_188) (by decide) (by decide) ?_
        show Steps p.tables e below (T9.setTop (mkF m 192 #[.val (.int p1), .val (.int p2), .val (.int p3), .val (.int p4), .val (.int p5), .val (.int x1), .val (.int x2), .val (.int x3), .val (.int c8), .val (.int c9), .val (.int c10), .val (.int qq), .val (.ref b1), .val (.int r1), .val (.int r2), .val (.int (f1 m2)), .unset, .unset, .unset, .unset] [(.int (1 : Int32))])) _
        exact k
      · simp only [if_neg hd184] at k
        refine XS.icmpYes X9.here hx rfl (pc0 := 184) (pc' := 191) rfl (hb hby at_184) rfl (flt hd184).2.2.2 (by decide) (by decide) ?_
        show Steps p.tables e below (T9.setTop (mkF m 191 #[.val (.int p1), .val (.int p2), .val (.int p3), .val (.int p4), .val (.int p5), .val (.int x1), .val (.int x2), .val (.int x3), .val (.int c8), .val (.int c9), .val (.int c10), .val (.int qq), .val (.ref b1), .val (.int r1), .val (.int r2), .val (.int (f1 m2)), .unset, .unset, .unset, .unset] [])) _
        refine XS.iconst X9.here hx rfl (hb hby at_191) ?_
        show Steps p.tables e below (T9.setTop (mkF m 192 #[.val (.int p1), .val (.int p2), .val (.int p3), .val (.int p4), .val (.int p5), .val (.int x1), .val (.int x2), .val (.int x3), .val (.int c8), .val (.int c9), .val (.int c10), .val (.int qq), .val (.ref b1), .val (.int r1), .val (.int r2), .val (.int (f1 m2)), .unset, .unset, .unset, .unset] [(.int (0 : Int32))])) _
        exact k
    refine own_go (U' := T9.setTop (mkF m 194 #[.val (.int p1), .val (.int p2), .val (.int p3), .val (.int p4), .val (.int p5), .val (.int x1), .val (.int x2), .val (.int x3), .val (.int c8), .val (.int c9), .val (.int c10), .val (.int qq), .val (.ref b1), .val (.int r1), .val (.int r2), .val (.int (f1 m2)), .val (.int (if (f1 m2) < p3 then (1 : Int32) else (0 : Int32))), .unset, .unset, .unset] [])) (fun t k => XS.istore X9.here hx rfl (hb hby at_192) rfl (l' := #[.val (.int p1), .val (.int p2), .val (.int p3), .val (.int p4), .val (.int p5), .val (.int x1), .val (.int x2), .val (.int x3), .val (.int c8), .val (.int c9), .val (.int c10), .val (.int qq), .val (.ref b1), .val (.int r1), .val (.int r2), .val (.int (f1 m2)), .val (.int (if (f1 m2) < p3 then (1 : Int32) else (0 : Int32))), .unset, .unset, .unset]) rfl k) ?_
    rw [hv_r1]
    refine own_go (U' := T9.setTop (mkF m 196 #[.val (.int p1), .val (.int p2), .val (.int p3), .val (.int p4), .val (.int p5), .val (.int x1), .val (.int x2), .val (.int x3), .val (.int c8), .val (.int c9), .val (.int c10), .val (.int qq), .val (.ref b1), .val (.int r1), .val (.int r2), .val (.int (f1 m2)), .val (.int r1), .unset, .unset, .unset] [(.int r1)])) (fun t k => XS.iload X9.here hx rfl (hb hby at_194) rfl k) ?_
    refine own_go (U' := T9.setTop (mkF m 227 #[.val (.int p1), .val (.int p2), .val (.int p3), .val (.int p4), .val (.int p5), .val (.int x1), .val (.int x2), .val (.int x3), .val (.int c8), .val (.int c9), .val (.int c10), .val (.int qq), .val (.ref b1), .val (.int r1), .val (.int r2), .val (.int (f1 m2)), .val (.int r1), .unset, .unset, .unset] [(.int (if r1 = (0 : Int32) then (if c8 = (0 : Int32) then (-1 : Int32) else (if x3 = x1 then p2 else (-1 : Int32))) else (if x3 = x2 then p3 else (if c8 = (0 : Int32) then (-1 : Int32) else (if x3 = x1 then p2 else (-1 : Int32))))))])) (fun t k => ?_) ?_
    · show Steps p.tables e below (T9.setTop (mkF m 196 #[.val (.int p1), .val (.int p2), .val (.int p3), .val (.int p4), .val (.int p5), .val (.int x1), .val (.int x2), .val (.int x3), .val (.int c8), .val (.int c9), .val (.int c10), .val (.int qq), .val (.ref b1), .val (.int r1), .val (.int r2), .val (.int (f1 m2)), .val (.int r1), .unset, .unset, .unset] [(.int r1)])) _
      by_cases hd196 : r1 = (0 : Int32)
      · simp only [if_pos hd196] at k
        refine XS.ifYes X9.here hx rfl (pc0 := 196) (pc' := 210) rfl (hb hby at_196) rfl ((if0 _ _).trans (teq hd196).1) (by decide) (by decide) ?_
        show Steps p.tables e below (T9.setTop (mkF m 210 #[.val (.int p1), .val (.int p2), .val (.int p3), .val (.int p4), .val (.int p5), .val (.int x1), .val (.int x2), .val (.int x3), .val (.int c8), .val (.int c9), .val (.int c10), .val (.int qq), .val (.ref b1), .val (.int r1), .val (.int r2), .val (.int (f1 m2)), .val (.int r1), .unset, .unset, .unset] [])) _
        refine XS.iload X9.here hx rfl (hb hby at_210) rfl ?_
        show Steps p.tables e below (T9.setTop (mkF m 212 #[.val (.int p1), .val (.int p2), .val (.int p3), .val (.int p4), .val (.int p5), .val (.int x1), .val (.int x2), .val (.int x3), .val (.int c8), .val (.int c9), .val (.int c10), .val (.int qq), .val (.ref b1), .val (.int r1), .val (.int r2), .val (.int (f1 m2)), .val (.int r1), .unset, .unset, .unset] [(.int c8)])) _
        by_cases hd212 : c8 = (0 : Int32)
        · simp only [if_pos hd212] at k
          refine XS.ifYes X9.here hx rfl (pc0 := 212) (pc' := 226) rfl (hb hby at_212) rfl ((if0 _ _).trans (teq hd212).1) (by decide) (by decide) ?_
          show Steps p.tables e below (T9.setTop (mkF m 226 #[.val (.int p1), .val (.int p2), .val (.int p3), .val (.int p4), .val (.int p5), .val (.int x1), .val (.int x2), .val (.int x3), .val (.int c8), .val (.int c9), .val (.int c10), .val (.int qq), .val (.ref b1), .val (.int r1), .val (.int r2), .val (.int (f1 m2)), .val (.int r1), .unset, .unset, .unset] [])) _
          refine XS.iconst X9.here hx rfl (hb hby at_226) ?_
          show Steps p.tables e below (T9.setTop (mkF m 227 #[.val (.int p1), .val (.int p2), .val (.int p3), .val (.int p4), .val (.int p5), .val (.int x1), .val (.int x2), .val (.int x3), .val (.int c8), .val (.int c9), .val (.int c10), .val (.int qq), .val (.ref b1), .val (.int r1), .val (.int r2), .val (.int (f1 m2)), .val (.int r1), .unset, .unset, .unset] [(.int (-1 : Int32))])) _
          exact k
        · simp only [if_neg hd212] at k
          refine XS.ifNo X9.here hx rfl (hb hby at_212) rfl ((if0 _ _).trans (feq hd212).1) ?_
          show Steps p.tables e below (T9.setTop (mkF m 215 #[.val (.int p1), .val (.int p2), .val (.int p3), .val (.int p4), .val (.int p5), .val (.int x1), .val (.int x2), .val (.int x3), .val (.int c8), .val (.int c9), .val (.int c10), .val (.int qq), .val (.ref b1), .val (.int r1), .val (.int r2), .val (.int (f1 m2)), .val (.int r1), .unset, .unset, .unset] [])) _
          refine XS.iload X9.here hx rfl (hb hby at_215) rfl ?_
          show Steps p.tables e below (T9.setTop (mkF m 217 #[.val (.int p1), .val (.int p2), .val (.int p3), .val (.int p4), .val (.int p5), .val (.int x1), .val (.int x2), .val (.int x3), .val (.int c8), .val (.int c9), .val (.int c10), .val (.int qq), .val (.ref b1), .val (.int r1), .val (.int r2), .val (.int (f1 m2)), .val (.int r1), .unset, .unset, .unset] [(.int x3)])) _
          refine XS.iload X9.here hx rfl (hb hby at_217) rfl ?_
          show Steps p.tables e below (T9.setTop (mkF m 219 #[.val (.int p1), .val (.int p2), .val (.int p3), .val (.int p4), .val (.int p5), .val (.int x1), .val (.int x2), .val (.int x3), .val (.int c8), .val (.int c9), .val (.int c10), .val (.int qq), .val (.ref b1), .val (.int r1), .val (.int r2), .val (.int (f1 m2)), .val (.int r1), .unset, .unset, .unset] [(.int x1), (.int x3)])) _
          by_cases hd219 : x3 = x1
          · simp only [if_pos hd219] at k
            refine XS.icmpNo X9.here hx rfl (hb hby at_219) rfl (teq hd219).2 ?_
            show Steps p.tables e below (T9.setTop (mkF m 222 #[.val (.int p1), .val (.int p2), .val (.int p3), .val (.int p4), .val (.int p5), .val (.int x1), .val (.int x2), .val (.int x3), .val (.int c8), .val (.int c9), .val (.int c10), .val (.int qq), .val (.ref b1), .val (.int r1), .val (.int r2), .val (.int (f1 m2)), .val (.int r1), .unset, .unset, .unset] [])) _
            refine XS.iloadN X9.here hx rfl (hb hby at_222) rfl ?_
            show Steps p.tables e below (T9.setTop (mkF m 223 #[.val (.int p1), .val (.int p2), .val (.int p3), .val (.int p4), .val (.int p5), .val (.int x1), .val (.int x2), .val (.int x3), .val (.int c8), .val (.int c9), .val (.int c10), .val (.int qq), .val (.ref b1), .val (.int r1), .val (.int r2), .val (.int (f1 m2)), .val (.int r1), .unset, .unset, .unset] [(.int p2)])) _
            refine XS.goto X9.here hx rfl (pc0 := 223) (pc' := 227) rfl (hb hby at_223) (by decide) (by decide) ?_
            show Steps p.tables e below (T9.setTop (mkF m 227 #[.val (.int p1), .val (.int p2), .val (.int p3), .val (.int p4), .val (.int p5), .val (.int x1), .val (.int x2), .val (.int x3), .val (.int c8), .val (.int c9), .val (.int c10), .val (.int qq), .val (.ref b1), .val (.int r1), .val (.int r2), .val (.int (f1 m2)), .val (.int r1), .unset, .unset, .unset] [(.int p2)])) _
            exact k
          · simp only [if_neg hd219] at k
            refine XS.icmpYes X9.here hx rfl (pc0 := 219) (pc' := 226) rfl (hb hby at_219) rfl (feq hd219).2 (by decide) (by decide) ?_
            show Steps p.tables e below (T9.setTop (mkF m 226 #[.val (.int p1), .val (.int p2), .val (.int p3), .val (.int p4), .val (.int p5), .val (.int x1), .val (.int x2), .val (.int x3), .val (.int c8), .val (.int c9), .val (.int c10), .val (.int qq), .val (.ref b1), .val (.int r1), .val (.int r2), .val (.int (f1 m2)), .val (.int r1), .unset, .unset, .unset] [])) _
            refine XS.iconst X9.here hx rfl (hb hby at_226) ?_
            show Steps p.tables e below (T9.setTop (mkF m 227 #[.val (.int p1), .val (.int p2), .val (.int p3), .val (.int p4), .val (.int p5), .val (.int x1), .val (.int x2), .val (.int x3), .val (.int c8), .val (.int c9), .val (.int c10), .val (.int qq), .val (.ref b1), .val (.int r1), .val (.int r2), .val (.int (f1 m2)), .val (.int r1), .unset, .unset, .unset] [(.int (-1 : Int32))])) _
            exact k
      · simp only [if_neg hd196] at k
        refine XS.ifNo X9.here hx rfl (hb hby at_196) rfl ((if0 _ _).trans (feq hd196).1) ?_
        show Steps p.tables e below (T9.setTop (mkF m 199 #[.val (.int p1), .val (.int p2), .val (.int p3), .val (.int p4), .val (.int p5), .val (.int x1), .val (.int x2), .val (.int x3), .val (.int c8), .val (.int c9), .val (.int c10), .val (.int qq), .val (.ref b1), .val (.int r1), .val (.int r2), .val (.int (f1 m2)), .val (.int r1), .unset, .unset, .unset] [])) _
        refine XS.iload X9.here hx rfl (hb hby at_199) rfl ?_
        show Steps p.tables e below (T9.setTop (mkF m 201 #[.val (.int p1), .val (.int p2), .val (.int p3), .val (.int p4), .val (.int p5), .val (.int x1), .val (.int x2), .val (.int x3), .val (.int c8), .val (.int c9), .val (.int c10), .val (.int qq), .val (.ref b1), .val (.int r1), .val (.int r2), .val (.int (f1 m2)), .val (.int r1), .unset, .unset, .unset] [(.int x3)])) _
        refine XS.iload X9.here hx rfl (hb hby at_201) rfl ?_
        show Steps p.tables e below (T9.setTop (mkF m 203 #[.val (.int p1), .val (.int p2), .val (.int p3), .val (.int p4), .val (.int p5), .val (.int x1), .val (.int x2), .val (.int x3), .val (.int c8), .val (.int c9), .val (.int c10), .val (.int qq), .val (.ref b1), .val (.int r1), .val (.int r2), .val (.int (f1 m2)), .val (.int r1), .unset, .unset, .unset] [(.int x2), (.int x3)])) _
        by_cases hd203 : x3 = x2
        · simp only [if_pos hd203] at k
          refine XS.icmpNo X9.here hx rfl (hb hby at_203) rfl (teq hd203).2 ?_
          show Steps p.tables e below (T9.setTop (mkF m 206 #[.val (.int p1), .val (.int p2), .val (.int p3), .val (.int p4), .val (.int p5), .val (.int x1), .val (.int x2), .val (.int x3), .val (.int c8), .val (.int c9), .val (.int c10), .val (.int qq), .val (.ref b1), .val (.int r1), .val (.int r2), .val (.int (f1 m2)), .val (.int r1), .unset, .unset, .unset] [])) _
          refine XS.iloadN X9.here hx rfl (hb hby at_206) rfl ?_
          show Steps p.tables e below (T9.setTop (mkF m 207 #[.val (.int p1), .val (.int p2), .val (.int p3), .val (.int p4), .val (.int p5), .val (.int x1), .val (.int x2), .val (.int x3), .val (.int c8), .val (.int c9), .val (.int c10), .val (.int qq), .val (.ref b1), .val (.int r1), .val (.int r2), .val (.int (f1 m2)), .val (.int r1), .unset, .unset, .unset] [(.int p3)])) _
          refine XS.goto X9.here hx rfl (pc0 := 207) (pc' := 227) rfl (hb hby at_207) (by decide) (by decide) ?_
          show Steps p.tables e below (T9.setTop (mkF m 227 #[.val (.int p1), .val (.int p2), .val (.int p3), .val (.int p4), .val (.int p5), .val (.int x1), .val (.int x2), .val (.int x3), .val (.int c8), .val (.int c9), .val (.int c10), .val (.int qq), .val (.ref b1), .val (.int r1), .val (.int r2), .val (.int (f1 m2)), .val (.int r1), .unset, .unset, .unset] [(.int p3)])) _
          exact k
        · simp only [if_neg hd203] at k
          refine XS.icmpYes X9.here hx rfl (pc0 := 203) (pc' := 210) rfl (hb hby at_203) rfl (feq hd203).2 (by decide) (by decide) ?_
          show Steps p.tables e below (T9.setTop (mkF m 210 #[.val (.int p1), .val (.int p2), .val (.int p3), .val (.int p4), .val (.int p5), .val (.int x1), .val (.int x2), .val (.int x3), .val (.int c8), .val (.int c9), .val (.int c10), .val (.int qq), .val (.ref b1), .val (.int r1), .val (.int r2), .val (.int (f1 m2)), .val (.int r1), .unset, .unset, .unset] [])) _
          refine XS.iload X9.here hx rfl (hb hby at_210) rfl ?_
          show Steps p.tables e below (T9.setTop (mkF m 212 #[.val (.int p1), .val (.int p2), .val (.int p3), .val (.int p4), .val (.int p5), .val (.int x1), .val (.int x2), .val (.int x3), .val (.int c8), .val (.int c9), .val (.int c10), .val (.int qq), .val (.ref b1), .val (.int r1), .val (.int r2), .val (.int (f1 m2)), .val (.int r1), .unset, .unset, .unset] [(.int c8)])) _
          by_cases hd212 : c8 = (0 : Int32)
          · simp only [if_pos hd212] at k
            refine XS.ifYes X9.here hx rfl (pc0 := 212) (pc' := 226) rfl (hb hby at_212) rfl ((if0 _ _).trans (teq hd212).1) (by decide) (by decide) ?_
            show Steps p.tables e below (T9.setTop (mkF m 226 #[.val (.int p1), .val (.int p2), .val (.int p3), .val (.int p4), .val (.int p5), .val (.int x1), .val (.int x2), .val (.int x3), .val (.int c8), .val (.int c9), .val (.int c10), .val (.int qq), .val (.ref b1), .val (.int r1), .val (.int r2), .val (.int (f1 m2)), .val (.int r1), .unset, .unset, .unset] [])) _
            refine XS.iconst X9.here hx rfl (hb hby at_226) ?_
            show Steps p.tables e below (T9.setTop (mkF m 227 #[.val (.int p1), .val (.int p2), .val (.int p3), .val (.int p4), .val (.int p5), .val (.int x1), .val (.int x2), .val (.int x3), .val (.int c8), .val (.int c9), .val (.int c10), .val (.int qq), .val (.ref b1), .val (.int r1), .val (.int r2), .val (.int (f1 m2)), .val (.int r1), .unset, .unset, .unset] [(.int (-1 : Int32))])) _
            exact k
          · simp only [if_neg hd212] at k
            refine XS.ifNo X9.here hx rfl (hb hby at_212) rfl ((if0 _ _).trans (feq hd212).1) ?_
            show Steps p.tables e below (T9.setTop (mkF m 215 #[.val (.int p1), .val (.int p2), .val (.int p3), .val (.int p4), .val (.int p5), .val (.int x1), .val (.int x2), .val (.int x3), .val (.int c8), .val (.int c9), .val (.int c10), .val (.int qq), .val (.ref b1), .val (.int r1), .val (.int r2), .val (.int (f1 m2)), .val (.int r1), .unset, .unset, .unset] [])) _
            refine XS.iload X9.here hx rfl (hb hby at_215) rfl ?_
            show Steps p.tables e below (T9.setTop (mkF m 217 #[.val (.int p1), .val (.int p2), .val (.int p3), .val (.int p4), .val (.int p5), .val (.int x1), .val (.int x2), .val (.int x3), .val (.int c8), .val (.int c9), .val (.int c10), .val (.int qq), .val (.ref b1), .val (.int r1), .val (.int r2), .val (.int (f1 m2)), .val (.int r1), .unset, .unset, .unset] [(.int x3)])) _
            refine XS.iload X9.here hx rfl (hb hby at_217) rfl ?_
            show Steps p.tables e below (T9.setTop (mkF m 219 #[.val (.int p1), .val (.int p2), .val (.int p3), .val (.int p4), .val (.int p5), .val (.int x1), .val (.int x2), .val (.int x3), .val (.int c8), .val (.int c9), .val (.int c10), .val (.int qq), .val (.ref b1), .val (.int r1), .val (.int r2), .val (.int (f1 m2)), .val (.int r1), .unset, .unset, .unset] [(.int x1), (.int x3)])) _
            by_cases hd219 : x3 = x1
            · simp only [if_pos hd219] at k
              refine XS.icmpNo X9.here hx rfl (hb hby at_219) rfl (teq hd219).2 ?_
              show Steps p.tables e below (T9.setTop (mkF m 222 #[.val (.int p1), .val (.int p2), .val (.int p3), .val (.int p4), .val (.int p5), .val (.int x1), .val (.int x2), .val (.int x3), .val (.int c8), .val (.int c9), .val (.int c10), .val (.int qq), .val (.ref b1), .val (.int r1), .val (.int r2), .val (.int (f1 m2)), .val (.int r1), .unset, .unset, .unset] [])) _
              refine XS.iloadN X9.here hx rfl (hb hby at_222) rfl ?_
              show Steps p.tables e below (T9.setTop (mkF m 223 #[.val (.int p1), .val (.int p2), .val (.int p3), .val (.int p4), .val (.int p5), .val (.int x1), .val (.int x2), .val (.int x3), .val (.int c8), .val (.int c9), .val (.int c10), .val (.int qq), .val (.ref b1), .val (.int r1), .val (.int r2), .val (.int (f1 m2)), .val (.int r1), .unset, .unset, .unset] [(.int p2)])) _
              refine XS.goto X9.here hx rfl (pc0 := 223) (pc' := 227) rfl (hb hby at_223) (by decide) (by decide) ?_
              show Steps p.tables e below (T9.setTop (mkF m 227 #[.val (.int p1), .val (.int p2), .val (.int p3), .val (.int p4), .val (.int p5), .val (.int x1), .val (.int x2), .val (.int x3), .val (.int c8), .val (.int c9), .val (.int c10), .val (.int qq), .val (.ref b1), .val (.int r1), .val (.int r2), .val (.int (f1 m2)), .val (.int r1), .unset, .unset, .unset] [(.int p2)])) _
              exact k
            · simp only [if_neg hd219] at k
              refine XS.icmpYes X9.here hx rfl (pc0 := 219) (pc' := 226) rfl (hb hby at_219) rfl (feq hd219).2 (by decide) (by decide) ?_
              show Steps p.tables e below (T9.setTop (mkF m 226 #[.val (.int p1), .val (.int p2), .val (.int p3), .val (.int p4), .val (.int p5), .val (.int x1), .val (.int x2), .val (.int x3), .val (.int c8), .val (.int c9), .val (.int c10), .val (.int qq), .val (.ref b1), .val (.int r1), .val (.int r2), .val (.int (f1 m2)), .val (.int r1), .unset, .unset, .unset] [])) _
              refine XS.iconst X9.here hx rfl (hb hby at_226) ?_
              show Steps p.tables e below (T9.setTop (mkF m 227 #[.val (.int p1), .val (.int p2), .val (.int p3), .val (.int p4), .val (.int p5), .val (.int x1), .val (.int x2), .val (.int x3), .val (.int c8), .val (.int c9), .val (.int c10), .val (.int qq), .val (.ref b1), .val (.int r1), .val (.int r2), .val (.int (f1 m2)), .val (.int r1), .unset, .unset, .unset] [(.int (-1 : Int32))])) _
              exact k
    refine own_go (U' := T9.setTop (mkF m 229 #[.val (.int p1), .val (.int p2), .val (.int p3), .val (.int p4), .val (.int p5), .val (.int x1), .val (.int x2), .val (.int x3), .val (.int c8), .val (.int c9), .val (.int c10), .val (.int qq), .val (.ref b1), .val (.int r1), .val (.int r2), .val (.int (f1 m2)), .val (.int r1), .val (.int (if r1 = (0 : Int32) then (if c8 = (0 : Int32) then (-1 : Int32) else (if x3 = x1 then p2 else (-1 : Int32))) else (if x3 = x2 then p3 else (if c8 = (0 : Int32) then (-1 : Int32) else (if x3 = x1 then p2 else (-1 : Int32)))))), .unset, .unset] [])) (fun t k => XS.istore X9.here hx rfl (hb hby at_227) rfl (l' := #[.val (.int p1), .val (.int p2), .val (.int p3), .val (.int p4), .val (.int p5), .val (.int x1), .val (.int x2), .val (.int x3), .val (.int c8), .val (.int c9), .val (.int c10), .val (.int qq), .val (.ref b1), .val (.int r1), .val (.int r2), .val (.int (f1 m2)), .val (.int r1), .val (.int (if r1 = (0 : Int32) then (if c8 = (0 : Int32) then (-1 : Int32) else (if x3 = x1 then p2 else (-1 : Int32))) else (if x3 = x2 then p3 else (if c8 = (0 : Int32) then (-1 : Int32) else (if x3 = x1 then p2 else (-1 : Int32)))))), .unset, .unset]) rfl k) ?_
    have en_b2 : (if r1 = (0 : Int32) then (if c8 = (0 : Int32) then (-1 : Int32) else (if x3 = x1 then p2 else (-1 : Int32))) else (if x3 = x2 then p3 else (if c8 = (0 : Int32) then (-1 : Int32) else (if x3 = x1 then p2 else (-1 : Int32))))) = ((own_up f1 m2 p3) m3) := own_b2 q32 hv_r1 (hbs _ _ q31)
    rw [en_b2]
    refine own_go (U' := T9.setTop (mkF m 230 #[.val (.int p1), .val (.int p2), .val (.int p3), .val (.int p4), .val (.int p5), .val (.int x1), .val (.int x2), .val (.int x3), .val (.int c8), .val (.int c9), .val (.int c10), .val (.int qq), .val (.ref b1), .val (.int r1), .val (.int r2), .val (.int (f1 m2)), .val (.int r1), .val (.int ((own_up f1 m2 p3) m3)), .unset, .unset] [(.int p4)])) (fun t k => XS.iloadN X9.here hx rfl (hb hby at_229) rfl k) ?_
    refine own_go (U' := T9.setTop (mkF m 232 #[.val (.int p1), .val (.int p2), .val (.int p3), .val (.int p4), .val (.int p5), .val (.int x1), .val (.int x2), .val (.int x3), .val (.int c8), .val (.int c9), .val (.int c10), .val (.int qq), .val (.ref b1), .val (.int r1), .val (.int r2), .val (.int (f1 m2)), .val (.int r1), .val (.int ((own_up f1 m2 p3) m3)), .unset, .unset] [(.int ((own_up f1 m2 p3) m3)), (.int p4)])) (fun t k => XS.iload X9.here hx rfl (hb hby at_230) rfl k) ?_
    refine own_go (U' := T9.setTop (mkF m 240 #[.val (.int p1), .val (.int p2), .val (.int p3), .val (.int p4), .val (.int p5), .val (.int x1), .val (.int x2), .val (.int x3), .val (.int c8), .val (.int c9), .val (.int c10), .val (.int qq), .val (.ref b1), .val (.int r1), .val (.int r2), .val (.int (f1 m2)), .val (.int r1), .val (.int ((own_up f1 m2 p3) m3)), .unset, .unset] [(.int (if ((own_up f1 m2 p3) m3) < p4 then (1 : Int32) else (0 : Int32)))])) (fun t k => ?_) ?_
    · show Steps p.tables e below (T9.setTop (mkF m 232 #[.val (.int p1), .val (.int p2), .val (.int p3), .val (.int p4), .val (.int p5), .val (.int x1), .val (.int x2), .val (.int x3), .val (.int c8), .val (.int c9), .val (.int c10), .val (.int qq), .val (.ref b1), .val (.int r1), .val (.int r2), .val (.int (f1 m2)), .val (.int r1), .val (.int ((own_up f1 m2 p3) m3)), .unset, .unset] [(.int ((own_up f1 m2 p3) m3)), (.int p4)])) _
      by_cases hd232 : ((own_up f1 m2 p3) m3) < p4
      · simp only [if_pos hd232] at k
        refine XS.icmpNo X9.here hx rfl (hb hby at_232) rfl (tlt hd232).2.2.2 ?_
        show Steps p.tables e below (T9.setTop (mkF m 235 #[.val (.int p1), .val (.int p2), .val (.int p3), .val (.int p4), .val (.int p5), .val (.int x1), .val (.int x2), .val (.int x3), .val (.int c8), .val (.int c9), .val (.int c10), .val (.int qq), .val (.ref b1), .val (.int r1), .val (.int r2), .val (.int (f1 m2)), .val (.int r1), .val (.int ((own_up f1 m2 p3) m3)), .unset, .unset] [])) _
        refine XS.iconst X9.here hx rfl (hb hby at_235) ?_
        show Steps p.tables e below (T9.setTop (mkF m 236 #[.val (.int p1), .val (.int p2), .val (.int p3), .val (.int p4), .val (.int p5), .val (.int x1), .val (.int x2), .val (.int x3), .val (.int c8), .val (.int c9), .val (.int c10), .val (.int qq), .val (.ref b1), .val (.int r1), .val (.int r2), .val (.int (f1 m2)), .val (.int r1), .val (.int ((own_up f1 m2 p3) m3)), .unset, .unset] [(.int (1 : Int32))])) _
        refine XS.goto X9.here hx rfl (pc0 := 236) (pc' := 240) rfl (hb hby at_236) (by decide) (by decide) ?_
        show Steps p.tables e below (T9.setTop (mkF m 240 #[.val (.int p1), .val (.int p2), .val (.int p3), .val (.int p4), .val (.int p5), .val (.int x1), .val (.int x2), .val (.int x3), .val (.int c8), .val (.int c9), .val (.int c10), .val (.int qq), .val (.ref b1), .val (.int r1), .val (.int r2), .val (.int (f1 m2)), .val (.int r1), .val (.int ((own_up f1 m2 p3) m3)), .unset, .unset] [(.int (1 : Int32))])) _
        exact k
      · simp only [if_neg hd232] at k
        refine XS.icmpYes X9.here hx rfl (pc0 := 232) (pc' := 239) rfl (hb hby at_232) rfl (flt hd232).2.2.2 (by decide) (by decide) ?_
        show Steps p.tables e below (T9.setTop (mkF m 239 #[.val (.int p1), .val (.int p2), .val (.int p3), .val (.int p4), .val (.int p5), .val (.int x1), .val (.int x2), .val (.int x3), .val (.int c8), .val (.int c9), .val (.int c10), .val (.int qq), .val (.ref b1), .val (.int r1), .val (.int r2), .val (.int (f1 m2)), .val (.int r1), .val (.int ((own_up f1 m2 p3) m3)), .unset, .unset] [])) _
        refine XS.iconst X9.here hx rfl (hb hby at_239) ?_
        show Steps p.tables e below (T9.setTop (mkF m 240 #[.val (.int p1), .val (.int p2), .val (.int p3), .val (.int p4), .val (.int p5), .val (.int x1), .val (.int x2), .val (.int x3), .val (.int c8), .val (.int c9), .val (.int c10), .val (.int qq), .val (.ref b1), .val (.int r1), .val (.int r2), .val (.int (f1 m2)), .val (.int r1), .val (.int ((own_up f1 m2 p3) m3)), .unset, .unset] [(.int (0 : Int32))])) _
        exact k
    refine own_go (U' := T9.setTop (mkF m 242 #[.val (.int p1), .val (.int p2), .val (.int p3), .val (.int p4), .val (.int p5), .val (.int x1), .val (.int x2), .val (.int x3), .val (.int c8), .val (.int c9), .val (.int c10), .val (.int qq), .val (.ref b1), .val (.int r1), .val (.int r2), .val (.int (f1 m2)), .val (.int r1), .val (.int ((own_up f1 m2 p3) m3)), .val (.int (if ((own_up f1 m2 p3) m3) < p4 then (1 : Int32) else (0 : Int32))), .unset] [])) (fun t k => XS.istore X9.here hx rfl (hb hby at_240) rfl (l' := #[.val (.int p1), .val (.int p2), .val (.int p3), .val (.int p4), .val (.int p5), .val (.int x1), .val (.int x2), .val (.int x3), .val (.int c8), .val (.int c9), .val (.int c10), .val (.int qq), .val (.ref b1), .val (.int r1), .val (.int r2), .val (.int (f1 m2)), .val (.int r1), .val (.int ((own_up f1 m2 p3) m3)), .val (.int (if ((own_up f1 m2 p3) m3) < p4 then (1 : Int32) else (0 : Int32))), .unset]) rfl k) ?_
    rw [hv_r2]
    refine own_go (U' := T9.setTop (mkF m 244 #[.val (.int p1), .val (.int p2), .val (.int p3), .val (.int p4), .val (.int p5), .val (.int x1), .val (.int x2), .val (.int x3), .val (.int c8), .val (.int c9), .val (.int c10), .val (.int qq), .val (.ref b1), .val (.int r1), .val (.int r2), .val (.int (f1 m2)), .val (.int r1), .val (.int ((own_up f1 m2 p3) m3)), .val (.int r2), .unset] [(.int r2)])) (fun t k => XS.iload X9.here hx rfl (hb hby at_242) rfl k) ?_
    refine own_go (U' := T9.setTop (mkF m 291 #[.val (.int p1), .val (.int p2), .val (.int p3), .val (.int p4), .val (.int p5), .val (.int x1), .val (.int x2), .val (.int x3), .val (.int c8), .val (.int c9), .val (.int c10), .val (.int qq), .val (.ref b1), .val (.int r1), .val (.int r2), .val (.int (f1 m2)), .val (.int r1), .val (.int ((own_up f1 m2 p3) m3)), .val (.int r2), .unset] [(.int (if r2 = (0 : Int32) then (if r1 = (0 : Int32) then (if c8 = (0 : Int32) then (-1 : Int32) else (if qq = x1 then p2 else (-1 : Int32))) else (if qq = x2 then p3 else (if c8 = (0 : Int32) then (-1 : Int32) else (if qq = x1 then p2 else (-1 : Int32))))) else (if qq = x3 then p4 else (if r1 = (0 : Int32) then (if c8 = (0 : Int32) then (-1 : Int32) else (if qq = x1 then p2 else (-1 : Int32))) else (if qq = x2 then p3 else (if c8 = (0 : Int32) then (-1 : Int32) else (if qq = x1 then p2 else (-1 : Int32))))))))])) (fun t k => ?_) ?_
    · show Steps p.tables e below (T9.setTop (mkF m 244 #[.val (.int p1), .val (.int p2), .val (.int p3), .val (.int p4), .val (.int p5), .val (.int x1), .val (.int x2), .val (.int x3), .val (.int c8), .val (.int c9), .val (.int c10), .val (.int qq), .val (.ref b1), .val (.int r1), .val (.int r2), .val (.int (f1 m2)), .val (.int r1), .val (.int ((own_up f1 m2 p3) m3)), .val (.int r2), .unset] [(.int r2)])) _
      by_cases hd244 : r2 = (0 : Int32)
      · simp only [if_pos hd244] at k
        refine XS.ifYes X9.here hx rfl (pc0 := 244) (pc' := 258) rfl (hb hby at_244) rfl ((if0 _ _).trans (teq hd244).1) (by decide) (by decide) ?_
        show Steps p.tables e below (T9.setTop (mkF m 258 #[.val (.int p1), .val (.int p2), .val (.int p3), .val (.int p4), .val (.int p5), .val (.int x1), .val (.int x2), .val (.int x3), .val (.int c8), .val (.int c9), .val (.int c10), .val (.int qq), .val (.ref b1), .val (.int r1), .val (.int r2), .val (.int (f1 m2)), .val (.int r1), .val (.int ((own_up f1 m2 p3) m3)), .val (.int r2), .unset] [])) _
        refine XS.iload X9.here hx rfl (hb hby at_258) rfl ?_
        show Steps p.tables e below (T9.setTop (mkF m 260 #[.val (.int p1), .val (.int p2), .val (.int p3), .val (.int p4), .val (.int p5), .val (.int x1), .val (.int x2), .val (.int x3), .val (.int c8), .val (.int c9), .val (.int c10), .val (.int qq), .val (.ref b1), .val (.int r1), .val (.int r2), .val (.int (f1 m2)), .val (.int r1), .val (.int ((own_up f1 m2 p3) m3)), .val (.int r2), .unset] [(.int r1)])) _
        by_cases hd260 : r1 = (0 : Int32)
        · simp only [if_pos hd260] at k
          refine XS.ifYes X9.here hx rfl (pc0 := 260) (pc' := 274) rfl (hb hby at_260) rfl ((if0 _ _).trans (teq hd260).1) (by decide) (by decide) ?_
          show Steps p.tables e below (T9.setTop (mkF m 274 #[.val (.int p1), .val (.int p2), .val (.int p3), .val (.int p4), .val (.int p5), .val (.int x1), .val (.int x2), .val (.int x3), .val (.int c8), .val (.int c9), .val (.int c10), .val (.int qq), .val (.ref b1), .val (.int r1), .val (.int r2), .val (.int (f1 m2)), .val (.int r1), .val (.int ((own_up f1 m2 p3) m3)), .val (.int r2), .unset] [])) _
          refine XS.iload X9.here hx rfl (hb hby at_274) rfl ?_
          show Steps p.tables e below (T9.setTop (mkF m 276 #[.val (.int p1), .val (.int p2), .val (.int p3), .val (.int p4), .val (.int p5), .val (.int x1), .val (.int x2), .val (.int x3), .val (.int c8), .val (.int c9), .val (.int c10), .val (.int qq), .val (.ref b1), .val (.int r1), .val (.int r2), .val (.int (f1 m2)), .val (.int r1), .val (.int ((own_up f1 m2 p3) m3)), .val (.int r2), .unset] [(.int c8)])) _
          by_cases hd276 : c8 = (0 : Int32)
          · simp only [if_pos hd276] at k
            refine XS.ifYes X9.here hx rfl (pc0 := 276) (pc' := 290) rfl (hb hby at_276) rfl ((if0 _ _).trans (teq hd276).1) (by decide) (by decide) ?_
            show Steps p.tables e below (T9.setTop (mkF m 290 #[.val (.int p1), .val (.int p2), .val (.int p3), .val (.int p4), .val (.int p5), .val (.int x1), .val (.int x2), .val (.int x3), .val (.int c8), .val (.int c9), .val (.int c10), .val (.int qq), .val (.ref b1), .val (.int r1), .val (.int r2), .val (.int (f1 m2)), .val (.int r1), .val (.int ((own_up f1 m2 p3) m3)), .val (.int r2), .unset] [])) _
            refine XS.iconst X9.here hx rfl (hb hby at_290) ?_
            show Steps p.tables e below (T9.setTop (mkF m 291 #[.val (.int p1), .val (.int p2), .val (.int p3), .val (.int p4), .val (.int p5), .val (.int x1), .val (.int x2), .val (.int x3), .val (.int c8), .val (.int c9), .val (.int c10), .val (.int qq), .val (.ref b1), .val (.int r1), .val (.int r2), .val (.int (f1 m2)), .val (.int r1), .val (.int ((own_up f1 m2 p3) m3)), .val (.int r2), .unset] [(.int (-1 : Int32))])) _
            exact k
          · simp only [if_neg hd276] at k
            refine XS.ifNo X9.here hx rfl (hb hby at_276) rfl ((if0 _ _).trans (feq hd276).1) ?_
            show Steps p.tables e below (T9.setTop (mkF m 279 #[.val (.int p1), .val (.int p2), .val (.int p3), .val (.int p4), .val (.int p5), .val (.int x1), .val (.int x2), .val (.int x3), .val (.int c8), .val (.int c9), .val (.int c10), .val (.int qq), .val (.ref b1), .val (.int r1), .val (.int r2), .val (.int (f1 m2)), .val (.int r1), .val (.int ((own_up f1 m2 p3) m3)), .val (.int r2), .unset] [])) _
            refine XS.iload X9.here hx rfl (hb hby at_279) rfl ?_
            show Steps p.tables e below (T9.setTop (mkF m 281 #[.val (.int p1), .val (.int p2), .val (.int p3), .val (.int p4), .val (.int p5), .val (.int x1), .val (.int x2), .val (.int x3), .val (.int c8), .val (.int c9), .val (.int c10), .val (.int qq), .val (.ref b1), .val (.int r1), .val (.int r2), .val (.int (f1 m2)), .val (.int r1), .val (.int ((own_up f1 m2 p3) m3)), .val (.int r2), .unset] [(.int qq)])) _
            refine XS.iload X9.here hx rfl (hb hby at_281) rfl ?_
            show Steps p.tables e below (T9.setTop (mkF m 283 #[.val (.int p1), .val (.int p2), .val (.int p3), .val (.int p4), .val (.int p5), .val (.int x1), .val (.int x2), .val (.int x3), .val (.int c8), .val (.int c9), .val (.int c10), .val (.int qq), .val (.ref b1), .val (.int r1), .val (.int r2), .val (.int (f1 m2)), .val (.int r1), .val (.int ((own_up f1 m2 p3) m3)), .val (.int r2), .unset] [(.int x1), (.int qq)])) _
            by_cases hd283 : qq = x1
            · simp only [if_pos hd283] at k
              refine XS.icmpNo X9.here hx rfl (hb hby at_283) rfl (teq hd283).2 ?_
              show Steps p.tables e below (T9.setTop (mkF m 286 #[.val (.int p1), .val (.int p2), .val (.int p3), .val (.int p4), .val (.int p5), .val (.int x1), .val (.int x2), .val (.int x3), .val (.int c8), .val (.int c9), .val (.int c10), .val (.int qq), .val (.ref b1), .val (.int r1), .val (.int r2), .val (.int (f1 m2)), .val (.int r1), .val (.int ((own_up f1 m2 p3) m3)), .val (.int r2), .unset] [])) _
              refine XS.iloadN X9.here hx rfl (hb hby at_286) rfl ?_
              show Steps p.tables e below (T9.setTop (mkF m 287 #[.val (.int p1), .val (.int p2), .val (.int p3), .val (.int p4), .val (.int p5), .val (.int x1), .val (.int x2), .val (.int x3), .val (.int c8), .val (.int c9), .val (.int c10), .val (.int qq), .val (.ref b1), .val (.int r1), .val (.int r2), .val (.int (f1 m2)), .val (.int r1), .val (.int ((own_up f1 m2 p3) m3)), .val (.int r2), .unset] [(.int p2)])) _
              refine XS.goto X9.here hx rfl (pc0 := 287) (pc' := 291) rfl (hb hby at_287) (by decide) (by decide) ?_
              show Steps p.tables e below (T9.setTop (mkF m 291 #[.val (.int p1), .val (.int p2), .val (.int p3), .val (.int p4), .val (.int p5), .val (.int x1), .val (.int x2), .val (.int x3), .val (.int c8), .val (.int c9), .val (.int c10), .val (.int qq), .val (.ref b1), .val (.int r1), .val (.int r2), .val (.int (f1 m2)), .val (.int r1), .val (.int ((own_up f1 m2 p3) m3)), .val (.int r2), .unset] [(.int p2)])) _
              exact k
            · simp only [if_neg hd283] at k
              refine XS.icmpYes X9.here hx rfl (pc0 := 283) (pc' := 290) rfl (hb hby at_283) rfl (feq hd283).2 (by decide) (by decide) ?_
              show Steps p.tables e below (T9.setTop (mkF m 290 #[.val (.int p1), .val (.int p2), .val (.int p3), .val (.int p4), .val (.int p5), .val (.int x1), .val (.int x2), .val (.int x3), .val (.int c8), .val (.int c9), .val (.int c10), .val (.int qq), .val (.ref b1), .val (.int r1), .val (.int r2), .val (.int (f1 m2)), .val (.int r1), .val (.int ((own_up f1 m2 p3) m3)), .val (.int r2), .unset] [])) _
              refine XS.iconst X9.here hx rfl (hb hby at_290) ?_
              show Steps p.tables e below (T9.setTop (mkF m 291 #[.val (.int p1), .val (.int p2), .val (.int p3), .val (.int p4), .val (.int p5), .val (.int x1), .val (.int x2), .val (.int x3), .val (.int c8), .val (.int c9), .val (.int c10), .val (.int qq), .val (.ref b1), .val (.int r1), .val (.int r2), .val (.int (f1 m2)), .val (.int r1), .val (.int ((own_up f1 m2 p3) m3)), .val (.int r2), .unset] [(.int (-1 : Int32))])) _
              exact k
        · simp only [if_neg hd260] at k
          refine XS.ifNo X9.here hx rfl (hb hby at_260) rfl ((if0 _ _).trans (feq hd260).1) ?_
          show Steps p.tables e below (T9.setTop (mkF m 263 #[.val (.int p1), .val (.int p2), .val (.int p3), .val (.int p4), .val (.int p5), .val (.int x1), .val (.int x2), .val (.int x3), .val (.int c8), .val (.int c9), .val (.int c10), .val (.int qq), .val (.ref b1), .val (.int r1), .val (.int r2), .val (.int (f1 m2)), .val (.int r1), .val (.int ((own_up f1 m2 p3) m3)), .val (.int r2), .unset] [])) _
          refine XS.iload X9.here hx rfl (hb hby at_263) rfl ?_
          show Steps p.tables e below (T9.setTop (mkF m 265 #[.val (.int p1), .val (.int p2), .val (.int p3), .val (.int p4), .val (.int p5), .val (.int x1), .val (.int x2), .val (.int x3), .val (.int c8), .val (.int c9), .val (.int c10), .val (.int qq), .val (.ref b1), .val (.int r1), .val (.int r2), .val (.int (f1 m2)), .val (.int r1), .val (.int ((own_up f1 m2 p3) m3)), .val (.int r2), .unset] [(.int qq)])) _
          refine XS.iload X9.here hx rfl (hb hby at_265) rfl ?_
          show Steps p.tables e below (T9.setTop (mkF m 267 #[.val (.int p1), .val (.int p2), .val (.int p3), .val (.int p4), .val (.int p5), .val (.int x1), .val (.int x2), .val (.int x3), .val (.int c8), .val (.int c9), .val (.int c10), .val (.int qq), .val (.ref b1), .val (.int r1), .val (.int r2), .val (.int (f1 m2)), .val (.int r1), .val (.int ((own_up f1 m2 p3) m3)), .val (.int r2), .unset] [(.int x2), (.int qq)])) _
          by_cases hd267 : qq = x2
          · simp only [if_pos hd267] at k
            refine XS.icmpNo X9.here hx rfl (hb hby at_267) rfl (teq hd267).2 ?_
            show Steps p.tables e below (T9.setTop (mkF m 270 #[.val (.int p1), .val (.int p2), .val (.int p3), .val (.int p4), .val (.int p5), .val (.int x1), .val (.int x2), .val (.int x3), .val (.int c8), .val (.int c9), .val (.int c10), .val (.int qq), .val (.ref b1), .val (.int r1), .val (.int r2), .val (.int (f1 m2)), .val (.int r1), .val (.int ((own_up f1 m2 p3) m3)), .val (.int r2), .unset] [])) _
            refine XS.iloadN X9.here hx rfl (hb hby at_270) rfl ?_
            show Steps p.tables e below (T9.setTop (mkF m 271 #[.val (.int p1), .val (.int p2), .val (.int p3), .val (.int p4), .val (.int p5), .val (.int x1), .val (.int x2), .val (.int x3), .val (.int c8), .val (.int c9), .val (.int c10), .val (.int qq), .val (.ref b1), .val (.int r1), .val (.int r2), .val (.int (f1 m2)), .val (.int r1), .val (.int ((own_up f1 m2 p3) m3)), .val (.int r2), .unset] [(.int p3)])) _
            refine XS.goto X9.here hx rfl (pc0 := 271) (pc' := 291) rfl (hb hby at_271) (by decide) (by decide) ?_
            show Steps p.tables e below (T9.setTop (mkF m 291 #[.val (.int p1), .val (.int p2), .val (.int p3), .val (.int p4), .val (.int p5), .val (.int x1), .val (.int x2), .val (.int x3), .val (.int c8), .val (.int c9), .val (.int c10), .val (.int qq), .val (.ref b1), .val (.int r1), .val (.int r2), .val (.int (f1 m2)), .val (.int r1), .val (.int ((own_up f1 m2 p3) m3)), .val (.int r2), .unset] [(.int p3)])) _
            exact k
          · simp only [if_neg hd267] at k
            refine XS.icmpYes X9.here hx rfl (pc0 := 267) (pc' := 274) rfl (hb hby at_267) rfl (feq hd267).2 (by decide) (by decide) ?_
            show Steps p.tables e below (T9.setTop (mkF m 274 #[.val (.int p1), .val (.int p2), .val (.int p3), .val (.int p4), .val (.int p5), .val (.int x1), .val (.int x2), .val (.int x3), .val (.int c8), .val (.int c9), .val (.int c10), .val (.int qq), .val (.ref b1), .val (.int r1), .val (.int r2), .val (.int (f1 m2)), .val (.int r1), .val (.int ((own_up f1 m2 p3) m3)), .val (.int r2), .unset] [])) _
            refine XS.iload X9.here hx rfl (hb hby at_274) rfl ?_
            show Steps p.tables e below (T9.setTop (mkF m 276 #[.val (.int p1), .val (.int p2), .val (.int p3), .val (.int p4), .val (.int p5), .val (.int x1), .val (.int x2), .val (.int x3), .val (.int c8), .val (.int c9), .val (.int c10), .val (.int qq), .val (.ref b1), .val (.int r1), .val (.int r2), .val (.int (f1 m2)), .val (.int r1), .val (.int ((own_up f1 m2 p3) m3)), .val (.int r2), .unset] [(.int c8)])) _
            by_cases hd276 : c8 = (0 : Int32)
            · simp only [if_pos hd276] at k
              refine XS.ifYes X9.here hx rfl (pc0 := 276) (pc' := 290) rfl (hb hby at_276) rfl ((if0 _ _).trans (teq hd276).1) (by decide) (by decide) ?_
              show Steps p.tables e below (T9.setTop (mkF m 290 #[.val (.int p1), .val (.int p2), .val (.int p3), .val (.int p4), .val (.int p5), .val (.int x1), .val (.int x2), .val (.int x3), .val (.int c8), .val (.int c9), .val (.int c10), .val (.int qq), .val (.ref b1), .val (.int r1), .val (.int r2), .val (.int (f1 m2)), .val (.int r1), .val (.int ((own_up f1 m2 p3) m3)), .val (.int r2), .unset] [])) _
              refine XS.iconst X9.here hx rfl (hb hby at_290) ?_
              show Steps p.tables e below (T9.setTop (mkF m 291 #[.val (.int p1), .val (.int p2), .val (.int p3), .val (.int p4), .val (.int p5), .val (.int x1), .val (.int x2), .val (.int x3), .val (.int c8), .val (.int c9), .val (.int c10), .val (.int qq), .val (.ref b1), .val (.int r1), .val (.int r2), .val (.int (f1 m2)), .val (.int r1), .val (.int ((own_up f1 m2 p3) m3)), .val (.int r2), .unset] [(.int (-1 : Int32))])) _
              exact k
            · simp only [if_neg hd276] at k
              refine XS.ifNo X9.here hx rfl (hb hby at_276) rfl ((if0 _ _).trans (feq hd276).1) ?_
              show Steps p.tables e below (T9.setTop (mkF m 279 #[.val (.int p1), .val (.int p2), .val (.int p3), .val (.int p4), .val (.int p5), .val (.int x1), .val (.int x2), .val (.int x3), .val (.int c8), .val (.int c9), .val (.int c10), .val (.int qq), .val (.ref b1), .val (.int r1), .val (.int r2), .val (.int (f1 m2)), .val (.int r1), .val (.int ((own_up f1 m2 p3) m3)), .val (.int r2), .unset] [])) _
              refine XS.iload X9.here hx rfl (hb hby at_279) rfl ?_
              show Steps p.tables e below (T9.setTop (mkF m 281 #[.val (.int p1), .val (.int p2), .val (.int p3), .val (.int p4), .val (.int p5), .val (.int x1), .val (.int x2), .val (.int x3), .val (.int c8), .val (.int c9), .val (.int c10), .val (.int qq), .val (.ref b1), .val (.int r1), .val (.int r2), .val (.int (f1 m2)), .val (.int r1), .val (.int ((own_up f1 m2 p3) m3)), .val (.int r2), .unset] [(.int qq)])) _
              refine XS.iload X9.here hx rfl (hb hby at_281) rfl ?_
              show Steps p.tables e below (T9.setTop (mkF m 283 #[.val (.int p1), .val (.int p2), .val (.int p3), .val (.int p4), .val (.int p5), .val (.int x1), .val (.int x2), .val (.int x3), .val (.int c8), .val (.int c9), .val (.int c10), .val (.int qq), .val (.ref b1), .val (.int r1), .val (.int r2), .val (.int (f1 m2)), .val (.int r1), .val (.int ((own_up f1 m2 p3) m3)), .val (.int r2), .unset] [(.int x1), (.int qq)])) _
              by_cases hd283 : qq = x1
              · simp only [if_pos hd283] at k
                refine XS.icmpNo X9.here hx rfl (hb hby at_283) rfl (teq hd283).2 ?_
                show Steps p.tables e below (T9.setTop (mkF m 286 #[.val (.int p1), .val (.int p2), .val (.int p3), .val (.int p4), .val (.int p5), .val (.int x1), .val (.int x2), .val (.int x3), .val (.int c8), .val (.int c9), .val (.int c10), .val (.int qq), .val (.ref b1), .val (.int r1), .val (.int r2), .val (.int (f1 m2)), .val (.int r1), .val (.int ((own_up f1 m2 p3) m3)), .val (.int r2), .unset] [])) _
                refine XS.iloadN X9.here hx rfl (hb hby at_286) rfl ?_
                show Steps p.tables e below (T9.setTop (mkF m 287 #[.val (.int p1), .val (.int p2), .val (.int p3), .val (.int p4), .val (.int p5), .val (.int x1), .val (.int x2), .val (.int x3), .val (.int c8), .val (.int c9), .val (.int c10), .val (.int qq), .val (.ref b1), .val (.int r1), .val (.int r2), .val (.int (f1 m2)), .val (.int r1), .val (.int ((own_up f1 m2 p3) m3)), .val (.int r2), .unset] [(.int p2)])) _
                refine XS.goto X9.here hx rfl (pc0 := 287) (pc' := 291) rfl (hb hby at_287) (by decide) (by decide) ?_
                show Steps p.tables e below (T9.setTop (mkF m 291 #[.val (.int p1), .val (.int p2), .val (.int p3), .val (.int p4), .val (.int p5), .val (.int x1), .val (.int x2), .val (.int x3), .val (.int c8), .val (.int c9), .val (.int c10), .val (.int qq), .val (.ref b1), .val (.int r1), .val (.int r2), .val (.int (f1 m2)), .val (.int r1), .val (.int ((own_up f1 m2 p3) m3)), .val (.int r2), .unset] [(.int p2)])) _
                exact k
              · simp only [if_neg hd283] at k
                refine XS.icmpYes X9.here hx rfl (pc0 := 283) (pc' := 290) rfl (hb hby at_283) rfl (feq hd283).2 (by decide) (by decide) ?_
                show Steps p.tables e below (T9.setTop (mkF m 290 #[.val (.int p1), .val (.int p2), .val (.int p3), .val (.int p4), .val (.int p5), .val (.int x1), .val (.int x2), .val (.int x3), .val (.int c8), .val (.int c9), .val (.int c10), .val (.int qq), .val (.ref b1), .val (.int r1), .val (.int r2), .val (.int (f1 m2)), .val (.int r1), .val (.int ((own_up f1 m2 p3) m3)), .val (.int r2), .unset] [])) _
                refine XS.iconst X9.here hx rfl (hb hby at_290) ?_
                show Steps p.tables e below (T9.setTop (mkF m 291 #[.val (.int p1), .val (.int p2), .val (.int p3), .val (.int p4), .val (.int p5), .val (.int x1), .val (.int x2), .val (.int x3), .val (.int c8), .val (.int c9), .val (.int c10), .val (.int qq), .val (.ref b1), .val (.int r1), .val (.int r2), .val (.int (f1 m2)), .val (.int r1), .val (.int ((own_up f1 m2 p3) m3)), .val (.int r2), .unset] [(.int (-1 : Int32))])) _
                exact k
      · simp only [if_neg hd244] at k
        refine XS.ifNo X9.here hx rfl (hb hby at_244) rfl ((if0 _ _).trans (feq hd244).1) ?_
        show Steps p.tables e below (T9.setTop (mkF m 247 #[.val (.int p1), .val (.int p2), .val (.int p3), .val (.int p4), .val (.int p5), .val (.int x1), .val (.int x2), .val (.int x3), .val (.int c8), .val (.int c9), .val (.int c10), .val (.int qq), .val (.ref b1), .val (.int r1), .val (.int r2), .val (.int (f1 m2)), .val (.int r1), .val (.int ((own_up f1 m2 p3) m3)), .val (.int r2), .unset] [])) _
        refine XS.iload X9.here hx rfl (hb hby at_247) rfl ?_
        show Steps p.tables e below (T9.setTop (mkF m 249 #[.val (.int p1), .val (.int p2), .val (.int p3), .val (.int p4), .val (.int p5), .val (.int x1), .val (.int x2), .val (.int x3), .val (.int c8), .val (.int c9), .val (.int c10), .val (.int qq), .val (.ref b1), .val (.int r1), .val (.int r2), .val (.int (f1 m2)), .val (.int r1), .val (.int ((own_up f1 m2 p3) m3)), .val (.int r2), .unset] [(.int qq)])) _
        refine XS.iload X9.here hx rfl (hb hby at_249) rfl ?_
        show Steps p.tables e below (T9.setTop (mkF m 251 #[.val (.int p1), .val (.int p2), .val (.int p3), .val (.int p4), .val (.int p5), .val (.int x1), .val (.int x2), .val (.int x3), .val (.int c8), .val (.int c9), .val (.int c10), .val (.int qq), .val (.ref b1), .val (.int r1), .val (.int r2), .val (.int (f1 m2)), .val (.int r1), .val (.int ((own_up f1 m2 p3) m3)), .val (.int r2), .unset] [(.int x3), (.int qq)])) _
        by_cases hd251 : qq = x3
        · simp only [if_pos hd251] at k
          refine XS.icmpNo X9.here hx rfl (hb hby at_251) rfl (teq hd251).2 ?_
          show Steps p.tables e below (T9.setTop (mkF m 254 #[.val (.int p1), .val (.int p2), .val (.int p3), .val (.int p4), .val (.int p5), .val (.int x1), .val (.int x2), .val (.int x3), .val (.int c8), .val (.int c9), .val (.int c10), .val (.int qq), .val (.ref b1), .val (.int r1), .val (.int r2), .val (.int (f1 m2)), .val (.int r1), .val (.int ((own_up f1 m2 p3) m3)), .val (.int r2), .unset] [])) _
          refine XS.iloadN X9.here hx rfl (hb hby at_254) rfl ?_
          show Steps p.tables e below (T9.setTop (mkF m 255 #[.val (.int p1), .val (.int p2), .val (.int p3), .val (.int p4), .val (.int p5), .val (.int x1), .val (.int x2), .val (.int x3), .val (.int c8), .val (.int c9), .val (.int c10), .val (.int qq), .val (.ref b1), .val (.int r1), .val (.int r2), .val (.int (f1 m2)), .val (.int r1), .val (.int ((own_up f1 m2 p3) m3)), .val (.int r2), .unset] [(.int p4)])) _
          refine XS.goto X9.here hx rfl (pc0 := 255) (pc' := 291) rfl (hb hby at_255) (by decide) (by decide) ?_
          show Steps p.tables e below (T9.setTop (mkF m 291 #[.val (.int p1), .val (.int p2), .val (.int p3), .val (.int p4), .val (.int p5), .val (.int x1), .val (.int x2), .val (.int x3), .val (.int c8), .val (.int c9), .val (.int c10), .val (.int qq), .val (.ref b1), .val (.int r1), .val (.int r2), .val (.int (f1 m2)), .val (.int r1), .val (.int ((own_up f1 m2 p3) m3)), .val (.int r2), .unset] [(.int p4)])) _
          exact k
        · simp only [if_neg hd251] at k
          refine XS.icmpYes X9.here hx rfl (pc0 := 251) (pc' := 258) rfl (hb hby at_251) rfl (feq hd251).2 (by decide) (by decide) ?_
          show Steps p.tables e below (T9.setTop (mkF m 258 #[.val (.int p1), .val (.int p2), .val (.int p3), .val (.int p4), .val (.int p5), .val (.int x1), .val (.int x2), .val (.int x3), .val (.int c8), .val (.int c9), .val (.int c10), .val (.int qq), .val (.ref b1), .val (.int r1), .val (.int r2), .val (.int (f1 m2)), .val (.int r1), .val (.int ((own_up f1 m2 p3) m3)), .val (.int r2), .unset] [])) _
          refine XS.iload X9.here hx rfl (hb hby at_258) rfl ?_
          show Steps p.tables e below (T9.setTop (mkF m 260 #[.val (.int p1), .val (.int p2), .val (.int p3), .val (.int p4), .val (.int p5), .val (.int x1), .val (.int x2), .val (.int x3), .val (.int c8), .val (.int c9), .val (.int c10), .val (.int qq), .val (.ref b1), .val (.int r1), .val (.int r2), .val (.int (f1 m2)), .val (.int r1), .val (.int ((own_up f1 m2 p3) m3)), .val (.int r2), .unset] [(.int r1)])) _
          by_cases hd260 : r1 = (0 : Int32)
          · simp only [if_pos hd260] at k
            refine XS.ifYes X9.here hx rfl (pc0 := 260) (pc' := 274) rfl (hb hby at_260) rfl ((if0 _ _).trans (teq hd260).1) (by decide) (by decide) ?_
            show Steps p.tables e below (T9.setTop (mkF m 274 #[.val (.int p1), .val (.int p2), .val (.int p3), .val (.int p4), .val (.int p5), .val (.int x1), .val (.int x2), .val (.int x3), .val (.int c8), .val (.int c9), .val (.int c10), .val (.int qq), .val (.ref b1), .val (.int r1), .val (.int r2), .val (.int (f1 m2)), .val (.int r1), .val (.int ((own_up f1 m2 p3) m3)), .val (.int r2), .unset] [])) _
            refine XS.iload X9.here hx rfl (hb hby at_274) rfl ?_
            show Steps p.tables e below (T9.setTop (mkF m 276 #[.val (.int p1), .val (.int p2), .val (.int p3), .val (.int p4), .val (.int p5), .val (.int x1), .val (.int x2), .val (.int x3), .val (.int c8), .val (.int c9), .val (.int c10), .val (.int qq), .val (.ref b1), .val (.int r1), .val (.int r2), .val (.int (f1 m2)), .val (.int r1), .val (.int ((own_up f1 m2 p3) m3)), .val (.int r2), .unset] [(.int c8)])) _
            by_cases hd276 : c8 = (0 : Int32)
            · simp only [if_pos hd276] at k
              refine XS.ifYes X9.here hx rfl (pc0 := 276) (pc' := 290) rfl (hb hby at_276) rfl ((if0 _ _).trans (teq hd276).1) (by decide) (by decide) ?_
              show Steps p.tables e below (T9.setTop (mkF m 290 #[.val (.int p1), .val (.int p2), .val (.int p3), .val (.int p4), .val (.int p5), .val (.int x1), .val (.int x2), .val (.int x3), .val (.int c8), .val (.int c9), .val (.int c10), .val (.int qq), .val (.ref b1), .val (.int r1), .val (.int r2), .val (.int (f1 m2)), .val (.int r1), .val (.int ((own_up f1 m2 p3) m3)), .val (.int r2), .unset] [])) _
              refine XS.iconst X9.here hx rfl (hb hby at_290) ?_
              show Steps p.tables e below (T9.setTop (mkF m 291 #[.val (.int p1), .val (.int p2), .val (.int p3), .val (.int p4), .val (.int p5), .val (.int x1), .val (.int x2), .val (.int x3), .val (.int c8), .val (.int c9), .val (.int c10), .val (.int qq), .val (.ref b1), .val (.int r1), .val (.int r2), .val (.int (f1 m2)), .val (.int r1), .val (.int ((own_up f1 m2 p3) m3)), .val (.int r2), .unset] [(.int (-1 : Int32))])) _
              exact k
            · simp only [if_neg hd276] at k
              refine XS.ifNo X9.here hx rfl (hb hby at_276) rfl ((if0 _ _).trans (feq hd276).1) ?_
              show Steps p.tables e below (T9.setTop (mkF m 279 #[.val (.int p1), .val (.int p2), .val (.int p3), .val (.int p4), .val (.int p5), .val (.int x1), .val (.int x2), .val (.int x3), .val (.int c8), .val (.int c9), .val (.int c10), .val (.int qq), .val (.ref b1), .val (.int r1), .val (.int r2), .val (.int (f1 m2)), .val (.int r1), .val (.int ((own_up f1 m2 p3) m3)), .val (.int r2), .unset] [])) _
              refine XS.iload X9.here hx rfl (hb hby at_279) rfl ?_
              show Steps p.tables e below (T9.setTop (mkF m 281 #[.val (.int p1), .val (.int p2), .val (.int p3), .val (.int p4), .val (.int p5), .val (.int x1), .val (.int x2), .val (.int x3), .val (.int c8), .val (.int c9), .val (.int c10), .val (.int qq), .val (.ref b1), .val (.int r1), .val (.int r2), .val (.int (f1 m2)), .val (.int r1), .val (.int ((own_up f1 m2 p3) m3)), .val (.int r2), .unset] [(.int qq)])) _
              refine XS.iload X9.here hx rfl (hb hby at_281) rfl ?_
              show Steps p.tables e below (T9.setTop (mkF m 283 #[.val (.int p1), .val (.int p2), .val (.int p3), .val (.int p4), .val (.int p5), .val (.int x1), .val (.int x2), .val (.int x3), .val (.int c8), .val (.int c9), .val (.int c10), .val (.int qq), .val (.ref b1), .val (.int r1), .val (.int r2), .val (.int (f1 m2)), .val (.int r1), .val (.int ((own_up f1 m2 p3) m3)), .val (.int r2), .unset] [(.int x1), (.int qq)])) _
              by_cases hd283 : qq = x1
              · simp only [if_pos hd283] at k
                refine XS.icmpNo X9.here hx rfl (hb hby at_283) rfl (teq hd283).2 ?_
                show Steps p.tables e below (T9.setTop (mkF m 286 #[.val (.int p1), .val (.int p2), .val (.int p3), .val (.int p4), .val (.int p5), .val (.int x1), .val (.int x2), .val (.int x3), .val (.int c8), .val (.int c9), .val (.int c10), .val (.int qq), .val (.ref b1), .val (.int r1), .val (.int r2), .val (.int (f1 m2)), .val (.int r1), .val (.int ((own_up f1 m2 p3) m3)), .val (.int r2), .unset] [])) _
                refine XS.iloadN X9.here hx rfl (hb hby at_286) rfl ?_
                show Steps p.tables e below (T9.setTop (mkF m 287 #[.val (.int p1), .val (.int p2), .val (.int p3), .val (.int p4), .val (.int p5), .val (.int x1), .val (.int x2), .val (.int x3), .val (.int c8), .val (.int c9), .val (.int c10), .val (.int qq), .val (.ref b1), .val (.int r1), .val (.int r2), .val (.int (f1 m2)), .val (.int r1), .val (.int ((own_up f1 m2 p3) m3)), .val (.int r2), .unset] [(.int p2)])) _
                refine XS.goto X9.here hx rfl (pc0 := 287) (pc' := 291) rfl (hb hby at_287) (by decide) (by decide) ?_
                show Steps p.tables e below (T9.setTop (mkF m 291 #[.val (.int p1), .val (.int p2), .val (.int p3), .val (.int p4), .val (.int p5), .val (.int x1), .val (.int x2), .val (.int x3), .val (.int c8), .val (.int c9), .val (.int c10), .val (.int qq), .val (.ref b1), .val (.int r1), .val (.int r2), .val (.int (f1 m2)), .val (.int r1), .val (.int ((own_up f1 m2 p3) m3)), .val (.int r2), .unset] [(.int p2)])) _
                exact k
              · simp only [if_neg hd283] at k
                refine XS.icmpYes X9.here hx rfl (pc0 := 283) (pc' := 290) rfl (hb hby at_283) rfl (feq hd283).2 (by decide) (by decide) ?_
                show Steps p.tables e below (T9.setTop (mkF m 290 #[.val (.int p1), .val (.int p2), .val (.int p3), .val (.int p4), .val (.int p5), .val (.int x1), .val (.int x2), .val (.int x3), .val (.int c8), .val (.int c9), .val (.int c10), .val (.int qq), .val (.ref b1), .val (.int r1), .val (.int r2), .val (.int (f1 m2)), .val (.int r1), .val (.int ((own_up f1 m2 p3) m3)), .val (.int r2), .unset] [])) _
                refine XS.iconst X9.here hx rfl (hb hby at_290) ?_
                show Steps p.tables e below (T9.setTop (mkF m 291 #[.val (.int p1), .val (.int p2), .val (.int p3), .val (.int p4), .val (.int p5), .val (.int x1), .val (.int x2), .val (.int x3), .val (.int c8), .val (.int c9), .val (.int c10), .val (.int qq), .val (.ref b1), .val (.int r1), .val (.int r2), .val (.int (f1 m2)), .val (.int r1), .val (.int ((own_up f1 m2 p3) m3)), .val (.int r2), .unset] [(.int (-1 : Int32))])) _
                exact k
          · simp only [if_neg hd260] at k
            refine XS.ifNo X9.here hx rfl (hb hby at_260) rfl ((if0 _ _).trans (feq hd260).1) ?_
            show Steps p.tables e below (T9.setTop (mkF m 263 #[.val (.int p1), .val (.int p2), .val (.int p3), .val (.int p4), .val (.int p5), .val (.int x1), .val (.int x2), .val (.int x3), .val (.int c8), .val (.int c9), .val (.int c10), .val (.int qq), .val (.ref b1), .val (.int r1), .val (.int r2), .val (.int (f1 m2)), .val (.int r1), .val (.int ((own_up f1 m2 p3) m3)), .val (.int r2), .unset] [])) _
            refine XS.iload X9.here hx rfl (hb hby at_263) rfl ?_
            show Steps p.tables e below (T9.setTop (mkF m 265 #[.val (.int p1), .val (.int p2), .val (.int p3), .val (.int p4), .val (.int p5), .val (.int x1), .val (.int x2), .val (.int x3), .val (.int c8), .val (.int c9), .val (.int c10), .val (.int qq), .val (.ref b1), .val (.int r1), .val (.int r2), .val (.int (f1 m2)), .val (.int r1), .val (.int ((own_up f1 m2 p3) m3)), .val (.int r2), .unset] [(.int qq)])) _
            refine XS.iload X9.here hx rfl (hb hby at_265) rfl ?_
            show Steps p.tables e below (T9.setTop (mkF m 267 #[.val (.int p1), .val (.int p2), .val (.int p3), .val (.int p4), .val (.int p5), .val (.int x1), .val (.int x2), .val (.int x3), .val (.int c8), .val (.int c9), .val (.int c10), .val (.int qq), .val (.ref b1), .val (.int r1), .val (.int r2), .val (.int (f1 m2)), .val (.int r1), .val (.int ((own_up f1 m2 p3) m3)), .val (.int r2), .unset] [(.int x2), (.int qq)])) _
            by_cases hd267 : qq = x2
            · simp only [if_pos hd267] at k
              refine XS.icmpNo X9.here hx rfl (hb hby at_267) rfl (teq hd267).2 ?_
              show Steps p.tables e below (T9.setTop (mkF m 270 #[.val (.int p1), .val (.int p2), .val (.int p3), .val (.int p4), .val (.int p5), .val (.int x1), .val (.int x2), .val (.int x3), .val (.int c8), .val (.int c9), .val (.int c10), .val (.int qq), .val (.ref b1), .val (.int r1), .val (.int r2), .val (.int (f1 m2)), .val (.int r1), .val (.int ((own_up f1 m2 p3) m3)), .val (.int r2), .unset] [])) _
              refine XS.iloadN X9.here hx rfl (hb hby at_270) rfl ?_
              show Steps p.tables e below (T9.setTop (mkF m 271 #[.val (.int p1), .val (.int p2), .val (.int p3), .val (.int p4), .val (.int p5), .val (.int x1), .val (.int x2), .val (.int x3), .val (.int c8), .val (.int c9), .val (.int c10), .val (.int qq), .val (.ref b1), .val (.int r1), .val (.int r2), .val (.int (f1 m2)), .val (.int r1), .val (.int ((own_up f1 m2 p3) m3)), .val (.int r2), .unset] [(.int p3)])) _
              refine XS.goto X9.here hx rfl (pc0 := 271) (pc' := 291) rfl (hb hby at_271) (by decide) (by decide) ?_
              show Steps p.tables e below (T9.setTop (mkF m 291 #[.val (.int p1), .val (.int p2), .val (.int p3), .val (.int p4), .val (.int p5), .val (.int x1), .val (.int x2), .val (.int x3), .val (.int c8), .val (.int c9), .val (.int c10), .val (.int qq), .val (.ref b1), .val (.int r1), .val (.int r2), .val (.int (f1 m2)), .val (.int r1), .val (.int ((own_up f1 m2 p3) m3)), .val (.int r2), .unset] [(.int p3)])) _
              exact k
            · simp only [if_neg hd267] at k
              refine XS.icmpYes X9.here hx rfl (pc0 := 267) (pc' := 274) rfl (hb hby at_267) rfl (feq hd267).2 (by decide) (by decide) ?_
              show Steps p.tables e below (T9.setTop (mkF m 274 #[.val (.int p1), .val (.int p2), .val (.int p3), .val (.int p4), .val (.int p5), .val (.int x1), .val (.int x2), .val (.int x3), .val (.int c8), .val (.int c9), .val (.int c10), .val (.int qq), .val (.ref b1), .val (.int r1), .val (.int r2), .val (.int (f1 m2)), .val (.int r1), .val (.int ((own_up f1 m2 p3) m3)), .val (.int r2), .unset] [])) _
              refine XS.iload X9.here hx rfl (hb hby at_274) rfl ?_
              show Steps p.tables e below (T9.setTop (mkF m 276 #[.val (.int p1), .val (.int p2), .val (.int p3), .val (.int p4), .val (.int p5), .val (.int x1), .val (.int x2), .val (.int x3), .val (.int c8), .val (.int c9), .val (.int c10), .val (.int qq), .val (.ref b1), .val (.int r1), .val (.int r2), .val (.int (f1 m2)), .val (.int r1), .val (.int ((own_up f1 m2 p3) m3)), .val (.int r2), .unset] [(.int c8)])) _
              by_cases hd276 : c8 = (0 : Int32)
              · simp only [if_pos hd276] at k
                refine XS.ifYes X9.here hx rfl (pc0 := 276) (pc' := 290) rfl (hb hby at_276) rfl ((if0 _ _).trans (teq hd276).1) (by decide) (by decide) ?_
                show Steps p.tables e below (T9.setTop (mkF m 290 #[.val (.int p1), .val (.int p2), .val (.int p3), .val (.int p4), .val (.int p5), .val (.int x1), .val (.int x2), .val (.int x3), .val (.int c8), .val (.int c9), .val (.int c10), .val (.int qq), .val (.ref b1), .val (.int r1), .val (.int r2), .val (.int (f1 m2)), .val (.int r1), .val (.int ((own_up f1 m2 p3) m3)), .val (.int r2), .unset] [])) _
                refine XS.iconst X9.here hx rfl (hb hby at_290) ?_
                show Steps p.tables e below (T9.setTop (mkF m 291 #[.val (.int p1), .val (.int p2), .val (.int p3), .val (.int p4), .val (.int p5), .val (.int x1), .val (.int x2), .val (.int x3), .val (.int c8), .val (.int c9), .val (.int c10), .val (.int qq), .val (.ref b1), .val (.int r1), .val (.int r2), .val (.int (f1 m2)), .val (.int r1), .val (.int ((own_up f1 m2 p3) m3)), .val (.int r2), .unset] [(.int (-1 : Int32))])) _
                exact k
              · simp only [if_neg hd276] at k
                refine XS.ifNo X9.here hx rfl (hb hby at_276) rfl ((if0 _ _).trans (feq hd276).1) ?_
                show Steps p.tables e below (T9.setTop (mkF m 279 #[.val (.int p1), .val (.int p2), .val (.int p3), .val (.int p4), .val (.int p5), .val (.int x1), .val (.int x2), .val (.int x3), .val (.int c8), .val (.int c9), .val (.int c10), .val (.int qq), .val (.ref b1), .val (.int r1), .val (.int r2), .val (.int (f1 m2)), .val (.int r1), .val (.int ((own_up f1 m2 p3) m3)), .val (.int r2), .unset] [])) _
                refine XS.iload X9.here hx rfl (hb hby at_279) rfl ?_
                show Steps p.tables e below (T9.setTop (mkF m 281 #[.val (.int p1), .val (.int p2), .val (.int p3), .val (.int p4), .val (.int p5), .val (.int x1), .val (.int x2), .val (.int x3), .val (.int c8), .val (.int c9), .val (.int c10), .val (.int qq), .val (.ref b1), .val (.int r1), .val (.int r2), .val (.int (f1 m2)), .val (.int r1), .val (.int ((own_up f1 m2 p3) m3)), .val (.int r2), .unset] [(.int qq)])) _
                refine XS.iload X9.here hx rfl (hb hby at_281) rfl ?_
                show Steps p.tables e below (T9.setTop (mkF m 283 #[.val (.int p1), .val (.int p2), .val (.int p3), .val (.int p4), .val (.int p5), .val (.int x1), .val (.int x2), .val (.int x3), .val (.int c8), .val (.int c9), .val (.int c10), .val (.int qq), .val (.ref b1), .val (.int r1), .val (.int r2), .val (.int (f1 m2)), .val (.int r1), .val (.int ((own_up f1 m2 p3) m3)), .val (.int r2), .unset] [(.int x1), (.int qq)])) _
                by_cases hd283 : qq = x1
                · simp only [if_pos hd283] at k
                  refine XS.icmpNo X9.here hx rfl (hb hby at_283) rfl (teq hd283).2 ?_
                  show Steps p.tables e below (T9.setTop (mkF m 286 #[.val (.int p1), .val (.int p2), .val (.int p3), .val (.int p4), .val (.int p5), .val (.int x1), .val (.int x2), .val (.int x3), .val (.int c8), .val (.int c9), .val (.int c10), .val (.int qq), .val (.ref b1), .val (.int r1), .val (.int r2), .val (.int (f1 m2)), .val (.int r1), .val (.int ((own_up f1 m2 p3) m3)), .val (.int r2), .unset] [])) _
                  refine XS.iloadN X9.here hx rfl (hb hby at_286) rfl ?_
                  show Steps p.tables e below (T9.setTop (mkF m 287 #[.val (.int p1), .val (.int p2), .val (.int p3), .val (.int p4), .val (.int p5), .val (.int x1), .val (.int x2), .val (.int x3), .val (.int c8), .val (.int c9), .val (.int c10), .val (.int qq), .val (.ref b1), .val (.int r1), .val (.int r2), .val (.int (f1 m2)), .val (.int r1), .val (.int ((own_up f1 m2 p3) m3)), .val (.int r2), .unset] [(.int p2)])) _
                  refine XS.goto X9.here hx rfl (pc0 := 287) (pc' := 291) rfl (hb hby at_287) (by decide) (by decide) ?_
                  show Steps p.tables e below (T9.setTop (mkF m 291 #[.val (.int p1), .val (.int p2), .val (.int p3), .val (.int p4), .val (.int p5), .val (.int x1), .val (.int x2), .val (.int x3), .val (.int c8), .val (.int c9), .val (.int c10), .val (.int qq), .val (.ref b1), .val (.int r1), .val (.int r2), .val (.int (f1 m2)), .val (.int r1), .val (.int ((own_up f1 m2 p3) m3)), .val (.int r2), .unset] [(.int p2)])) _
                  exact k
                · simp only [if_neg hd283] at k
                  refine XS.icmpYes X9.here hx rfl (pc0 := 283) (pc' := 290) rfl (hb hby at_283) rfl (feq hd283).2 (by decide) (by decide) ?_
                  show Steps p.tables e below (T9.setTop (mkF m 290 #[.val (.int p1), .val (.int p2), .val (.int p3), .val (.int p4), .val (.int p5), .val (.int x1), .val (.int x2), .val (.int x3), .val (.int c8), .val (.int c9), .val (.int c10), .val (.int qq), .val (.ref b1), .val (.int r1), .val (.int r2), .val (.int (f1 m2)), .val (.int r1), .val (.int ((own_up f1 m2 p3) m3)), .val (.int r2), .unset] [])) _
                  refine XS.iconst X9.here hx rfl (hb hby at_290) ?_
                  show Steps p.tables e below (T9.setTop (mkF m 291 #[.val (.int p1), .val (.int p2), .val (.int p3), .val (.int p4), .val (.int p5), .val (.int x1), .val (.int x2), .val (.int x3), .val (.int c8), .val (.int c9), .val (.int c10), .val (.int qq), .val (.ref b1), .val (.int r1), .val (.int r2), .val (.int (f1 m2)), .val (.int r1), .val (.int ((own_up f1 m2 p3) m3)), .val (.int r2), .unset] [(.int (-1 : Int32))])) _
                  exact k
    refine own_go (U' := T9.setTop (mkF m 293 #[.val (.int p1), .val (.int p2), .val (.int p3), .val (.int p4), .val (.int p5), .val (.int x1), .val (.int x2), .val (.int x3), .val (.int c8), .val (.int c9), .val (.int c10), .val (.int qq), .val (.ref b1), .val (.int r1), .val (.int r2), .val (.int (f1 m2)), .val (.int r1), .val (.int ((own_up f1 m2 p3) m3)), .val (.int r2), .val (.int (if r2 = (0 : Int32) then (if r1 = (0 : Int32) then (if c8 = (0 : Int32) then (-1 : Int32) else (if qq = x1 then p2 else (-1 : Int32))) else (if qq = x2 then p3 else (if c8 = (0 : Int32) then (-1 : Int32) else (if qq = x1 then p2 else (-1 : Int32))))) else (if qq = x3 then p4 else (if r1 = (0 : Int32) then (if c8 = (0 : Int32) then (-1 : Int32) else (if qq = x1 then p2 else (-1 : Int32))) else (if qq = x2 then p3 else (if c8 = (0 : Int32) then (-1 : Int32) else (if qq = x1 then p2 else (-1 : Int32))))))))] [])) (fun t k => XS.istore X9.here hx rfl (hb hby at_291) rfl (l' := #[.val (.int p1), .val (.int p2), .val (.int p3), .val (.int p4), .val (.int p5), .val (.int x1), .val (.int x2), .val (.int x3), .val (.int c8), .val (.int c9), .val (.int c10), .val (.int qq), .val (.ref b1), .val (.int r1), .val (.int r2), .val (.int (f1 m2)), .val (.int r1), .val (.int ((own_up f1 m2 p3) m3)), .val (.int r2), .val (.int (if r2 = (0 : Int32) then (if r1 = (0 : Int32) then (if c8 = (0 : Int32) then (-1 : Int32) else (if qq = x1 then p2 else (-1 : Int32))) else (if qq = x2 then p3 else (if c8 = (0 : Int32) then (-1 : Int32) else (if qq = x1 then p2 else (-1 : Int32))))) else (if qq = x3 then p4 else (if r1 = (0 : Int32) then (if c8 = (0 : Int32) then (-1 : Int32) else (if qq = x1 then p2 else (-1 : Int32))) else (if qq = x2 then p3 else (if c8 = (0 : Int32) then (-1 : Int32) else (if qq = x1 then p2 else (-1 : Int32))))))))]) rfl k) ?_
    have en_x3 : (if r2 = (0 : Int32) then (if r1 = (0 : Int32) then (if c8 = (0 : Int32) then (-1 : Int32) else (if qq = x1 then p2 else (-1 : Int32))) else (if qq = x2 then p3 else (if c8 = (0 : Int32) then (-1 : Int32) else (if qq = x1 then p2 else (-1 : Int32))))) else (if qq = x3 then p4 else (if r1 = (0 : Int32) then (if c8 = (0 : Int32) then (-1 : Int32) else (if qq = x1 then p2 else (-1 : Int32))) else (if qq = x2 then p3 else (if c8 = (0 : Int32) then (-1 : Int32) else (if qq = x1 then p2 else (-1 : Int32))))))) = (own_up (own_up f1 m2 p3) m3 p4 qq.toNatClampNeg) := own_b2 qq3 hv_r2 (own_b2 qq2 hv_r1 (hbs _ _ qq1))
    rw [en_x3]
    refine own_go (U' := T9.setTop (mkF m 295 #[.val (.int p1), .val (.int p2), .val (.int p3), .val (.int p4), .val (.int p5), .val (.int x1), .val (.int x2), .val (.int x3), .val (.int c8), .val (.int c9), .val (.int c10), .val (.int qq), .val (.ref b1), .val (.int r1), .val (.int r2), .val (.int (f1 m2)), .val (.int r1), .val (.int ((own_up f1 m2 p3) m3)), .val (.int r2), .val (.int (own_up (own_up f1 m2 p3) m3 p4 qq.toNatClampNeg))] [(.int r1)])) (fun t k => XS.iload X9.here hx rfl (hb hby at_293) rfl k) ?_
    refine own_go (U' := T9.setTop (mkF m 297 #[.val (.int p1), .val (.int p2), .val (.int p3), .val (.int p4), .val (.int p5), .val (.int x1), .val (.int x2), .val (.int x3), .val (.int c8), .val (.int c9), .val (.int c10), .val (.int qq), .val (.ref b1), .val (.int r1), .val (.int r2), .val (.int (f1 m2)), .val (.int r1), .val (.int ((own_up f1 m2 p3) m3)), .val (.int r2), .val (.int (own_up (own_up f1 m2 p3) m3 p4 qq.toNatClampNeg))] [(.int r1), (.int r1)])) (fun t k => XS.iload X9.here hx rfl (hb hby at_295) rfl k) ?_
    refine own_go (U' := T9.setTop (mkF m 300 #[.val (.int p1), .val (.int p2), .val (.int p3), .val (.int p4), .val (.int p5), .val (.int x1), .val (.int x2), .val (.int x3), .val (.int c8), .val (.int c9), .val (.int c10), .val (.int qq), .val (.ref b1), .val (.int r1), .val (.int r2), .val (.int (f1 m2)), .val (.int r1), .val (.int ((own_up f1 m2 p3) m3)), .val (.int r2), .val (.int (own_up (own_up f1 m2 p3) m3 p4 qq.toNatClampNeg))] [])) (fun t k => XS.icmpNo X9.here hx rfl (hb hby at_297) rfl (teq rfl).2 k) ?_
    refine own_go (U' := T9.setTop (mkF m 302 #[.val (.int p1), .val (.int p2), .val (.int p3), .val (.int p4), .val (.int p5), .val (.int x1), .val (.int x2), .val (.int x3), .val (.int c8), .val (.int c9), .val (.int c10), .val (.int qq), .val (.ref b1), .val (.int r1), .val (.int r2), .val (.int (f1 m2)), .val (.int r1), .val (.int ((own_up f1 m2 p3) m3)), .val (.int r2), .val (.int (own_up (own_up f1 m2 p3) m3 p4 qq.toNatClampNeg))] [(.int r2)])) (fun t k => XS.iload X9.here hx rfl (hb hby at_300) rfl k) ?_
    refine own_go (U' := T9.setTop (mkF m 304 #[.val (.int p1), .val (.int p2), .val (.int p3), .val (.int p4), .val (.int p5), .val (.int x1), .val (.int x2), .val (.int x3), .val (.int c8), .val (.int c9), .val (.int c10), .val (.int qq), .val (.ref b1), .val (.int r1), .val (.int r2), .val (.int (f1 m2)), .val (.int r1), .val (.int ((own_up f1 m2 p3) m3)), .val (.int r2), .val (.int (own_up (own_up f1 m2 p3) m3 p4 qq.toNatClampNeg))] [(.int r2), (.int r2)])) (fun t k => XS.iload X9.here hx rfl (hb hby at_302) rfl k) ?_
    refine own_go (U' := T9.setTop (mkF m 307 #[.val (.int p1), .val (.int p2), .val (.int p3), .val (.int p4), .val (.int p5), .val (.int x1), .val (.int x2), .val (.int x3), .val (.int c8), .val (.int c9), .val (.int c10), .val (.int qq), .val (.ref b1), .val (.int r1), .val (.int r2), .val (.int (f1 m2)), .val (.int r1), .val (.int ((own_up f1 m2 p3) m3)), .val (.int r2), .val (.int (own_up (own_up f1 m2 p3) m3 p4 qq.toNatClampNeg))] [])) (fun t k => XS.icmpNo X9.here hx rfl (hb hby at_304) rfl (teq rfl).2 k) ?_
    refine own_go (U' := T9.setTop (mkF m 309 #[.val (.int p1), .val (.int p2), .val (.int p3), .val (.int p4), .val (.int p5), .val (.int x1), .val (.int x2), .val (.int x3), .val (.int c8), .val (.int c9), .val (.int c10), .val (.int qq), .val (.ref b1), .val (.int r1), .val (.int r2), .val (.int (f1 m2)), .val (.int r1), .val (.int ((own_up f1 m2 p3) m3)), .val (.int r2), .val (.int (own_up (own_up f1 m2 p3) m3 p4 qq.toNatClampNeg))] [(.ref b1)])) (fun t k => XS.aload X9.here hx rfl (hb hby at_307) rfl rfl k) ?_
    refine own_go (U' := T9.setTop (mkF m 311 #[.val (.int p1), .val (.int p2), .val (.int p3), .val (.int p4), .val (.int p5), .val (.int x1), .val (.int x2), .val (.int x3), .val (.int c8), .val (.int c9), .val (.int c10), .val (.int qq), .val (.ref b1), .val (.int r1), .val (.int r2), .val (.int (f1 m2)), .val (.int r1), .val (.int ((own_up f1 m2 p3) m3)), .val (.int r2), .val (.int (own_up (own_up f1 m2 p3) m3 p4 qq.toNatClampNeg))] [(.int qq), (.ref b1)])) (fun t k => XS.iload X9.here hx rfl (hb hby at_309) rfl k) ?_
    have E_b1 : Exa Z h9 b1 "com/example/obedient_dog/obedientdog/topologydiscovery/AgeLog" := by
      obtain ⟨_, _, _, _, _, _, _, _, _, _, _, _, _, F, -⟩ := hT
      exact F.1
    obtain ⟨v5, T5, h5, L5, e5, X5, hQ5, st5⟩ := own_callV X9 hx hZ (y := (⟨"com/example/obedient_dog/obedientdog/topologydiscovery/AgeLog", "age", "(I)I"⟩ : MethodName)) (z := (⟨"com/example/obedient_dog/obedientdog/topologydiscovery/AgeLog", "age", "(I)I"⟩ : MethodName)) hown (hw _ (List.mem_of_getElem? (i := 104) rfl)) (hw _ (List.mem_of_getElem? (i := 105) rfl)) (notFace_of_selects (args := #[]) (mvT hZ (hw _ (List.mem_of_getElem? (i := 107) rfl)))) (hw _ (List.mem_of_getElem? (i := 107) rfl)) (hw _ (List.mem_of_getElem? (i := 106) rfl)) (hw _ (List.mem_of_getElem? (i := 2) rfl)) (hw _ (List.mem_of_getElem? (i := 108) rfl)) (by decide) E_b1 (own_rmag l Z a0 hw b1 qq h9 n0 b2 ha al lt9 ag9 en9 se9 tb9 O J (by omega) hqq hT) (W := 0) (by decide) (by decide) (g := (mkF m 311 #[.val (.int p1), .val (.int p2), .val (.int p3), .val (.int p4), .val (.int p5), .val (.int x1), .val (.int x2), .val (.int x3), .val (.int c8), .val (.int c9), .val (.int c10), .val (.int qq), .val (.ref b1), .val (.int r1), .val (.int r2), .val (.int (f1 m2)), .val (.int r1), .val (.int ((own_up f1 m2 p3) m3)), .val (.int r2), .val (.int (own_up (own_up f1 m2 p3) m3 p4 qq.toNatClampNeg))] [(.int qq), (.ref b1)])) rfl (by rw [hml]; rfl) (argsL := [(.int qq)]) (rest := []) (lenOf own_pd0 rfl) rfl rfl (by show 2 * 0 + _ ≤ _; exact Nat.le_of_eq rfl) (hb hby at_311) e9 (by decide) (by decide)
    rw [hf] at hQ5
    obtain ⟨rfl, rfl, eh5⟩ := hQ5
    have e5 := e5.trans eh5
    rw [List.append_nil] at X5
    refine own_go (U' := T5.setTop (mkF m 314 #[.val (.int p1), .val (.int p2), .val (.int p3), .val (.int p4), .val (.int p5), .val (.int x1), .val (.int x2), .val (.int x3), .val (.int c8), .val (.int c9), .val (.int c10), .val (.int qq), .val (.ref b1), .val (.int r1), .val (.int r2), .val (.int (f1 m2)), .val (.int r1), .val (.int ((own_up f1 m2 p3) m3)), .val (.int r2), .val (.int (own_up (own_up f1 m2 p3) m3 p4 qq.toNatClampNeg))] [(.int (own_up (own_up f1 m2 p3) m3 p4 qq.toNatClampNeg))])) st5 ?_
    refine own_go (U' := T5.setTop (mkF m 316 #[.val (.int p1), .val (.int p2), .val (.int p3), .val (.int p4), .val (.int p5), .val (.int x1), .val (.int x2), .val (.int x3), .val (.int c8), .val (.int c9), .val (.int c10), .val (.int qq), .val (.ref b1), .val (.int r1), .val (.int r2), .val (.int (f1 m2)), .val (.int r1), .val (.int ((own_up f1 m2 p3) m3)), .val (.int r2), .val (.int (own_up (own_up f1 m2 p3) m3 p4 qq.toNatClampNeg))] [(.int (own_up (own_up f1 m2 p3) m3 p4 qq.toNatClampNeg)), (.int (own_up (own_up f1 m2 p3) m3 p4 qq.toNatClampNeg))])) (fun t k => XS.iload X5.here hx rfl (hb hby at_314) rfl k) ?_
    refine own_go (U' := T5.setTop (mkF m 319 #[.val (.int p1), .val (.int p2), .val (.int p3), .val (.int p4), .val (.int p5), .val (.int x1), .val (.int x2), .val (.int x3), .val (.int c8), .val (.int c9), .val (.int c10), .val (.int qq), .val (.ref b1), .val (.int r1), .val (.int r2), .val (.int (f1 m2)), .val (.int r1), .val (.int ((own_up f1 m2 p3) m3)), .val (.int r2), .val (.int (own_up (own_up f1 m2 p3) m3 p4 qq.toNatClampNeg))] [])) (fun t k => XS.icmpNo X5.here hx rfl (hb hby at_316) rfl (teq rfl).2 k) ?_
    refine own_go (U' := T5.setTop (mkF m 320 #[.val (.int p1), .val (.int p2), .val (.int p3), .val (.int p4), .val (.int p5), .val (.int x1), .val (.int x2), .val (.int x3), .val (.int c8), .val (.int c9), .val (.int c10), .val (.int qq), .val (.ref b1), .val (.int r1), .val (.int r2), .val (.int (f1 m2)), .val (.int r1), .val (.int ((own_up f1 m2 p3) m3)), .val (.int r2), .val (.int (own_up (own_up f1 m2 p3) m3 p4 qq.toNatClampNeg))] [(.int (1 : Int32))])) (fun t k => XS.iconst X5.here hx rfl (hb hby at_319) k) ?_
    refine own_go (U' := T5.setTop (mkF m 324 #[.val (.int p1), .val (.int p2), .val (.int p3), .val (.int p4), .val (.int p5), .val (.int x1), .val (.int x2), .val (.int x3), .val (.int c8), .val (.int c9), .val (.int c10), .val (.int qq), .val (.ref b1), .val (.int r1), .val (.int r2), .val (.int (f1 m2)), .val (.int r1), .val (.int ((own_up f1 m2 p3) m3)), .val (.int r2), .val (.int (own_up (own_up f1 m2 p3) m3 p4 qq.toNatClampNeg))] [(.int (1 : Int32))])) (fun t k => XS.goto X5.here hx rfl (pc0 := 320) (pc' := 324) rfl (hb hby at_320) (by decide) (by decide) k) ?_
    refine own_retN X5 hx (t := .boolean) hret (by simp) hlk (hb hby at_324) ?_ (by decide) (by decide)
    exact ⟨rfl, N9⟩
  by_cases hz8 : c8 = (0 : Int32)
  · refine own_go (U' := T4.setTop (mkF m 120 #[.val (.int p1), .val (.int p2), .val (.int p3), .val (.int p4), .val (.int p5), .val (.int x1), .val (.int x2), .val (.int x3), .val (.int c8), .val (.int c9), .val (.int c10), .val (.int qq), .val (.ref b1), .unset, .unset, .unset, .unset, .unset, .unset, .unset] [])) (fun t k => XS.ifYes X4.here hx rfl (pc0 := 109) (pc' := 120) rfl (hb hby at_109) rfl ((if0 _ _).trans (teq hz8).1) (by decide) (by decide) k) ?_
    refine own_go (U' := T4.setTop (mkF m 122 #[.val (.int p1), .val (.int p2), .val (.int p3), .val (.int p4), .val (.int p5), .val (.int x1), .val (.int x2), .val (.int x3), .val (.int c8), .val (.int c9), .val (.int c10), .val (.int qq), .val (.ref b1), .unset, .unset, .unset, .unset, .unset, .unset, .unset] [(.int c9)])) (fun t k => XS.iload X4.here hx rfl (hb hby at_120) rfl k) ?_
    by_cases hz9 : c9 = (0 : Int32)
    · refine own_go (U' := T4.setTop (mkF m 131 #[.val (.int p1), .val (.int p2), .val (.int p3), .val (.int p4), .val (.int p5), .val (.int x1), .val (.int x2), .val (.int x3), .val (.int c8), .val (.int c9), .val (.int c10), .val (.int qq), .val (.ref b1), .unset, .unset, .unset, .unset, .unset, .unset, .unset] [])) (fun t k => XS.ifYes X4.here hx rfl (pc0 := 122) (pc' := 131) rfl (hb hby at_122) rfl ((if0 _ _).trans (teq hz9).1) (by decide) (by decide) k) ?_
      refine own_go (U' := T4.setTop (mkF m 133 #[.val (.int p1), .val (.int p2), .val (.int p3), .val (.int p4), .val (.int p5), .val (.int x1), .val (.int x2), .val (.int x3), .val (.int c8), .val (.int c9), .val (.int c10), .val (.int qq), .val (.ref b1), .unset, .unset, .unset, .unset, .unset, .unset, .unset] [(.ref b1)])) (fun t k => XS.aload X4.here hx rfl (hb hby at_131) rfl rfl k) ?_
      refine own_go (U' := T4.setTop (mkF m 135 #[.val (.int p1), .val (.int p2), .val (.int p3), .val (.int p4), .val (.int p5), .val (.int x1), .val (.int x2), .val (.int x3), .val (.int c8), .val (.int c9), .val (.int c10), .val (.int qq), .val (.ref b1), .unset, .unset, .unset, .unset, .unset, .unset, .unset] [(.int x2), (.ref b1)])) (fun t k => XS.iload X4.here hx rfl (hb hby at_133) rfl k) ?_
      refine own_go (U' := T4.setTop (mkF m 136 #[.val (.int p1), .val (.int p2), .val (.int p3), .val (.int p4), .val (.int p5), .val (.int x1), .val (.int x2), .val (.int x3), .val (.int c8), .val (.int c9), .val (.int c10), .val (.int qq), .val (.ref b1), .unset, .unset, .unset, .unset, .unset, .unset, .unset] [(.int p3), (.int x2), (.ref b1)])) (fun t k => XS.iloadN X4.here hx rfl (hb hby at_135) rfl k) ?_
      have E_b1 : Exa Z h4 b1 "com/example/obedient_dog/obedientdog/topologydiscovery/AgeLog" := by
        obtain ⟨_, _, _, _, _, _, _, _, _, _, _, _, _, F, -⟩ := hT
        exact F.1
      obtain ⟨v6, T6, h6, L6, e6, X6, hQ6, st6⟩ := own_callV X4 hx hZ (y := (⟨"com/example/obedient_dog/obedientdog/topologydiscovery/AgeLog", "raise", "(II)Z"⟩ : MethodName)) (z := (⟨"com/example/obedient_dog/obedientdog/topologydiscovery/AgeLog", "raise", "(II)Z"⟩ : MethodName)) hown (hw _ (List.mem_of_getElem? (i := 71) rfl)) (hw _ (List.mem_of_getElem? (i := 72) rfl)) (notFace_of_selects (args := #[]) (mvT hZ (hw _ (List.mem_of_getElem? (i := 74) rfl)))) (hw _ (List.mem_of_getElem? (i := 74) rfl)) (hw _ (List.mem_of_getElem? (i := 73) rfl)) (hw _ (List.mem_of_getElem? (i := 2) rfl)) (hw _ (List.mem_of_getElem? (i := 75) rfl)) (by decide) E_b1 (own_rmr2 l Z a0 hw b1 x2 p3 h4 n0 b2 ha al (List.replicate 8 0) (List.replicate 8 (0 : Int32)) 0 0 .null O J (by omega) m2 (by omega) ex2 hT) (W := 0) (by decide) (by decide) (g := (mkF m 136 #[.val (.int p1), .val (.int p2), .val (.int p3), .val (.int p4), .val (.int p5), .val (.int x1), .val (.int x2), .val (.int x3), .val (.int c8), .val (.int c9), .val (.int c10), .val (.int qq), .val (.ref b1), .unset, .unset, .unset, .unset, .unset, .unset, .unset] [(.int p3), (.int x2), (.ref b1)])) rfl (by rw [hml]; rfl) (argsL := [(.int x2), (.int p3)]) (rest := []) (lenOf own_pd5 rfl) rfl rfl (by show 2 * 0 + _ ≤ _; exact Nat.le_of_eq rfl) (hb hby at_136) e4 (by decide) (by decide)
      rw [hf] at hQ6
      obtain ⟨lt1, ag1, en1, tb1, rfl, Nq, O, hT, J, hen1, hf⟩ := hQ6
      have N6 := Fr.app N4 Nq
      refine own_go (U' := T6.setTop (mkF m 139 #[.val (.int p1), .val (.int p2), .val (.int p3), .val (.int p4), .val (.int p5), .val (.int x1), .val (.int x2), .val (.int x3), .val (.int c8), .val (.int c9), .val (.int c10), .val (.int qq), .val (.ref b1), .unset, .unset, .unset, .unset, .unset, .unset, .unset] [(.int (if own_f0 m2 < p3 then (1 : Int32) else (0 : Int32)))])) st6 ?_
      generalize hv_r1 : (if own_f0 m2 < p3 then (1 : Int32) else (0 : Int32)) = r1
      refine own_go (U' := T6.setTop (mkF m 141 #[.val (.int p1), .val (.int p2), .val (.int p3), .val (.int p4), .val (.int p5), .val (.int x1), .val (.int x2), .val (.int x3), .val (.int c8), .val (.int c9), .val (.int c10), .val (.int qq), .val (.ref b1), .val (.int r1), .unset, .unset, .unset, .unset, .unset, .unset] [])) (fun t k => XS.istore X6.here hx rfl (hb hby at_139) rfl (l' := #[.val (.int p1), .val (.int p2), .val (.int p3), .val (.int p4), .val (.int p5), .val (.int x1), .val (.int x2), .val (.int x3), .val (.int c8), .val (.int c9), .val (.int c10), .val (.int qq), .val (.ref b1), .val (.int r1), .unset, .unset, .unset, .unset, .unset, .unset]) rfl k) ?_
      refine own_go (U' := T6.setTop (mkF m 143 #[.val (.int p1), .val (.int p2), .val (.int p3), .val (.int p4), .val (.int p5), .val (.int x1), .val (.int x2), .val (.int x3), .val (.int c8), .val (.int c9), .val (.int c10), .val (.int qq), .val (.ref b1), .val (.int r1), .unset, .unset, .unset, .unset, .unset, .unset] [(.int c10)])) (fun t k => XS.iload X6.here hx rfl (hb hby at_141) rfl k) ?_
      by_cases hz10 : c10 = (0 : Int32)
      · refine own_go (U' := T6.setTop (mkF m 152 #[.val (.int p1), .val (.int p2), .val (.int p3), .val (.int p4), .val (.int p5), .val (.int x1), .val (.int x2), .val (.int x3), .val (.int c8), .val (.int c9), .val (.int c10), .val (.int qq), .val (.ref b1), .val (.int r1), .unset, .unset, .unset, .unset, .unset, .unset] [])) (fun t k => XS.ifYes X6.here hx rfl (pc0 := 143) (pc' := 152) rfl (hb hby at_143) rfl ((if0 _ _).trans (teq hz10).1) (by decide) (by decide) k) ?_
        refine own_go (U' := T6.setTop (mkF m 154 #[.val (.int p1), .val (.int p2), .val (.int p3), .val (.int p4), .val (.int p5), .val (.int x1), .val (.int x2), .val (.int x3), .val (.int c8), .val (.int c9), .val (.int c10), .val (.int qq), .val (.ref b1), .val (.int r1), .unset, .unset, .unset, .unset, .unset, .unset] [(.ref b1)])) (fun t k => XS.aload X6.here hx rfl (hb hby at_152) rfl rfl k) ?_
        refine own_go (U' := T6.setTop (mkF m 156 #[.val (.int p1), .val (.int p2), .val (.int p3), .val (.int p4), .val (.int p5), .val (.int x1), .val (.int x2), .val (.int x3), .val (.int c8), .val (.int c9), .val (.int c10), .val (.int qq), .val (.ref b1), .val (.int r1), .unset, .unset, .unset, .unset, .unset, .unset] [(.int x3), (.ref b1)])) (fun t k => XS.iload X6.here hx rfl (hb hby at_154) rfl k) ?_
        refine own_go (U' := T6.setTop (mkF m 157 #[.val (.int p1), .val (.int p2), .val (.int p3), .val (.int p4), .val (.int p5), .val (.int x1), .val (.int x2), .val (.int x3), .val (.int c8), .val (.int c9), .val (.int c10), .val (.int qq), .val (.ref b1), .val (.int r1), .unset, .unset, .unset, .unset, .unset, .unset] [(.int p4), (.int x3), (.ref b1)])) (fun t k => XS.iloadN X6.here hx rfl (hb hby at_156) rfl k) ?_
        have E_b1 : Exa Z h6 b1 "com/example/obedient_dog/obedientdog/topologydiscovery/AgeLog" := by
          obtain ⟨_, _, _, _, _, _, _, _, _, _, _, _, _, F, -⟩ := hT
          exact F.1
        obtain ⟨v7, T7, h7, L7, e7, X7, hQ7, st7⟩ := own_callV X6 hx hZ (y := (⟨"com/example/obedient_dog/obedientdog/topologydiscovery/AgeLog", "raise", "(II)Z"⟩ : MethodName)) (z := (⟨"com/example/obedient_dog/obedientdog/topologydiscovery/AgeLog", "raise", "(II)Z"⟩ : MethodName)) hown (hw _ (List.mem_of_getElem? (i := 71) rfl)) (hw _ (List.mem_of_getElem? (i := 72) rfl)) (notFace_of_selects (args := #[]) (mvT hZ (hw _ (List.mem_of_getElem? (i := 74) rfl)))) (hw _ (List.mem_of_getElem? (i := 74) rfl)) (hw _ (List.mem_of_getElem? (i := 73) rfl)) (hw _ (List.mem_of_getElem? (i := 2) rfl)) (hw _ (List.mem_of_getElem? (i := 75) rfl)) (by decide) E_b1 (own_rmr2 l Z a0 hw b1 x3 p4 h6 n0 b2 ha al lt1 ag1 en1 0 tb1 O J (by omega) m3 (by omega) ex3 hT) (W := 0) (by decide) (by decide) (g := (mkF m 157 #[.val (.int p1), .val (.int p2), .val (.int p3), .val (.int p4), .val (.int p5), .val (.int x1), .val (.int x2), .val (.int x3), .val (.int c8), .val (.int c9), .val (.int c10), .val (.int qq), .val (.ref b1), .val (.int r1), .unset, .unset, .unset, .unset, .unset, .unset] [(.int p4), (.int x3), (.ref b1)])) rfl (by rw [hml]; rfl) (argsL := [(.int x3), (.int p4)]) (rest := []) (lenOf own_pd5 rfl) rfl rfl (by show 2 * 0 + _ ≤ _; exact Nat.le_of_eq rfl) (hb hby at_157) e6 (by decide) (by decide)
        rw [hf] at hQ7
        obtain ⟨lt2, ag2, en2, tb2, rfl, Nq, O, hT, J, hen2, hf⟩ := hQ7
        have N7 := Fr.app N6 Nq
        refine own_go (U' := T7.setTop (mkF m 160 #[.val (.int p1), .val (.int p2), .val (.int p3), .val (.int p4), .val (.int p5), .val (.int x1), .val (.int x2), .val (.int x3), .val (.int c8), .val (.int c9), .val (.int c10), .val (.int qq), .val (.ref b1), .val (.int r1), .unset, .unset, .unset, .unset, .unset, .unset] [(.int (if (own_up own_f0 m2 p3) m3 < p4 then (1 : Int32) else (0 : Int32)))])) st7 ?_
        generalize hv_r2 : (if (own_up own_f0 m2 p3) m3 < p4 then (1 : Int32) else (0 : Int32)) = r2
        refine own_go (U' := T7.setTop (mkF m 162 #[.val (.int p1), .val (.int p2), .val (.int p3), .val (.int p4), .val (.int p5), .val (.int x1), .val (.int x2), .val (.int x3), .val (.int c8), .val (.int c9), .val (.int c10), .val (.int qq), .val (.ref b1), .val (.int r1), .val (.int r2), .unset, .unset, .unset, .unset, .unset] [])) (fun t k => XS.istore X7.here hx rfl (hb hby at_160) rfl (l' := #[.val (.int p1), .val (.int p2), .val (.int p3), .val (.int p4), .val (.int p5), .val (.int x1), .val (.int x2), .val (.int x3), .val (.int c8), .val (.int c9), .val (.int c10), .val (.int qq), .val (.ref b1), .val (.int r1), .val (.int r2), .unset, .unset, .unset, .unset, .unset]) rfl k) ?_
        exact tail _ _ _ own_f0 _ _ _ _ _ _ _ (own_mono X7 (by decide) (by decide)) e7 N7 O hT J (by omega) hf hv_r1 hv_r2 (fun k P _ hP => own_b0' hz8)
      · refine own_go (U' := T6.setTop (mkF m 146 #[.val (.int p1), .val (.int p2), .val (.int p3), .val (.int p4), .val (.int p5), .val (.int x1), .val (.int x2), .val (.int x3), .val (.int c8), .val (.int c9), .val (.int c10), .val (.int qq), .val (.ref b1), .val (.int r1), .unset, .unset, .unset, .unset, .unset, .unset] [])) (fun t k => XS.ifNo X6.here hx rfl (hb hby at_143) rfl ((if0 _ _).trans (feq hz10).1) k) ?_
        refine own_go (U' := T6.setTop (mkF m 148 #[.val (.int p1), .val (.int p2), .val (.int p3), .val (.int p4), .val (.int p5), .val (.int x1), .val (.int x2), .val (.int x3), .val (.int c8), .val (.int c9), .val (.int c10), .val (.int qq), .val (.ref b1), .val (.int r1), .unset, .unset, .unset, .unset, .unset, .unset] [(.ref b1)])) (fun t k => XS.aload X6.here hx rfl (hb hby at_146) rfl rfl k) ?_
        have E_b1 : Exa Z h6 b1 "com/example/obedient_dog/obedientdog/topologydiscovery/AgeLog" := by
          obtain ⟨_, _, _, _, _, _, _, _, _, _, _, _, _, F, -⟩ := hT
          exact F.1
        obtain ⟨v8, T8, h8, L8, e8, X8, hQ8, st8⟩ := own_callV X6 hx hZ (y := (⟨"com/example/obedient_dog/obedientdog/topologydiscovery/AgeLog", "table", "()Lcom/example/obedient_dog/obedientdog/topologydiscovery/AgeTable;"⟩ : MethodName)) (z := (⟨"com/example/obedient_dog/obedientdog/topologydiscovery/AgeLog", "table", "()Lcom/example/obedient_dog/obedientdog/topologydiscovery/AgeTable;"⟩ : MethodName)) hown (hw _ (List.mem_of_getElem? (i := 143) rfl)) (hw _ (List.mem_of_getElem? (i := 144) rfl)) (notFace_of_selects (args := #[]) (mvT hZ (hw _ (List.mem_of_getElem? (i := 146) rfl)))) (hw _ (List.mem_of_getElem? (i := 146) rfl)) (hw _ (List.mem_of_getElem? (i := 145) rfl)) (hw _ (List.mem_of_getElem? (i := 2) rfl)) (hw _ (List.mem_of_getElem? (i := 147) rfl)) (by decide) E_b1 (own_rmt2 l Z a0 hw b1 h6 n0 b2 ha al lt1 ag1 en1 0 tb1 O J (by omega) hT) (W := 0) (by decide) (by decide) (g := (mkF m 148 #[.val (.int p1), .val (.int p2), .val (.int p3), .val (.int p4), .val (.int p5), .val (.int x1), .val (.int x2), .val (.int x3), .val (.int c8), .val (.int c9), .val (.int c10), .val (.int qq), .val (.ref b1), .val (.int r1), .unset, .unset, .unset, .unset, .unset, .unset] [(.ref b1)])) rfl (by rw [hml]; rfl) (argsL := []) (rest := []) (lenOf own_pd9 rfl) rfl rfl (by show 2 * 0 + _ ≤ _; exact Nat.le_of_eq rfl) (hb hby at_148) e6 (by decide) (by decide)
        obtain ⟨tt2, se2, rfl, Nq, O, hT, J⟩ := hQ8
        have N8 := Fr.app N6 Nq
        refine own_go (U' := T8.setTop (mkF m 151 #[.val (.int p1), .val (.int p2), .val (.int p3), .val (.int p4), .val (.int p5), .val (.int x1), .val (.int x2), .val (.int x3), .val (.int c8), .val (.int c9), .val (.int c10), .val (.int qq), .val (.ref b1), .val (.int r1), .unset, .unset, .unset, .unset, .unset, .unset] [(.ref tt2)])) st8 ?_
        refine own_go (U' := T8.setTop (mkF m 152 #[.val (.int p1), .val (.int p2), .val (.int p3), .val (.int p4), .val (.int p5), .val (.int x1), .val (.int x2), .val (.int x3), .val (.int c8), .val (.int c9), .val (.int c10), .val (.int qq), .val (.ref b1), .val (.int r1), .unset, .unset, .unset, .unset, .unset, .unset] [])) (fun t k => XS.pop X8.here hx rfl (hb hby at_151) rfl rfl k) ?_
        refine own_go (U' := T8.setTop (mkF m 154 #[.val (.int p1), .val (.int p2), .val (.int p3), .val (.int p4), .val (.int p5), .val (.int x1), .val (.int x2), .val (.int x3), .val (.int c8), .val (.int c9), .val (.int c10), .val (.int qq), .val (.ref b1), .val (.int r1), .unset, .unset, .unset, .unset, .unset, .unset] [(.ref b1)])) (fun t k => XS.aload X8.here hx rfl (hb hby at_152) rfl rfl k) ?_
        refine own_go (U' := T8.setTop (mkF m 156 #[.val (.int p1), .val (.int p2), .val (.int p3), .val (.int p4), .val (.int p5), .val (.int x1), .val (.int x2), .val (.int x3), .val (.int c8), .val (.int c9), .val (.int c10), .val (.int qq), .val (.ref b1), .val (.int r1), .unset, .unset, .unset, .unset, .unset, .unset] [(.int x3), (.ref b1)])) (fun t k => XS.iload X8.here hx rfl (hb hby at_154) rfl k) ?_
        refine own_go (U' := T8.setTop (mkF m 157 #[.val (.int p1), .val (.int p2), .val (.int p3), .val (.int p4), .val (.int p5), .val (.int x1), .val (.int x2), .val (.int x3), .val (.int c8), .val (.int c9), .val (.int c10), .val (.int qq), .val (.ref b1), .val (.int r1), .unset, .unset, .unset, .unset, .unset, .unset] [(.int p4), (.int x3), (.ref b1)])) (fun t k => XS.iloadN X8.here hx rfl (hb hby at_156) rfl k) ?_
        have E_b1 : Exa Z h8 b1 "com/example/obedient_dog/obedientdog/topologydiscovery/AgeLog" := by
          obtain ⟨_, _, _, _, _, _, _, _, _, _, _, _, _, F, -⟩ := hT
          exact F.1
        obtain ⟨v9, T9, h9, L9, e9, X9, hQ9, st9⟩ := own_callV X8 hx hZ (y := (⟨"com/example/obedient_dog/obedientdog/topologydiscovery/AgeLog", "raise", "(II)Z"⟩ : MethodName)) (z := (⟨"com/example/obedient_dog/obedientdog/topologydiscovery/AgeLog", "raise", "(II)Z"⟩ : MethodName)) hown (hw _ (List.mem_of_getElem? (i := 71) rfl)) (hw _ (List.mem_of_getElem? (i := 72) rfl)) (notFace_of_selects (args := #[]) (mvT hZ (hw _ (List.mem_of_getElem? (i := 74) rfl)))) (hw _ (List.mem_of_getElem? (i := 74) rfl)) (hw _ (List.mem_of_getElem? (i := 73) rfl)) (hw _ (List.mem_of_getElem? (i := 2) rfl)) (hw _ (List.mem_of_getElem? (i := 75) rfl)) (by decide) E_b1 (own_rmr2 l Z a0 hw b1 x3 p4 h8 n0 b2 ha al lt1 ag1 en1 se2 (.ref tt2) O J (by omega) m3 (by omega) ex3 hT) (W := 0) (by decide) (by decide) (g := (mkF m 157 #[.val (.int p1), .val (.int p2), .val (.int p3), .val (.int p4), .val (.int p5), .val (.int x1), .val (.int x2), .val (.int x3), .val (.int c8), .val (.int c9), .val (.int c10), .val (.int qq), .val (.ref b1), .val (.int r1), .unset, .unset, .unset, .unset, .unset, .unset] [(.int p4), (.int x3), (.ref b1)])) rfl (by rw [hml]; rfl) (argsL := [(.int x3), (.int p4)]) (rest := []) (lenOf own_pd5 rfl) rfl rfl (by show 2 * 0 + _ ≤ _; exact Nat.le_of_eq rfl) (hb hby at_157) e8 (by decide) (by decide)
        rw [hf] at hQ9
        obtain ⟨lt2, ag2, en2, tb2, rfl, Nq, O, hT, J, hen2, hf⟩ := hQ9
        have N9 := Fr.app N8 Nq
        refine own_go (U' := T9.setTop (mkF m 160 #[.val (.int p1), .val (.int p2), .val (.int p3), .val (.int p4), .val (.int p5), .val (.int x1), .val (.int x2), .val (.int x3), .val (.int c8), .val (.int c9), .val (.int c10), .val (.int qq), .val (.ref b1), .val (.int r1), .unset, .unset, .unset, .unset, .unset, .unset] [(.int (if (own_up own_f0 m2 p3) m3 < p4 then (1 : Int32) else (0 : Int32)))])) st9 ?_
        generalize hv_r2 : (if (own_up own_f0 m2 p3) m3 < p4 then (1 : Int32) else (0 : Int32)) = r2
        refine own_go (U' := T9.setTop (mkF m 162 #[.val (.int p1), .val (.int p2), .val (.int p3), .val (.int p4), .val (.int p5), .val (.int x1), .val (.int x2), .val (.int x3), .val (.int c8), .val (.int c9), .val (.int c10), .val (.int qq), .val (.ref b1), .val (.int r1), .val (.int r2), .unset, .unset, .unset, .unset, .unset] [])) (fun t k => XS.istore X9.here hx rfl (hb hby at_160) rfl (l' := #[.val (.int p1), .val (.int p2), .val (.int p3), .val (.int p4), .val (.int p5), .val (.int x1), .val (.int x2), .val (.int x3), .val (.int c8), .val (.int c9), .val (.int c10), .val (.int qq), .val (.ref b1), .val (.int r1), .val (.int r2), .unset, .unset, .unset, .unset, .unset]) rfl k) ?_
        exact tail _ _ _ own_f0 _ _ _ _ _ _ _ (own_mono X9 (by decide) (by decide)) e9 N9 O hT J (by omega) hf hv_r1 hv_r2 (fun k P _ hP => own_b0' hz8)
    · refine own_go (U' := T4.setTop (mkF m 125 #[.val (.int p1), .val (.int p2), .val (.int p3), .val (.int p4), .val (.int p5), .val (.int x1), .val (.int x2), .val (.int x3), .val (.int c8), .val (.int c9), .val (.int c10), .val (.int qq), .val (.ref b1), .unset, .unset, .unset, .unset, .unset, .unset, .unset] [])) (fun t k => XS.ifNo X4.here hx rfl (hb hby at_122) rfl ((if0 _ _).trans (feq hz9).1) k) ?_
      refine own_go (U' := T4.setTop (mkF m 127 #[.val (.int p1), .val (.int p2), .val (.int p3), .val (.int p4), .val (.int p5), .val (.int x1), .val (.int x2), .val (.int x3), .val (.int c8), .val (.int c9), .val (.int c10), .val (.int qq), .val (.ref b1), .unset, .unset, .unset, .unset, .unset, .unset, .unset] [(.ref b1)])) (fun t k => XS.aload X4.here hx rfl (hb hby at_125) rfl rfl k) ?_
      have E_b1 : Exa Z h4 b1 "com/example/obedient_dog/obedientdog/topologydiscovery/AgeLog" := by
        obtain ⟨_, _, _, _, _, _, _, _, _, _, _, _, _, F, -⟩ := hT
        exact F.1
      obtain ⟨v10, T10, h10, L10, e10, X10, hQ10, st10⟩ := own_callV X4 hx hZ (y := (⟨"com/example/obedient_dog/obedientdog/topologydiscovery/AgeLog", "table", "()Lcom/example/obedient_dog/obedientdog/topologydiscovery/AgeTable;"⟩ : MethodName)) (z := (⟨"com/example/obedient_dog/obedientdog/topologydiscovery/AgeLog", "table", "()Lcom/example/obedient_dog/obedientdog/topologydiscovery/AgeTable;"⟩ : MethodName)) hown (hw _ (List.mem_of_getElem? (i := 143) rfl)) (hw _ (List.mem_of_getElem? (i := 144) rfl)) (notFace_of_selects (args := #[]) (mvT hZ (hw _ (List.mem_of_getElem? (i := 146) rfl)))) (hw _ (List.mem_of_getElem? (i := 146) rfl)) (hw _ (List.mem_of_getElem? (i := 145) rfl)) (hw _ (List.mem_of_getElem? (i := 2) rfl)) (hw _ (List.mem_of_getElem? (i := 147) rfl)) (by decide) E_b1 (own_rmt2 l Z a0 hw b1 h4 n0 b2 ha al (List.replicate 8 0) (List.replicate 8 (0 : Int32)) 0 0 .null O J (by omega) hT) (W := 0) (by decide) (by decide) (g := (mkF m 127 #[.val (.int p1), .val (.int p2), .val (.int p3), .val (.int p4), .val (.int p5), .val (.int x1), .val (.int x2), .val (.int x3), .val (.int c8), .val (.int c9), .val (.int c10), .val (.int qq), .val (.ref b1), .unset, .unset, .unset, .unset, .unset, .unset, .unset] [(.ref b1)])) rfl (by rw [hml]; rfl) (argsL := []) (rest := []) (lenOf own_pd9 rfl) rfl rfl (by show 2 * 0 + _ ≤ _; exact Nat.le_of_eq rfl) (hb hby at_127) e4 (by decide) (by decide)
      obtain ⟨tt1, se1, rfl, Nq, O, hT, J⟩ := hQ10
      have N10 := Fr.app N4 Nq
      refine own_go (U' := T10.setTop (mkF m 130 #[.val (.int p1), .val (.int p2), .val (.int p3), .val (.int p4), .val (.int p5), .val (.int x1), .val (.int x2), .val (.int x3), .val (.int c8), .val (.int c9), .val (.int c10), .val (.int qq), .val (.ref b1), .unset, .unset, .unset, .unset, .unset, .unset, .unset] [(.ref tt1)])) st10 ?_
      refine own_go (U' := T10.setTop (mkF m 131 #[.val (.int p1), .val (.int p2), .val (.int p3), .val (.int p4), .val (.int p5), .val (.int x1), .val (.int x2), .val (.int x3), .val (.int c8), .val (.int c9), .val (.int c10), .val (.int qq), .val (.ref b1), .unset, .unset, .unset, .unset, .unset, .unset, .unset] [])) (fun t k => XS.pop X10.here hx rfl (hb hby at_130) rfl rfl k) ?_
      refine own_go (U' := T10.setTop (mkF m 133 #[.val (.int p1), .val (.int p2), .val (.int p3), .val (.int p4), .val (.int p5), .val (.int x1), .val (.int x2), .val (.int x3), .val (.int c8), .val (.int c9), .val (.int c10), .val (.int qq), .val (.ref b1), .unset, .unset, .unset, .unset, .unset, .unset, .unset] [(.ref b1)])) (fun t k => XS.aload X10.here hx rfl (hb hby at_131) rfl rfl k) ?_
      refine own_go (U' := T10.setTop (mkF m 135 #[.val (.int p1), .val (.int p2), .val (.int p3), .val (.int p4), .val (.int p5), .val (.int x1), .val (.int x2), .val (.int x3), .val (.int c8), .val (.int c9), .val (.int c10), .val (.int qq), .val (.ref b1), .unset, .unset, .unset, .unset, .unset, .unset, .unset] [(.int x2), (.ref b1)])) (fun t k => XS.iload X10.here hx rfl (hb hby at_133) rfl k) ?_
      refine own_go (U' := T10.setTop (mkF m 136 #[.val (.int p1), .val (.int p2), .val (.int p3), .val (.int p4), .val (.int p5), .val (.int x1), .val (.int x2), .val (.int x3), .val (.int c8), .val (.int c9), .val (.int c10), .val (.int qq), .val (.ref b1), .unset, .unset, .unset, .unset, .unset, .unset, .unset] [(.int p3), (.int x2), (.ref b1)])) (fun t k => XS.iloadN X10.here hx rfl (hb hby at_135) rfl k) ?_
      have E_b1 : Exa Z h10 b1 "com/example/obedient_dog/obedientdog/topologydiscovery/AgeLog" := by
        obtain ⟨_, _, _, _, _, _, _, _, _, _, _, _, _, F, -⟩ := hT
        exact F.1
      obtain ⟨v11, T11, h11, L11, e11, X11, hQ11, st11⟩ := own_callV X10 hx hZ (y := (⟨"com/example/obedient_dog/obedientdog/topologydiscovery/AgeLog", "raise", "(II)Z"⟩ : MethodName)) (z := (⟨"com/example/obedient_dog/obedientdog/topologydiscovery/AgeLog", "raise", "(II)Z"⟩ : MethodName)) hown (hw _ (List.mem_of_getElem? (i := 71) rfl)) (hw _ (List.mem_of_getElem? (i := 72) rfl)) (notFace_of_selects (args := #[]) (mvT hZ (hw _ (List.mem_of_getElem? (i := 74) rfl)))) (hw _ (List.mem_of_getElem? (i := 74) rfl)) (hw _ (List.mem_of_getElem? (i := 73) rfl)) (hw _ (List.mem_of_getElem? (i := 2) rfl)) (hw _ (List.mem_of_getElem? (i := 75) rfl)) (by decide) E_b1 (own_rmr2 l Z a0 hw b1 x2 p3 h10 n0 b2 ha al (List.replicate 8 0) (List.replicate 8 (0 : Int32)) 0 se1 (.ref tt1) O J (by omega) m2 (by omega) ex2 hT) (W := 0) (by decide) (by decide) (g := (mkF m 136 #[.val (.int p1), .val (.int p2), .val (.int p3), .val (.int p4), .val (.int p5), .val (.int x1), .val (.int x2), .val (.int x3), .val (.int c8), .val (.int c9), .val (.int c10), .val (.int qq), .val (.ref b1), .unset, .unset, .unset, .unset, .unset, .unset, .unset] [(.int p3), (.int x2), (.ref b1)])) rfl (by rw [hml]; rfl) (argsL := [(.int x2), (.int p3)]) (rest := []) (lenOf own_pd5 rfl) rfl rfl (by show 2 * 0 + _ ≤ _; exact Nat.le_of_eq rfl) (hb hby at_136) e10 (by decide) (by decide)
      rw [hf] at hQ11
      obtain ⟨lt1, ag1, en1, tb1, rfl, Nq, O, hT, J, hen1, hf⟩ := hQ11
      have N11 := Fr.app N10 Nq
      refine own_go (U' := T11.setTop (mkF m 139 #[.val (.int p1), .val (.int p2), .val (.int p3), .val (.int p4), .val (.int p5), .val (.int x1), .val (.int x2), .val (.int x3), .val (.int c8), .val (.int c9), .val (.int c10), .val (.int qq), .val (.ref b1), .unset, .unset, .unset, .unset, .unset, .unset, .unset] [(.int (if own_f0 m2 < p3 then (1 : Int32) else (0 : Int32)))])) st11 ?_
      generalize hv_r1 : (if own_f0 m2 < p3 then (1 : Int32) else (0 : Int32)) = r1
      refine own_go (U' := T11.setTop (mkF m 141 #[.val (.int p1), .val (.int p2), .val (.int p3), .val (.int p4), .val (.int p5), .val (.int x1), .val (.int x2), .val (.int x3), .val (.int c8), .val (.int c9), .val (.int c10), .val (.int qq), .val (.ref b1), .val (.int r1), .unset, .unset, .unset, .unset, .unset, .unset] [])) (fun t k => XS.istore X11.here hx rfl (hb hby at_139) rfl (l' := #[.val (.int p1), .val (.int p2), .val (.int p3), .val (.int p4), .val (.int p5), .val (.int x1), .val (.int x2), .val (.int x3), .val (.int c8), .val (.int c9), .val (.int c10), .val (.int qq), .val (.ref b1), .val (.int r1), .unset, .unset, .unset, .unset, .unset, .unset]) rfl k) ?_
      refine own_go (U' := T11.setTop (mkF m 143 #[.val (.int p1), .val (.int p2), .val (.int p3), .val (.int p4), .val (.int p5), .val (.int x1), .val (.int x2), .val (.int x3), .val (.int c8), .val (.int c9), .val (.int c10), .val (.int qq), .val (.ref b1), .val (.int r1), .unset, .unset, .unset, .unset, .unset, .unset] [(.int c10)])) (fun t k => XS.iload X11.here hx rfl (hb hby at_141) rfl k) ?_
      by_cases hz10 : c10 = (0 : Int32)
      · refine own_go (U' := T11.setTop (mkF m 152 #[.val (.int p1), .val (.int p2), .val (.int p3), .val (.int p4), .val (.int p5), .val (.int x1), .val (.int x2), .val (.int x3), .val (.int c8), .val (.int c9), .val (.int c10), .val (.int qq), .val (.ref b1), .val (.int r1), .unset, .unset, .unset, .unset, .unset, .unset] [])) (fun t k => XS.ifYes X11.here hx rfl (pc0 := 143) (pc' := 152) rfl (hb hby at_143) rfl ((if0 _ _).trans (teq hz10).1) (by decide) (by decide) k) ?_
        refine own_go (U' := T11.setTop (mkF m 154 #[.val (.int p1), .val (.int p2), .val (.int p3), .val (.int p4), .val (.int p5), .val (.int x1), .val (.int x2), .val (.int x3), .val (.int c8), .val (.int c9), .val (.int c10), .val (.int qq), .val (.ref b1), .val (.int r1), .unset, .unset, .unset, .unset, .unset, .unset] [(.ref b1)])) (fun t k => XS.aload X11.here hx rfl (hb hby at_152) rfl rfl k) ?_
        refine own_go (U' := T11.setTop (mkF m 156 #[.val (.int p1), .val (.int p2), .val (.int p3), .val (.int p4), .val (.int p5), .val (.int x1), .val (.int x2), .val (.int x3), .val (.int c8), .val (.int c9), .val (.int c10), .val (.int qq), .val (.ref b1), .val (.int r1), .unset, .unset, .unset, .unset, .unset, .unset] [(.int x3), (.ref b1)])) (fun t k => XS.iload X11.here hx rfl (hb hby at_154) rfl k) ?_
        refine own_go (U' := T11.setTop (mkF m 157 #[.val (.int p1), .val (.int p2), .val (.int p3), .val (.int p4), .val (.int p5), .val (.int x1), .val (.int x2), .val (.int x3), .val (.int c8), .val (.int c9), .val (.int c10), .val (.int qq), .val (.ref b1), .val (.int r1), .unset, .unset, .unset, .unset, .unset, .unset] [(.int p4), (.int x3), (.ref b1)])) (fun t k => XS.iloadN X11.here hx rfl (hb hby at_156) rfl k) ?_
        have E_b1 : Exa Z h11 b1 "com/example/obedient_dog/obedientdog/topologydiscovery/AgeLog" := by
          obtain ⟨_, _, _, _, _, _, _, _, _, _, _, _, _, F, -⟩ := hT
          exact F.1
        obtain ⟨v12, T12, h12, L12, e12, X12, hQ12, st12⟩ := own_callV X11 hx hZ (y := (⟨"com/example/obedient_dog/obedientdog/topologydiscovery/AgeLog", "raise", "(II)Z"⟩ : MethodName)) (z := (⟨"com/example/obedient_dog/obedientdog/topologydiscovery/AgeLog", "raise", "(II)Z"⟩ : MethodName)) hown (hw _ (List.mem_of_getElem? (i := 71) rfl)) (hw _ (List.mem_of_getElem? (i := 72) rfl)) (notFace_of_selects (args := #[]) (mvT hZ (hw _ (List.mem_of_getElem? (i := 74) rfl)))) (hw _ (List.mem_of_getElem? (i := 74) rfl)) (hw _ (List.mem_of_getElem? (i := 73) rfl)) (hw _ (List.mem_of_getElem? (i := 2) rfl)) (hw _ (List.mem_of_getElem? (i := 75) rfl)) (by decide) E_b1 (own_rmr2 l Z a0 hw b1 x3 p4 h11 n0 b2 ha al lt1 ag1 en1 se1 tb1 O J (by omega) m3 (by omega) ex3 hT) (W := 0) (by decide) (by decide) (g := (mkF m 157 #[.val (.int p1), .val (.int p2), .val (.int p3), .val (.int p4), .val (.int p5), .val (.int x1), .val (.int x2), .val (.int x3), .val (.int c8), .val (.int c9), .val (.int c10), .val (.int qq), .val (.ref b1), .val (.int r1), .unset, .unset, .unset, .unset, .unset, .unset] [(.int p4), (.int x3), (.ref b1)])) rfl (by rw [hml]; rfl) (argsL := [(.int x3), (.int p4)]) (rest := []) (lenOf own_pd5 rfl) rfl rfl (by show 2 * 0 + _ ≤ _; exact Nat.le_of_eq rfl) (hb hby at_157) e11 (by decide) (by decide)
        rw [hf] at hQ12
        obtain ⟨lt2, ag2, en2, tb2, rfl, Nq, O, hT, J, hen2, hf⟩ := hQ12
        have N12 := Fr.app N11 Nq
        refine own_go (U' := T12.setTop (mkF m 160 #[.val (.int p1), .val (.int p2), .val (.int p3), .val (.int p4), .val (.int p5), .val (.int x1), .val (.int x2), .val (.int x3), .val (.int c8), .val (.int c9), .val (.int c10), .val (.int qq), .val (.ref b1), .val (.int r1), .unset, .unset, .unset, .unset, .unset, .unset] [(.int (if (own_up own_f0 m2 p3) m3 < p4 then (1 : Int32) else (0 : Int32)))])) st12 ?_
        generalize hv_r2 : (if (own_up own_f0 m2 p3) m3 < p4 then (1 : Int32) else (0 : Int32)) = r2
        refine own_go (U' := T12.setTop (mkF m 162 #[.val (.int p1), .val (.int p2), .val (.int p3), .val (.int p4), .val (.int p5), .val (.int x1), .val (.int x2), .val (.int x3), .val (.int c8), .val (.int c9), .val (.int c10), .val (.int qq), .val (.ref b1), .val (.int r1), .val (.int r2), .unset, .unset, .unset, .unset, .unset] [])) (fun t k => XS.istore X12.here hx rfl (hb hby at_160) rfl (l' := #[.val (.int p1), .val (.int p2), .val (.int p3), .val (.int p4), .val (.int p5), .val (.int x1), .val (.int x2), .val (.int x3), .val (.int c8), .val (.int c9), .val (.int c10), .val (.int qq), .val (.ref b1), .val (.int r1), .val (.int r2), .unset, .unset, .unset, .unset, .unset]) rfl k) ?_
        exact tail _ _ _ own_f0 _ _ _ _ _ _ _ (own_mono X12 (by decide) (by decide)) e12 N12 O hT J (by omega) hf hv_r1 hv_r2 (fun k P _ hP => own_b0' hz8)
      · refine own_go (U' := T11.setTop (mkF m 146 #[.val (.int p1), .val (.int p2), .val (.int p3), .val (.int p4), .val (.int p5), .val (.int x1), .val (.int x2), .val (.int x3), .val (.int c8), .val (.int c9), .val (.int c10), .val (.int qq), .val (.ref b1), .val (.int r1), .unset, .unset, .unset, .unset, .unset, .unset] [])) (fun t k => XS.ifNo X11.here hx rfl (hb hby at_143) rfl ((if0 _ _).trans (feq hz10).1) k) ?_
        refine own_go (U' := T11.setTop (mkF m 148 #[.val (.int p1), .val (.int p2), .val (.int p3), .val (.int p4), .val (.int p5), .val (.int x1), .val (.int x2), .val (.int x3), .val (.int c8), .val (.int c9), .val (.int c10), .val (.int qq), .val (.ref b1), .val (.int r1), .unset, .unset, .unset, .unset, .unset, .unset] [(.ref b1)])) (fun t k => XS.aload X11.here hx rfl (hb hby at_146) rfl rfl k) ?_
        have E_b1 : Exa Z h11 b1 "com/example/obedient_dog/obedientdog/topologydiscovery/AgeLog" := by
          obtain ⟨_, _, _, _, _, _, _, _, _, _, _, _, _, F, -⟩ := hT
          exact F.1
        obtain ⟨v13, T13, h13, L13, e13, X13, hQ13, st13⟩ := own_callV X11 hx hZ (y := (⟨"com/example/obedient_dog/obedientdog/topologydiscovery/AgeLog", "table", "()Lcom/example/obedient_dog/obedientdog/topologydiscovery/AgeTable;"⟩ : MethodName)) (z := (⟨"com/example/obedient_dog/obedientdog/topologydiscovery/AgeLog", "table", "()Lcom/example/obedient_dog/obedientdog/topologydiscovery/AgeTable;"⟩ : MethodName)) hown (hw _ (List.mem_of_getElem? (i := 143) rfl)) (hw _ (List.mem_of_getElem? (i := 144) rfl)) (notFace_of_selects (args := #[]) (mvT hZ (hw _ (List.mem_of_getElem? (i := 146) rfl)))) (hw _ (List.mem_of_getElem? (i := 146) rfl)) (hw _ (List.mem_of_getElem? (i := 145) rfl)) (hw _ (List.mem_of_getElem? (i := 2) rfl)) (hw _ (List.mem_of_getElem? (i := 147) rfl)) (by decide) E_b1 (own_rmt2 l Z a0 hw b1 h11 n0 b2 ha al lt1 ag1 en1 se1 tb1 O J (by omega) hT) (W := 0) (by decide) (by decide) (g := (mkF m 148 #[.val (.int p1), .val (.int p2), .val (.int p3), .val (.int p4), .val (.int p5), .val (.int x1), .val (.int x2), .val (.int x3), .val (.int c8), .val (.int c9), .val (.int c10), .val (.int qq), .val (.ref b1), .val (.int r1), .unset, .unset, .unset, .unset, .unset, .unset] [(.ref b1)])) rfl (by rw [hml]; rfl) (argsL := []) (rest := []) (lenOf own_pd9 rfl) rfl rfl (by show 2 * 0 + _ ≤ _; exact Nat.le_of_eq rfl) (hb hby at_148) e11 (by decide) (by decide)
        obtain ⟨tt2, se2, rfl, Nq, O, hT, J⟩ := hQ13
        have N13 := Fr.app N11 Nq
        refine own_go (U' := T13.setTop (mkF m 151 #[.val (.int p1), .val (.int p2), .val (.int p3), .val (.int p4), .val (.int p5), .val (.int x1), .val (.int x2), .val (.int x3), .val (.int c8), .val (.int c9), .val (.int c10), .val (.int qq), .val (.ref b1), .val (.int r1), .unset, .unset, .unset, .unset, .unset, .unset] [(.ref tt2)])) st13 ?_
        refine own_go (U' := T13.setTop (mkF m 152 #[.val (.int p1), .val (.int p2), .val (.int p3), .val (.int p4), .val (.int p5), .val (.int x1), .val (.int x2), .val (.int x3), .val (.int c8), .val (.int c9), .val (.int c10), .val (.int qq), .val (.ref b1), .val (.int r1), .unset, .unset, .unset, .unset, .unset, .unset] [])) (fun t k => XS.pop X13.here hx rfl (hb hby at_151) rfl rfl k) ?_
        refine own_go (U' := T13.setTop (mkF m 154 #[.val (.int p1), .val (.int p2), .val (.int p3), .val (.int p4), .val (.int p5), .val (.int x1), .val (.int x2), .val (.int x3), .val (.int c8), .val (.int c9), .val (.int c10), .val (.int qq), .val (.ref b1), .val (.int r1), .unset, .unset, .unset, .unset, .unset, .unset] [(.ref b1)])) (fun t k => XS.aload X13.here hx rfl (hb hby at_152) rfl rfl k) ?_
        refine own_go (U' := T13.setTop (mkF m 156 #[.val (.int p1), .val (.int p2), .val (.int p3), .val (.int p4), .val (.int p5), .val (.int x1), .val (.int x2), .val (.int x3), .val (.int c8), .val (.int c9), .val (.int c10), .val (.int qq), .val (.ref b1), .val (.int r1), .unset, .unset, .unset, .unset, .unset, .unset] [(.int x3), (.ref b1)])) (fun t k => XS.iload X13.here hx rfl (hb hby at_154) rfl k) ?_
        refine own_go (U' := T13.setTop (mkF m 157 #[.val (.int p1), .val (.int p2), .val (.int p3), .val (.int p4), .val (.int p5), .val (.int x1), .val (.int x2), .val (.int x3), .val (.int c8), .val (.int c9), .val (.int c10), .val (.int qq), .val (.ref b1), .val (.int r1), .unset, .unset, .unset, .unset, .unset, .unset] [(.int p4), (.int x3), (.ref b1)])) (fun t k => XS.iloadN X13.here hx rfl (hb hby at_156) rfl k) ?_
        have E_b1 : Exa Z h13 b1 "com/example/obedient_dog/obedientdog/topologydiscovery/AgeLog" := by
          obtain ⟨_, _, _, _, _, _, _, _, _, _, _, _, _, F, -⟩ := hT
          exact F.1
        obtain ⟨v14, T14, h14, L14, e14, X14, hQ14, st14⟩ := own_callV X13 hx hZ (y := (⟨"com/example/obedient_dog/obedientdog/topologydiscovery/AgeLog", "raise", "(II)Z"⟩ : MethodName)) (z := (⟨"com/example/obedient_dog/obedientdog/topologydiscovery/AgeLog", "raise", "(II)Z"⟩ : MethodName)) hown (hw _ (List.mem_of_getElem? (i := 71) rfl)) (hw _ (List.mem_of_getElem? (i := 72) rfl)) (notFace_of_selects (args := #[]) (mvT hZ (hw _ (List.mem_of_getElem? (i := 74) rfl)))) (hw _ (List.mem_of_getElem? (i := 74) rfl)) (hw _ (List.mem_of_getElem? (i := 73) rfl)) (hw _ (List.mem_of_getElem? (i := 2) rfl)) (hw _ (List.mem_of_getElem? (i := 75) rfl)) (by decide) E_b1 (own_rmr2 l Z a0 hw b1 x3 p4 h13 n0 b2 ha al lt1 ag1 en1 se2 (.ref tt2) O J (by omega) m3 (by omega) ex3 hT) (W := 0) (by decide) (by decide) (g := (mkF m 157 #[.val (.int p1), .val (.int p2), .val (.int p3), .val (.int p4), .val (.int p5), .val (.int x1), .val (.int x2), .val (.int x3), .val (.int c8), .val (.int c9), .val (.int c10), .val (.int qq), .val (.ref b1), .val (.int r1), .unset, .unset, .unset, .unset, .unset, .unset] [(.int p4), (.int x3), (.ref b1)])) rfl (by rw [hml]; rfl) (argsL := [(.int x3), (.int p4)]) (rest := []) (lenOf own_pd5 rfl) rfl rfl (by show 2 * 0 + _ ≤ _; exact Nat.le_of_eq rfl) (hb hby at_157) e13 (by decide) (by decide)
        rw [hf] at hQ14
        obtain ⟨lt2, ag2, en2, tb2, rfl, Nq, O, hT, J, hen2, hf⟩ := hQ14
        have N14 := Fr.app N13 Nq
        refine own_go (U' := T14.setTop (mkF m 160 #[.val (.int p1), .val (.int p2), .val (.int p3), .val (.int p4), .val (.int p5), .val (.int x1), .val (.int x2), .val (.int x3), .val (.int c8), .val (.int c9), .val (.int c10), .val (.int qq), .val (.ref b1), .val (.int r1), .unset, .unset, .unset, .unset, .unset, .unset] [(.int (if (own_up own_f0 m2 p3) m3 < p4 then (1 : Int32) else (0 : Int32)))])) st14 ?_
        generalize hv_r2 : (if (own_up own_f0 m2 p3) m3 < p4 then (1 : Int32) else (0 : Int32)) = r2
        refine own_go (U' := T14.setTop (mkF m 162 #[.val (.int p1), .val (.int p2), .val (.int p3), .val (.int p4), .val (.int p5), .val (.int x1), .val (.int x2), .val (.int x3), .val (.int c8), .val (.int c9), .val (.int c10), .val (.int qq), .val (.ref b1), .val (.int r1), .val (.int r2), .unset, .unset, .unset, .unset, .unset] [])) (fun t k => XS.istore X14.here hx rfl (hb hby at_160) rfl (l' := #[.val (.int p1), .val (.int p2), .val (.int p3), .val (.int p4), .val (.int p5), .val (.int x1), .val (.int x2), .val (.int x3), .val (.int c8), .val (.int c9), .val (.int c10), .val (.int qq), .val (.ref b1), .val (.int r1), .val (.int r2), .unset, .unset, .unset, .unset, .unset]) rfl k) ?_
        exact tail _ _ _ own_f0 _ _ _ _ _ _ _ (own_mono X14 (by decide) (by decide)) e14 N14 O hT J (by omega) hf hv_r1 hv_r2 (fun k P _ hP => own_b0' hz8)
  · refine own_go (U' := T4.setTop (mkF m 112 #[.val (.int p1), .val (.int p2), .val (.int p3), .val (.int p4), .val (.int p5), .val (.int x1), .val (.int x2), .val (.int x3), .val (.int c8), .val (.int c9), .val (.int c10), .val (.int qq), .val (.ref b1), .unset, .unset, .unset, .unset, .unset, .unset, .unset] [])) (fun t k => XS.ifNo X4.here hx rfl (hb hby at_109) rfl ((if0 _ _).trans (feq hz8).1) k) ?_
    refine own_go (U' := T4.setTop (mkF m 114 #[.val (.int p1), .val (.int p2), .val (.int p3), .val (.int p4), .val (.int p5), .val (.int x1), .val (.int x2), .val (.int x3), .val (.int c8), .val (.int c9), .val (.int c10), .val (.int qq), .val (.ref b1), .unset, .unset, .unset, .unset, .unset, .unset, .unset] [(.ref b1)])) (fun t k => XS.aload X4.here hx rfl (hb hby at_112) rfl rfl k) ?_
    refine own_go (U' := T4.setTop (mkF m 116 #[.val (.int p1), .val (.int p2), .val (.int p3), .val (.int p4), .val (.int p5), .val (.int x1), .val (.int x2), .val (.int x3), .val (.int c8), .val (.int c9), .val (.int c10), .val (.int qq), .val (.ref b1), .unset, .unset, .unset, .unset, .unset, .unset, .unset] [(.int x1), (.ref b1)])) (fun t k => XS.iload X4.here hx rfl (hb hby at_114) rfl k) ?_
    refine own_go (U' := T4.setTop (mkF m 117 #[.val (.int p1), .val (.int p2), .val (.int p3), .val (.int p4), .val (.int p5), .val (.int x1), .val (.int x2), .val (.int x3), .val (.int c8), .val (.int c9), .val (.int c10), .val (.int qq), .val (.ref b1), .unset, .unset, .unset, .unset, .unset, .unset, .unset] [(.int p2), (.int x1), (.ref b1)])) (fun t k => XS.iloadN X4.here hx rfl (hb hby at_116) rfl k) ?_
    have E_b1 : Exa Z h4 b1 "com/example/obedient_dog/obedientdog/topologydiscovery/AgeLog" := by
      obtain ⟨_, _, _, _, _, _, _, _, _, _, _, _, _, F, -⟩ := hT
      exact F.1
    obtain ⟨v15, T15, h15, L15, e15, X15, hQ15, st15⟩ := own_callV X4 hx hZ (y := (⟨"com/example/obedient_dog/obedientdog/topologydiscovery/AgeLog", "add", "(II)V"⟩ : MethodName)) (z := (⟨"com/example/obedient_dog/obedientdog/topologydiscovery/AgeLog", "add", "(II)V"⟩ : MethodName)) hown (hw _ (List.mem_of_getElem? (i := 142) rfl)) (hw _ (List.mem_of_getElem? (i := 77) rfl)) (notFace_of_selects (args := #[]) (mvT hZ (hw _ (List.mem_of_getElem? (i := 79) rfl)))) (hw _ (List.mem_of_getElem? (i := 79) rfl)) (hw _ (List.mem_of_getElem? (i := 78) rfl)) (hw _ (List.mem_of_getElem? (i := 2) rfl)) (hw _ (List.mem_of_getElem? (i := 80) rfl)) (by decide) E_b1 (own_rma2 l Z a0 hw b1 x1 p2 h4 n0 b2 ha al (List.replicate 8 0) (List.replicate 8 (0 : Int32)) 0 0 .null O J (by omega) m1 (by omega) ex1 hT) (W := 0) (by decide) (by decide) (g := (mkF m 117 #[.val (.int p1), .val (.int p2), .val (.int p3), .val (.int p4), .val (.int p5), .val (.int x1), .val (.int x2), .val (.int x3), .val (.int c8), .val (.int c9), .val (.int c10), .val (.int qq), .val (.ref b1), .unset, .unset, .unset, .unset, .unset, .unset, .unset] [(.int p2), (.int x1), (.ref b1)])) rfl (by rw [hml]; rfl) (argsL := [(.int x1), (.int p2)]) (rest := []) (lenOf own_pd3 rfl) rfl rfl (by show 2 * 0 + _ ≤ _; exact Nat.le_of_eq rfl) (hb hby at_117) e4 (by decide) (by decide)
    obtain ⟨rfl, Nq, O, hT⟩ := hQ15
    obtain ⟨J, hf1⟩ := own_J_add p2 J (by omega) (hm1)
    rw [hf] at hf1
    have hf := hf1
    have N15 := Fr.app N4 Nq
    refine own_go (U' := T15.setTop (mkF m 120 #[.val (.int p1), .val (.int p2), .val (.int p3), .val (.int p4), .val (.int p5), .val (.int x1), .val (.int x2), .val (.int x3), .val (.int c8), .val (.int c9), .val (.int c10), .val (.int qq), .val (.ref b1), .unset, .unset, .unset, .unset, .unset, .unset, .unset] [])) st15 ?_
    generalize (own_grow (List.replicate 8 0) m1).set m1 (0 + 1) = lt0 at hT J hf
    generalize (List.replicate 8 (0 : Int32)).set 0 p2 = ag0 at hT J hf
    have hen : 0 + 1 ≤ 1 := Nat.le_refl _
    refine own_go (U' := T15.setTop (mkF m 122 #[.val (.int p1), .val (.int p2), .val (.int p3), .val (.int p4), .val (.int p5), .val (.int x1), .val (.int x2), .val (.int x3), .val (.int c8), .val (.int c9), .val (.int c10), .val (.int qq), .val (.ref b1), .unset, .unset, .unset, .unset, .unset, .unset, .unset] [(.int c9)])) (fun t k => XS.iload X15.here hx rfl (hb hby at_120) rfl k) ?_
    by_cases hz9 : c9 = (0 : Int32)
    · refine own_go (U' := T15.setTop (mkF m 131 #[.val (.int p1), .val (.int p2), .val (.int p3), .val (.int p4), .val (.int p5), .val (.int x1), .val (.int x2), .val (.int x3), .val (.int c8), .val (.int c9), .val (.int c10), .val (.int qq), .val (.ref b1), .unset, .unset, .unset, .unset, .unset, .unset, .unset] [])) (fun t k => XS.ifYes X15.here hx rfl (pc0 := 122) (pc' := 131) rfl (hb hby at_122) rfl ((if0 _ _).trans (teq hz9).1) (by decide) (by decide) k) ?_
      refine own_go (U' := T15.setTop (mkF m 133 #[.val (.int p1), .val (.int p2), .val (.int p3), .val (.int p4), .val (.int p5), .val (.int x1), .val (.int x2), .val (.int x3), .val (.int c8), .val (.int c9), .val (.int c10), .val (.int qq), .val (.ref b1), .unset, .unset, .unset, .unset, .unset, .unset, .unset] [(.ref b1)])) (fun t k => XS.aload X15.here hx rfl (hb hby at_131) rfl rfl k) ?_
      refine own_go (U' := T15.setTop (mkF m 135 #[.val (.int p1), .val (.int p2), .val (.int p3), .val (.int p4), .val (.int p5), .val (.int x1), .val (.int x2), .val (.int x3), .val (.int c8), .val (.int c9), .val (.int c10), .val (.int qq), .val (.ref b1), .unset, .unset, .unset, .unset, .unset, .unset, .unset] [(.int x2), (.ref b1)])) (fun t k => XS.iload X15.here hx rfl (hb hby at_133) rfl k) ?_
      refine own_go (U' := T15.setTop (mkF m 136 #[.val (.int p1), .val (.int p2), .val (.int p3), .val (.int p4), .val (.int p5), .val (.int x1), .val (.int x2), .val (.int x3), .val (.int c8), .val (.int c9), .val (.int c10), .val (.int qq), .val (.ref b1), .unset, .unset, .unset, .unset, .unset, .unset, .unset] [(.int p3), (.int x2), (.ref b1)])) (fun t k => XS.iloadN X15.here hx rfl (hb hby at_135) rfl k) ?_
      have E_b1 : Exa Z h15 b1 "com/example/obedient_dog/obedientdog/topologydiscovery/AgeLog" := by
        obtain ⟨_, _, _, _, _, _, _, _, _, _, _, _, _, F, -⟩ := hT
        exact F.1
      obtain ⟨v16, T16, h16, L16, e16, X16, hQ16, st16⟩ := own_callV X15 hx hZ (y := (⟨"com/example/obedient_dog/obedientdog/topologydiscovery/AgeLog", "raise", "(II)Z"⟩ : MethodName)) (z := (⟨"com/example/obedient_dog/obedientdog/topologydiscovery/AgeLog", "raise", "(II)Z"⟩ : MethodName)) hown (hw _ (List.mem_of_getElem? (i := 71) rfl)) (hw _ (List.mem_of_getElem? (i := 72) rfl)) (notFace_of_selects (args := #[]) (mvT hZ (hw _ (List.mem_of_getElem? (i := 74) rfl)))) (hw _ (List.mem_of_getElem? (i := 74) rfl)) (hw _ (List.mem_of_getElem? (i := 73) rfl)) (hw _ (List.mem_of_getElem? (i := 2) rfl)) (hw _ (List.mem_of_getElem? (i := 75) rfl)) (by decide) E_b1 (own_rmr2 l Z a0 hw b1 x2 p3 h15 n0 b2 ha al lt0 ag0 (0 + 1) 0 .null O J (by omega) m2 (by omega) ex2 hT) (W := 0) (by decide) (by decide) (g := (mkF m 136 #[.val (.int p1), .val (.int p2), .val (.int p3), .val (.int p4), .val (.int p5), .val (.int x1), .val (.int x2), .val (.int x3), .val (.int c8), .val (.int c9), .val (.int c10), .val (.int qq), .val (.ref b1), .unset, .unset, .unset, .unset, .unset, .unset, .unset] [(.int p3), (.int x2), (.ref b1)])) rfl (by rw [hml]; rfl) (argsL := [(.int x2), (.int p3)]) (rest := []) (lenOf own_pd5 rfl) rfl rfl (by show 2 * 0 + _ ≤ _; exact Nat.le_of_eq rfl) (hb hby at_136) e15 (by decide) (by decide)
      rw [hf] at hQ16
      obtain ⟨lt1, ag1, en1, tb1, rfl, Nq, O, hT, J, hen1, hf⟩ := hQ16
      have N16 := Fr.app N15 Nq
      refine own_go (U' := T16.setTop (mkF m 139 #[.val (.int p1), .val (.int p2), .val (.int p3), .val (.int p4), .val (.int p5), .val (.int x1), .val (.int x2), .val (.int x3), .val (.int c8), .val (.int c9), .val (.int c10), .val (.int qq), .val (.ref b1), .unset, .unset, .unset, .unset, .unset, .unset, .unset] [(.int (if (own_put own_f0 m1 p2) m2 < p3 then (1 : Int32) else (0 : Int32)))])) st16 ?_
      generalize hv_r1 : (if (own_put own_f0 m1 p2) m2 < p3 then (1 : Int32) else (0 : Int32)) = r1
      refine own_go (U' := T16.setTop (mkF m 141 #[.val (.int p1), .val (.int p2), .val (.int p3), .val (.int p4), .val (.int p5), .val (.int x1), .val (.int x2), .val (.int x3), .val (.int c8), .val (.int c9), .val (.int c10), .val (.int qq), .val (.ref b1), .val (.int r1), .unset, .unset, .unset, .unset, .unset, .unset] [])) (fun t k => XS.istore X16.here hx rfl (hb hby at_139) rfl (l' := #[.val (.int p1), .val (.int p2), .val (.int p3), .val (.int p4), .val (.int p5), .val (.int x1), .val (.int x2), .val (.int x3), .val (.int c8), .val (.int c9), .val (.int c10), .val (.int qq), .val (.ref b1), .val (.int r1), .unset, .unset, .unset, .unset, .unset, .unset]) rfl k) ?_
      refine own_go (U' := T16.setTop (mkF m 143 #[.val (.int p1), .val (.int p2), .val (.int p3), .val (.int p4), .val (.int p5), .val (.int x1), .val (.int x2), .val (.int x3), .val (.int c8), .val (.int c9), .val (.int c10), .val (.int qq), .val (.ref b1), .val (.int r1), .unset, .unset, .unset, .unset, .unset, .unset] [(.int c10)])) (fun t k => XS.iload X16.here hx rfl (hb hby at_141) rfl k) ?_
      by_cases hz10 : c10 = (0 : Int32)
      · refine own_go (U' := T16.setTop (mkF m 152 #[.val (.int p1), .val (.int p2), .val (.int p3), .val (.int p4), .val (.int p5), .val (.int x1), .val (.int x2), .val (.int x3), .val (.int c8), .val (.int c9), .val (.int c10), .val (.int qq), .val (.ref b1), .val (.int r1), .unset, .unset, .unset, .unset, .unset, .unset] [])) (fun t k => XS.ifYes X16.here hx rfl (pc0 := 143) (pc' := 152) rfl (hb hby at_143) rfl ((if0 _ _).trans (teq hz10).1) (by decide) (by decide) k) ?_
        refine own_go (U' := T16.setTop (mkF m 154 #[.val (.int p1), .val (.int p2), .val (.int p3), .val (.int p4), .val (.int p5), .val (.int x1), .val (.int x2), .val (.int x3), .val (.int c8), .val (.int c9), .val (.int c10), .val (.int qq), .val (.ref b1), .val (.int r1), .unset, .unset, .unset, .unset, .unset, .unset] [(.ref b1)])) (fun t k => XS.aload X16.here hx rfl (hb hby at_152) rfl rfl k) ?_
        refine own_go (U' := T16.setTop (mkF m 156 #[.val (.int p1), .val (.int p2), .val (.int p3), .val (.int p4), .val (.int p5), .val (.int x1), .val (.int x2), .val (.int x3), .val (.int c8), .val (.int c9), .val (.int c10), .val (.int qq), .val (.ref b1), .val (.int r1), .unset, .unset, .unset, .unset, .unset, .unset] [(.int x3), (.ref b1)])) (fun t k => XS.iload X16.here hx rfl (hb hby at_154) rfl k) ?_
        refine own_go (U' := T16.setTop (mkF m 157 #[.val (.int p1), .val (.int p2), .val (.int p3), .val (.int p4), .val (.int p5), .val (.int x1), .val (.int x2), .val (.int x3), .val (.int c8), .val (.int c9), .val (.int c10), .val (.int qq), .val (.ref b1), .val (.int r1), .unset, .unset, .unset, .unset, .unset, .unset] [(.int p4), (.int x3), (.ref b1)])) (fun t k => XS.iloadN X16.here hx rfl (hb hby at_156) rfl k) ?_
        have E_b1 : Exa Z h16 b1 "com/example/obedient_dog/obedientdog/topologydiscovery/AgeLog" := by
          obtain ⟨_, _, _, _, _, _, _, _, _, _, _, _, _, F, -⟩ := hT
          exact F.1
        obtain ⟨v17, T17, h17, L17, e17, X17, hQ17, st17⟩ := own_callV X16 hx hZ (y := (⟨"com/example/obedient_dog/obedientdog/topologydiscovery/AgeLog", "raise", "(II)Z"⟩ : MethodName)) (z := (⟨"com/example/obedient_dog/obedientdog/topologydiscovery/AgeLog", "raise", "(II)Z"⟩ : MethodName)) hown (hw _ (List.mem_of_getElem? (i := 71) rfl)) (hw _ (List.mem_of_getElem? (i := 72) rfl)) (notFace_of_selects (args := #[]) (mvT hZ (hw _ (List.mem_of_getElem? (i := 74) rfl)))) (hw _ (List.mem_of_getElem? (i := 74) rfl)) (hw _ (List.mem_of_getElem? (i := 73) rfl)) (hw _ (List.mem_of_getElem? (i := 2) rfl)) (hw _ (List.mem_of_getElem? (i := 75) rfl)) (by decide) E_b1 (own_rmr2 l Z a0 hw b1 x3 p4 h16 n0 b2 ha al lt1 ag1 en1 0 tb1 O J (by omega) m3 (by omega) ex3 hT) (W := 0) (by decide) (by decide) (g := (mkF m 157 #[.val (.int p1), .val (.int p2), .val (.int p3), .val (.int p4), .val (.int p5), .val (.int x1), .val (.int x2), .val (.int x3), .val (.int c8), .val (.int c9), .val (.int c10), .val (.int qq), .val (.ref b1), .val (.int r1), .unset, .unset, .unset, .unset, .unset, .unset] [(.int p4), (.int x3), (.ref b1)])) rfl (by rw [hml]; rfl) (argsL := [(.int x3), (.int p4)]) (rest := []) (lenOf own_pd5 rfl) rfl rfl (by show 2 * 0 + _ ≤ _; exact Nat.le_of_eq rfl) (hb hby at_157) e16 (by decide) (by decide)
        rw [hf] at hQ17
        obtain ⟨lt2, ag2, en2, tb2, rfl, Nq, O, hT, J, hen2, hf⟩ := hQ17
        have N17 := Fr.app N16 Nq
        refine own_go (U' := T17.setTop (mkF m 160 #[.val (.int p1), .val (.int p2), .val (.int p3), .val (.int p4), .val (.int p5), .val (.int x1), .val (.int x2), .val (.int x3), .val (.int c8), .val (.int c9), .val (.int c10), .val (.int qq), .val (.ref b1), .val (.int r1), .unset, .unset, .unset, .unset, .unset, .unset] [(.int (if (own_up (own_put own_f0 m1 p2) m2 p3) m3 < p4 then (1 : Int32) else (0 : Int32)))])) st17 ?_
        generalize hv_r2 : (if (own_up (own_put own_f0 m1 p2) m2 p3) m3 < p4 then (1 : Int32) else (0 : Int32)) = r2
        refine own_go (U' := T17.setTop (mkF m 162 #[.val (.int p1), .val (.int p2), .val (.int p3), .val (.int p4), .val (.int p5), .val (.int x1), .val (.int x2), .val (.int x3), .val (.int c8), .val (.int c9), .val (.int c10), .val (.int qq), .val (.ref b1), .val (.int r1), .val (.int r2), .unset, .unset, .unset, .unset, .unset] [])) (fun t k => XS.istore X17.here hx rfl (hb hby at_160) rfl (l' := #[.val (.int p1), .val (.int p2), .val (.int p3), .val (.int p4), .val (.int p5), .val (.int x1), .val (.int x2), .val (.int x3), .val (.int c8), .val (.int c9), .val (.int c10), .val (.int qq), .val (.ref b1), .val (.int r1), .val (.int r2), .unset, .unset, .unset, .unset, .unset]) rfl k) ?_
        exact tail _ _ _ (own_put own_f0 m1 p2) _ _ _ _ _ _ _ (own_mono X17 (by decide) (by decide)) e17 N17 O hT J (by omega) hf hv_r1 hv_r2 (fun k P _ hP => own_b0 hz8 hP)
      · refine own_go (U' := T16.setTop (mkF m 146 #[.val (.int p1), .val (.int p2), .val (.int p3), .val (.int p4), .val (.int p5), .val (.int x1), .val (.int x2), .val (.int x3), .val (.int c8), .val (.int c9), .val (.int c10), .val (.int qq), .val (.ref b1), .val (.int r1), .unset, .unset, .unset, .unset, .unset, .unset] [])) (fun t k => XS.ifNo X16.here hx rfl (hb hby at_143) rfl ((if0 _ _).trans (feq hz10).1) k) ?_
        refine own_go (U' := T16.setTop (mkF m 148 #[.val (.int p1), .val (.int p2), .val (.int p3), .val (.int p4), .val (.int p5), .val (.int x1), .val (.int x2), .val (.int x3), .val (.int c8), .val (.int c9), .val (.int c10), .val (.int qq), .val (.ref b1), .val (.int r1), .unset, .unset, .unset, .unset, .unset, .unset] [(.ref b1)])) (fun t k => XS.aload X16.here hx rfl (hb hby at_146) rfl rfl k) ?_
        have E_b1 : Exa Z h16 b1 "com/example/obedient_dog/obedientdog/topologydiscovery/AgeLog" := by
          obtain ⟨_, _, _, _, _, _, _, _, _, _, _, _, _, F, -⟩ := hT
          exact F.1
        obtain ⟨v18, T18, h18, L18, e18, X18, hQ18, st18⟩ := own_callV X16 hx hZ (y := (⟨"com/example/obedient_dog/obedientdog/topologydiscovery/AgeLog", "table", "()Lcom/example/obedient_dog/obedientdog/topologydiscovery/AgeTable;"⟩ : MethodName)) (z := (⟨"com/example/obedient_dog/obedientdog/topologydiscovery/AgeLog", "table", "()Lcom/example/obedient_dog/obedientdog/topologydiscovery/AgeTable;"⟩ : MethodName)) hown (hw _ (List.mem_of_getElem? (i := 143) rfl)) (hw _ (List.mem_of_getElem? (i := 144) rfl)) (notFace_of_selects (args := #[]) (mvT hZ (hw _ (List.mem_of_getElem? (i := 146) rfl)))) (hw _ (List.mem_of_getElem? (i := 146) rfl)) (hw _ (List.mem_of_getElem? (i := 145) rfl)) (hw _ (List.mem_of_getElem? (i := 2) rfl)) (hw _ (List.mem_of_getElem? (i := 147) rfl)) (by decide) E_b1 (own_rmt2 l Z a0 hw b1 h16 n0 b2 ha al lt1 ag1 en1 0 tb1 O J (by omega) hT) (W := 0) (by decide) (by decide) (g := (mkF m 148 #[.val (.int p1), .val (.int p2), .val (.int p3), .val (.int p4), .val (.int p5), .val (.int x1), .val (.int x2), .val (.int x3), .val (.int c8), .val (.int c9), .val (.int c10), .val (.int qq), .val (.ref b1), .val (.int r1), .unset, .unset, .unset, .unset, .unset, .unset] [(.ref b1)])) rfl (by rw [hml]; rfl) (argsL := []) (rest := []) (lenOf own_pd9 rfl) rfl rfl (by show 2 * 0 + _ ≤ _; exact Nat.le_of_eq rfl) (hb hby at_148) e16 (by decide) (by decide)
        obtain ⟨tt2, se2, rfl, Nq, O, hT, J⟩ := hQ18
        have N18 := Fr.app N16 Nq
        refine own_go (U' := T18.setTop (mkF m 151 #[.val (.int p1), .val (.int p2), .val (.int p3), .val (.int p4), .val (.int p5), .val (.int x1), .val (.int x2), .val (.int x3), .val (.int c8), .val (.int c9), .val (.int c10), .val (.int qq), .val (.ref b1), .val (.int r1), .unset, .unset, .unset, .unset, .unset, .unset] [(.ref tt2)])) st18 ?_
        refine own_go (U' := T18.setTop (mkF m 152 #[.val (.int p1), .val (.int p2), .val (.int p3), .val (.int p4), .val (.int p5), .val (.int x1), .val (.int x2), .val (.int x3), .val (.int c8), .val (.int c9), .val (.int c10), .val (.int qq), .val (.ref b1), .val (.int r1), .unset, .unset, .unset, .unset, .unset, .unset] [])) (fun t k => XS.pop X18.here hx rfl (hb hby at_151) rfl rfl k) ?_
        refine own_go (U' := T18.setTop (mkF m 154 #[.val (.int p1), .val (.int p2), .val (.int p3), .val (.int p4), .val (.int p5), .val (.int x1), .val (.int x2), .val (.int x3), .val (.int c8), .val (.int c9), .val (.int c10), .val (.int qq), .val (.ref b1), .val (.int r1), .unset, .unset, .unset, .unset, .unset, .unset] [(.ref b1)])) (fun t k => XS.aload X18.here hx rfl (hb hby at_152) rfl rfl k) ?_
        refine own_go (U' := T18.setTop (mkF m 156 #[.val (.int p1), .val (.int p2), .val (.int p3), .val (.int p4), .val (.int p5), .val (.int x1), .val (.int x2), .val (.int x3), .val (.int c8), .val (.int c9), .val (.int c10), .val (.int qq), .val (.ref b1), .val (.int r1), .unset, .unset, .unset, .unset, .unset, .unset] [(.int x3), (.ref b1)])) (fun t k => XS.iload X18.here hx rfl (hb hby at_154) rfl k) ?_
        refine own_go (U' := T18.setTop (mkF m 157 #[.val (.int p1), .val (.int p2), .val (.int p3), .val (.int p4), .val (.int p5), .val (.int x1), .val (.int x2), .val (.int x3), .val (.int c8), .val (.int c9), .val (.int c10), .val (.int qq), .val (.ref b1), .val (.int r1), .unset, .unset, .unset, .unset, .unset, .unset] [(.int p4), (.int x3), (.ref b1)])) (fun t k => XS.iloadN X18.here hx rfl (hb hby at_156) rfl k) ?_
        have E_b1 : Exa Z h18 b1 "com/example/obedient_dog/obedientdog/topologydiscovery/AgeLog" := by
          obtain ⟨_, _, _, _, _, _, _, _, _, _, _, _, _, F, -⟩ := hT
          exact F.1
        obtain ⟨v19, T19, h19, L19, e19, X19, hQ19, st19⟩ := own_callV X18 hx hZ (y := (⟨"com/example/obedient_dog/obedientdog/topologydiscovery/AgeLog", "raise", "(II)Z"⟩ : MethodName)) (z := (⟨"com/example/obedient_dog/obedientdog/topologydiscovery/AgeLog", "raise", "(II)Z"⟩ : MethodName)) hown (hw _ (List.mem_of_getElem? (i := 71) rfl)) (hw _ (List.mem_of_getElem? (i := 72) rfl)) (notFace_of_selects (args := #[]) (mvT hZ (hw _ (List.mem_of_getElem? (i := 74) rfl)))) (hw _ (List.mem_of_getElem? (i := 74) rfl)) (hw _ (List.mem_of_getElem? (i := 73) rfl)) (hw _ (List.mem_of_getElem? (i := 2) rfl)) (hw _ (List.mem_of_getElem? (i := 75) rfl)) (by decide) E_b1 (own_rmr2 l Z a0 hw b1 x3 p4 h18 n0 b2 ha al lt1 ag1 en1 se2 (.ref tt2) O J (by omega) m3 (by omega) ex3 hT) (W := 0) (by decide) (by decide) (g := (mkF m 157 #[.val (.int p1), .val (.int p2), .val (.int p3), .val (.int p4), .val (.int p5), .val (.int x1), .val (.int x2), .val (.int x3), .val (.int c8), .val (.int c9), .val (.int c10), .val (.int qq), .val (.ref b1), .val (.int r1), .unset, .unset, .unset, .unset, .unset, .unset] [(.int p4), (.int x3), (.ref b1)])) rfl (by rw [hml]; rfl) (argsL := [(.int x3), (.int p4)]) (rest := []) (lenOf own_pd5 rfl) rfl rfl (by show 2 * 0 + _ ≤ _; exact Nat.le_of_eq rfl) (hb hby at_157) e18 (by decide) (by decide)
        rw [hf] at hQ19
        obtain ⟨lt2, ag2, en2, tb2, rfl, Nq, O, hT, J, hen2, hf⟩ := hQ19
        have N19 := Fr.app N18 Nq
        refine own_go (U' := T19.setTop (mkF m 160 #[.val (.int p1), .val (.int p2), .val (.int p3), .val (.int p4), .val (.int p5), .val (.int x1), .val (.int x2), .val (.int x3), .val (.int c8), .val (.int c9), .val (.int c10), .val (.int qq), .val (.ref b1), .val (.int r1), .unset, .unset, .unset, .unset, .unset, .unset] [(.int (if (own_up (own_put own_f0 m1 p2) m2 p3) m3 < p4 then (1 : Int32) else (0 : Int32)))])) st19 ?_
        generalize hv_r2 : (if (own_up (own_put own_f0 m1 p2) m2 p3) m3 < p4 then (1 : Int32) else (0 : Int32)) = r2
        refine own_go (U' := T19.setTop (mkF m 162 #[.val (.int p1), .val (.int p2), .val (.int p3), .val (.int p4), .val (.int p5), .val (.int x1), .val (.int x2), .val (.int x3), .val (.int c8), .val (.int c9), .val (.int c10), .val (.int qq), .val (.ref b1), .val (.int r1), .val (.int r2), .unset, .unset, .unset, .unset, .unset] [])) (fun t k => XS.istore X19.here hx rfl (hb hby at_160) rfl (l' := #[.val (.int p1), .val (.int p2), .val (.int p3), .val (.int p4), .val (.int p5), .val (.int x1), .val (.int x2), .val (.int x3), .val (.int c8), .val (.int c9), .val (.int c10), .val (.int qq), .val (.ref b1), .val (.int r1), .val (.int r2), .unset, .unset, .unset, .unset, .unset]) rfl k) ?_
        exact tail _ _ _ (own_put own_f0 m1 p2) _ _ _ _ _ _ _ (own_mono X19 (by decide) (by decide)) e19 N19 O hT J (by omega) hf hv_r1 hv_r2 (fun k P _ hP => own_b0 hz8 hP)
    · refine own_go (U' := T15.setTop (mkF m 125 #[.val (.int p1), .val (.int p2), .val (.int p3), .val (.int p4), .val (.int p5), .val (.int x1), .val (.int x2), .val (.int x3), .val (.int c8), .val (.int c9), .val (.int c10), .val (.int qq), .val (.ref b1), .unset, .unset, .unset, .unset, .unset, .unset, .unset] [])) (fun t k => XS.ifNo X15.here hx rfl (hb hby at_122) rfl ((if0 _ _).trans (feq hz9).1) k) ?_
      refine own_go (U' := T15.setTop (mkF m 127 #[.val (.int p1), .val (.int p2), .val (.int p3), .val (.int p4), .val (.int p5), .val (.int x1), .val (.int x2), .val (.int x3), .val (.int c8), .val (.int c9), .val (.int c10), .val (.int qq), .val (.ref b1), .unset, .unset, .unset, .unset, .unset, .unset, .unset] [(.ref b1)])) (fun t k => XS.aload X15.here hx rfl (hb hby at_125) rfl rfl k) ?_
      have E_b1 : Exa Z h15 b1 "com/example/obedient_dog/obedientdog/topologydiscovery/AgeLog" := by
        obtain ⟨_, _, _, _, _, _, _, _, _, _, _, _, _, F, -⟩ := hT
        exact F.1
      obtain ⟨v20, T20, h20, L20, e20, X20, hQ20, st20⟩ := own_callV X15 hx hZ (y := (⟨"com/example/obedient_dog/obedientdog/topologydiscovery/AgeLog", "table", "()Lcom/example/obedient_dog/obedientdog/topologydiscovery/AgeTable;"⟩ : MethodName)) (z := (⟨"com/example/obedient_dog/obedientdog/topologydiscovery/AgeLog", "table", "()Lcom/example/obedient_dog/obedientdog/topologydiscovery/AgeTable;"⟩ : MethodName)) hown (hw _ (List.mem_of_getElem? (i := 143) rfl)) (hw _ (List.mem_of_getElem? (i := 144) rfl)) (notFace_of_selects (args := #[]) (mvT hZ (hw _ (List.mem_of_getElem? (i := 146) rfl)))) (hw _ (List.mem_of_getElem? (i := 146) rfl)) (hw _ (List.mem_of_getElem? (i := 145) rfl)) (hw _ (List.mem_of_getElem? (i := 2) rfl)) (hw _ (List.mem_of_getElem? (i := 147) rfl)) (by decide) E_b1 (own_rmt2 l Z a0 hw b1 h15 n0 b2 ha al lt0 ag0 (0 + 1) 0 .null O J (by omega) hT) (W := 0) (by decide) (by decide) (g := (mkF m 127 #[.val (.int p1), .val (.int p2), .val (.int p3), .val (.int p4), .val (.int p5), .val (.int x1), .val (.int x2), .val (.int x3), .val (.int c8), .val (.int c9), .val (.int c10), .val (.int qq), .val (.ref b1), .unset, .unset, .unset, .unset, .unset, .unset, .unset] [(.ref b1)])) rfl (by rw [hml]; rfl) (argsL := []) (rest := []) (lenOf own_pd9 rfl) rfl rfl (by show 2 * 0 + _ ≤ _; exact Nat.le_of_eq rfl) (hb hby at_127) e15 (by decide) (by decide)
      obtain ⟨tt1, se1, rfl, Nq, O, hT, J⟩ := hQ20
      have N20 := Fr.app N15 Nq
      refine own_go (U' := T20.setTop (mkF m 130 #[.val (.int p1), .val (.int p2), .val (.int p3), .val (.int p4), .val (.int p5), .val (.int x1), .val (.int x2), .val (.int x3), .val (.int c8), .val (.int c9), .val (.int c10), .val (.int qq), .val (.ref b1), .unset, .unset, .unset, .unset, .unset, .unset, .unset] [(.ref tt1)])) st20 ?_
      refine own_go (U' := T20.setTop (mkF m 131 #[.val (.int p1), .val (.int p2), .val (.int p3), .val (.int p4), .val (.int p5), .val (.int x1), .val (.int x2), .val (.int x3), .val (.int c8), .val (.int c9), .val (.int c10), .val (.int qq), .val (.ref b1), .unset, .unset, .unset, .unset, .unset, .unset, .unset] [])) (fun t k => XS.pop X20.here hx rfl (hb hby at_130) rfl rfl k) ?_
      refine own_go (U' := T20.setTop (mkF m 133 #[.val (.int p1), .val (.int p2), .val (.int p3), .val (.int p4), .val (.int p5), .val (.int x1), .val (.int x2), .val (.int x3), .val (.int c8), .val (.int c9), .val (.int c10), .val (.int qq), .val (.ref b1), .unset, .unset, .unset, .unset, .unset, .unset, .unset] [(.ref b1)])) (fun t k => XS.aload X20.here hx rfl (hb hby at_131) rfl rfl k) ?_
      refine own_go (U' := T20.setTop (mkF m 135 #[.val (.int p1), .val (.int p2), .val (.int p3), .val (.int p4), .val (.int p5), .val (.int x1), .val (.int x2), .val (.int x3), .val (.int c8), .val (.int c9), .val (.int c10), .val (.int qq), .val (.ref b1), .unset, .unset, .unset, .unset, .unset, .unset, .unset] [(.int x2), (.ref b1)])) (fun t k => XS.iload X20.here hx rfl (hb hby at_133) rfl k) ?_
      refine own_go (U' := T20.setTop (mkF m 136 #[.val (.int p1), .val (.int p2), .val (.int p3), .val (.int p4), .val (.int p5), .val (.int x1), .val (.int x2), .val (.int x3), .val (.int c8), .val (.int c9), .val (.int c10), .val (.int qq), .val (.ref b1), .unset, .unset, .unset, .unset, .unset, .unset, .unset] [(.int p3), (.int x2), (.ref b1)])) (fun t k => XS.iloadN X20.here hx rfl (hb hby at_135) rfl k) ?_
      have E_b1 : Exa Z h20 b1 "com/example/obedient_dog/obedientdog/topologydiscovery/AgeLog" := by
        obtain ⟨_, _, _, _, _, _, _, _, _, _, _, _, _, F, -⟩ := hT
        exact F.1
      obtain ⟨v21, T21, h21, L21, e21, X21, hQ21, st21⟩ := own_callV X20 hx hZ (y := (⟨"com/example/obedient_dog/obedientdog/topologydiscovery/AgeLog", "raise", "(II)Z"⟩ : MethodName)) (z := (⟨"com/example/obedient_dog/obedientdog/topologydiscovery/AgeLog", "raise", "(II)Z"⟩ : MethodName)) hown (hw _ (List.mem_of_getElem? (i := 71) rfl)) (hw _ (List.mem_of_getElem? (i := 72) rfl)) (notFace_of_selects (args := #[]) (mvT hZ (hw _ (List.mem_of_getElem? (i := 74) rfl)))) (hw _ (List.mem_of_getElem? (i := 74) rfl)) (hw _ (List.mem_of_getElem? (i := 73) rfl)) (hw _ (List.mem_of_getElem? (i := 2) rfl)) (hw _ (List.mem_of_getElem? (i := 75) rfl)) (by decide) E_b1 (own_rmr2 l Z a0 hw b1 x2 p3 h20 n0 b2 ha al lt0 ag0 (0 + 1) se1 (.ref tt1) O J (by omega) m2 (by omega) ex2 hT) (W := 0) (by decide) (by decide) (g := (mkF m 136 #[.val (.int p1), .val (.int p2), .val (.int p3), .val (.int p4), .val (.int p5), .val (.int x1), .val (.int x2), .val (.int x3), .val (.int c8), .val (.int c9), .val (.int c10), .val (.int qq), .val (.ref b1), .unset, .unset, .unset, .unset, .unset, .unset, .unset] [(.int p3), (.int x2), (.ref b1)])) rfl (by rw [hml]; rfl) (argsL := [(.int x2), (.int p3)]) (rest := []) (lenOf own_pd5 rfl) rfl rfl (by show 2 * 0 + _ ≤ _; exact Nat.le_of_eq rfl) (hb hby at_136) e20 (by decide) (by decide)
      rw [hf] at hQ21
      obtain ⟨lt1, ag1, en1, tb1, rfl, Nq, O, hT, J, hen1, hf⟩ := hQ21
      have N21 := Fr.app N20 Nq
      refine own_go (U' := T21.setTop (mkF m 139 #[.val (.int p1), .val (.int p2), .val (.int p3), .val (.int p4), .val (.int p5), .val (.int x1), .val (.int x2), .val (.int x3), .val (.int c8), .val (.int c9), .val (.int c10), .val (.int qq), .val (.ref b1), .unset, .unset, .unset, .unset, .unset, .unset, .unset] [(.int (if (own_put own_f0 m1 p2) m2 < p3 then (1 : Int32) else (0 : Int32)))])) st21 ?_
      generalize hv_r1 : (if (own_put own_f0 m1 p2) m2 < p3 then (1 : Int32) else (0 : Int32)) = r1
      refine own_go (U' := T21.setTop (mkF m 141 #[.val (.int p1), .val (.int p2), .val (.int p3), .val (.int p4), .val (.int p5), .val (.int x1), .val (.int x2), .val (.int x3), .val (.int c8), .val (.int c9), .val (.int c10), .val (.int qq), .val (.ref b1), .val (.int r1), .unset, .unset, .unset, .unset, .unset, .unset] [])) (fun t k => XS.istore X21.here hx rfl (hb hby at_139) rfl (l' := #[.val (.int p1), .val (.int p2), .val (.int p3), .val (.int p4), .val (.int p5), .val (.int x1), .val (.int x2), .val (.int x3), .val (.int c8), .val (.int c9), .val (.int c10), .val (.int qq), .val (.ref b1), .val (.int r1), .unset, .unset, .unset, .unset, .unset, .unset]) rfl k) ?_
      refine own_go (U' := T21.setTop (mkF m 143 #[.val (.int p1), .val (.int p2), .val (.int p3), .val (.int p4), .val (.int p5), .val (.int x1), .val (.int x2), .val (.int x3), .val (.int c8), .val (.int c9), .val (.int c10), .val (.int qq), .val (.ref b1), .val (.int r1), .unset, .unset, .unset, .unset, .unset, .unset] [(.int c10)])) (fun t k => XS.iload X21.here hx rfl (hb hby at_141) rfl k) ?_
      by_cases hz10 : c10 = (0 : Int32)
      · refine own_go (U' := T21.setTop (mkF m 152 #[.val (.int p1), .val (.int p2), .val (.int p3), .val (.int p4), .val (.int p5), .val (.int x1), .val (.int x2), .val (.int x3), .val (.int c8), .val (.int c9), .val (.int c10), .val (.int qq), .val (.ref b1), .val (.int r1), .unset, .unset, .unset, .unset, .unset, .unset] [])) (fun t k => XS.ifYes X21.here hx rfl (pc0 := 143) (pc' := 152) rfl (hb hby at_143) rfl ((if0 _ _).trans (teq hz10).1) (by decide) (by decide) k) ?_
        refine own_go (U' := T21.setTop (mkF m 154 #[.val (.int p1), .val (.int p2), .val (.int p3), .val (.int p4), .val (.int p5), .val (.int x1), .val (.int x2), .val (.int x3), .val (.int c8), .val (.int c9), .val (.int c10), .val (.int qq), .val (.ref b1), .val (.int r1), .unset, .unset, .unset, .unset, .unset, .unset] [(.ref b1)])) (fun t k => XS.aload X21.here hx rfl (hb hby at_152) rfl rfl k) ?_
        refine own_go (U' := T21.setTop (mkF m 156 #[.val (.int p1), .val (.int p2), .val (.int p3), .val (.int p4), .val (.int p5), .val (.int x1), .val (.int x2), .val (.int x3), .val (.int c8), .val (.int c9), .val (.int c10), .val (.int qq), .val (.ref b1), .val (.int r1), .unset, .unset, .unset, .unset, .unset, .unset] [(.int x3), (.ref b1)])) (fun t k => XS.iload X21.here hx rfl (hb hby at_154) rfl k) ?_
        refine own_go (U' := T21.setTop (mkF m 157 #[.val (.int p1), .val (.int p2), .val (.int p3), .val (.int p4), .val (.int p5), .val (.int x1), .val (.int x2), .val (.int x3), .val (.int c8), .val (.int c9), .val (.int c10), .val (.int qq), .val (.ref b1), .val (.int r1), .unset, .unset, .unset, .unset, .unset, .unset] [(.int p4), (.int x3), (.ref b1)])) (fun t k => XS.iloadN X21.here hx rfl (hb hby at_156) rfl k) ?_
        have E_b1 : Exa Z h21 b1 "com/example/obedient_dog/obedientdog/topologydiscovery/AgeLog" := by
          obtain ⟨_, _, _, _, _, _, _, _, _, _, _, _, _, F, -⟩ := hT
          exact F.1
        obtain ⟨v22, T22, h22, L22, e22, X22, hQ22, st22⟩ := own_callV X21 hx hZ (y := (⟨"com/example/obedient_dog/obedientdog/topologydiscovery/AgeLog", "raise", "(II)Z"⟩ : MethodName)) (z := (⟨"com/example/obedient_dog/obedientdog/topologydiscovery/AgeLog", "raise", "(II)Z"⟩ : MethodName)) hown (hw _ (List.mem_of_getElem? (i := 71) rfl)) (hw _ (List.mem_of_getElem? (i := 72) rfl)) (notFace_of_selects (args := #[]) (mvT hZ (hw _ (List.mem_of_getElem? (i := 74) rfl)))) (hw _ (List.mem_of_getElem? (i := 74) rfl)) (hw _ (List.mem_of_getElem? (i := 73) rfl)) (hw _ (List.mem_of_getElem? (i := 2) rfl)) (hw _ (List.mem_of_getElem? (i := 75) rfl)) (by decide) E_b1 (own_rmr2 l Z a0 hw b1 x3 p4 h21 n0 b2 ha al lt1 ag1 en1 se1 tb1 O J (by omega) m3 (by omega) ex3 hT) (W := 0) (by decide) (by decide) (g := (mkF m 157 #[.val (.int p1), .val (.int p2), .val (.int p3), .val (.int p4), .val (.int p5), .val (.int x1), .val (.int x2), .val (.int x3), .val (.int c8), .val (.int c9), .val (.int c10), .val (.int qq), .val (.ref b1), .val (.int r1), .unset, .unset, .unset, .unset, .unset, .unset] [(.int p4), (.int x3), (.ref b1)])) rfl (by rw [hml]; rfl) (argsL := [(.int x3), (.int p4)]) (rest := []) (lenOf own_pd5 rfl) rfl rfl (by show 2 * 0 + _ ≤ _; exact Nat.le_of_eq rfl) (hb hby at_157) e21 (by decide) (by decide)
        rw [hf] at hQ22
        obtain ⟨lt2, ag2, en2, tb2, rfl, Nq, O, hT, J, hen2, hf⟩ := hQ22
        have N22 := Fr.app N21 Nq
        refine own_go (U' := T22.setTop (mkF m 160 #[.val (.int p1), .val (.int p2), .val (.int p3), .val (.int p4), .val (.int p5), .val (.int x1), .val (.int x2), .val (.int x3), .val (.int c8), .val (.int c9), .val (.int c10), .val (.int qq), .val (.ref b1), .val (.int r1), .unset, .unset, .unset, .unset, .unset, .unset] [(.int (if (own_up (own_put own_f0 m1 p2) m2 p3) m3 < p4 then (1 : Int32) else (0 : Int32)))])) st22 ?_
        generalize hv_r2 : (if (own_up (own_put own_f0 m1 p2) m2 p3) m3 < p4 then (1 : Int32) else (0 : Int32)) = r2
        refine own_go (U' := T22.setTop (mkF m 162 #[.val (.int p1), .val (.int p2), .val (.int p3), .val (.int p4), .val (.int p5), .val (.int x1), .val (.int x2), .val (.int x3), .val (.int c8), .val (.int c9), .val (.int c10), .val (.int qq), .val (.ref b1), .val (.int r1), .val (.int r2), .unset, .unset, .unset, .unset, .unset] [])) (fun t k => XS.istore X22.here hx rfl (hb hby at_160) rfl (l' := #[.val (.int p1), .val (.int p2), .val (.int p3), .val (.int p4), .val (.int p5), .val (.int x1), .val (.int x2), .val (.int x3), .val (.int c8), .val (.int c9), .val (.int c10), .val (.int qq), .val (.ref b1), .val (.int r1), .val (.int r2), .unset, .unset, .unset, .unset, .unset]) rfl k) ?_
        exact tail _ _ _ (own_put own_f0 m1 p2) _ _ _ _ _ _ _ (own_mono X22 (by decide) (by decide)) e22 N22 O hT J (by omega) hf hv_r1 hv_r2 (fun k P _ hP => own_b0 hz8 hP)
      · refine own_go (U' := T21.setTop (mkF m 146 #[.val (.int p1), .val (.int p2), .val (.int p3), .val (.int p4), .val (.int p5), .val (.int x1), .val (.int x2), .val (.int x3), .val (.int c8), .val (.int c9), .val (.int c10), .val (.int qq), .val (.ref b1), .val (.int r1), .unset, .unset, .unset, .unset, .unset, .unset] [])) (fun t k => XS.ifNo X21.here hx rfl (hb hby at_143) rfl ((if0 _ _).trans (feq hz10).1) k) ?_
        refine own_go (U' := T21.setTop (mkF m 148 #[.val (.int p1), .val (.int p2), .val (.int p3), .val (.int p4), .val (.int p5), .val (.int x1), .val (.int x2), .val (.int x3), .val (.int c8), .val (.int c9), .val (.int c10), .val (.int qq), .val (.ref b1), .val (.int r1), .unset, .unset, .unset, .unset, .unset, .unset] [(.ref b1)])) (fun t k => XS.aload X21.here hx rfl (hb hby at_146) rfl rfl k) ?_
        have E_b1 : Exa Z h21 b1 "com/example/obedient_dog/obedientdog/topologydiscovery/AgeLog" := by
          obtain ⟨_, _, _, _, _, _, _, _, _, _, _, _, _, F, -⟩ := hT
          exact F.1
        obtain ⟨v23, T23, h23, L23, e23, X23, hQ23, st23⟩ := own_callV X21 hx hZ (y := (⟨"com/example/obedient_dog/obedientdog/topologydiscovery/AgeLog", "table", "()Lcom/example/obedient_dog/obedientdog/topologydiscovery/AgeTable;"⟩ : MethodName)) (z := (⟨"com/example/obedient_dog/obedientdog/topologydiscovery/AgeLog", "table", "()Lcom/example/obedient_dog/obedientdog/topologydiscovery/AgeTable;"⟩ : MethodName)) hown (hw _ (List.mem_of_getElem? (i := 143) rfl)) (hw _ (List.mem_of_getElem? (i := 144) rfl)) (notFace_of_selects (args := #[]) (mvT hZ (hw _ (List.mem_of_getElem? (i := 146) rfl)))) (hw _ (List.mem_of_getElem? (i := 146) rfl)) (hw _ (List.mem_of_getElem? (i := 145) rfl)) (hw _ (List.mem_of_getElem? (i := 2) rfl)) (hw _ (List.mem_of_getElem? (i := 147) rfl)) (by decide) E_b1 (own_rmt2 l Z a0 hw b1 h21 n0 b2 ha al lt1 ag1 en1 se1 tb1 O J (by omega) hT) (W := 0) (by decide) (by decide) (g := (mkF m 148 #[.val (.int p1), .val (.int p2), .val (.int p3), .val (.int p4), .val (.int p5), .val (.int x1), .val (.int x2), .val (.int x3), .val (.int c8), .val (.int c9), .val (.int c10), .val (.int qq), .val (.ref b1), .val (.int r1), .unset, .unset, .unset, .unset, .unset, .unset] [(.ref b1)])) rfl (by rw [hml]; rfl) (argsL := []) (rest := []) (lenOf own_pd9 rfl) rfl rfl (by show 2 * 0 + _ ≤ _; exact Nat.le_of_eq rfl) (hb hby at_148) e21 (by decide) (by decide)
        obtain ⟨tt2, se2, rfl, Nq, O, hT, J⟩ := hQ23
        have N23 := Fr.app N21 Nq
        refine own_go (U' := T23.setTop (mkF m 151 #[.val (.int p1), .val (.int p2), .val (.int p3), .val (.int p4), .val (.int p5), .val (.int x1), .val (.int x2), .val (.int x3), .val (.int c8), .val (.int c9), .val (.int c10), .val (.int qq), .val (.ref b1), .val (.int r1), .unset, .unset, .unset, .unset, .unset, .unset] [(.ref tt2)])) st23 ?_
        refine own_go (U' := T23.setTop (mkF m 152 #[.val (.int p1), .val (.int p2), .val (.int p3), .val (.int p4), .val (.int p5), .val (.int x1), .val (.int x2), .val (.int x3), .val (.int c8), .val (.int c9), .val (.int c10), .val (.int qq), .val (.ref b1), .val (.int r1), .unset, .unset, .unset, .unset, .unset, .unset] [])) (fun t k => XS.pop X23.here hx rfl (hb hby at_151) rfl rfl k) ?_
        refine own_go (U' := T23.setTop (mkF m 154 #[.val (.int p1), .val (.int p2), .val (.int p3), .val (.int p4), .val (.int p5), .val (.int x1), .val (.int x2), .val (.int x3), .val (.int c8), .val (.int c9), .val (.int c10), .val (.int qq), .val (.ref b1), .val (.int r1), .unset, .unset, .unset, .unset, .unset, .unset] [(.ref b1)])) (fun t k => XS.aload X23.here hx rfl (hb hby at_152) rfl rfl k) ?_
        refine own_go (U' := T23.setTop (mkF m 156 #[.val (.int p1), .val (.int p2), .val (.int p3), .val (.int p4), .val (.int p5), .val (.int x1), .val (.int x2), .val (.int x3), .val (.int c8), .val (.int c9), .val (.int c10), .val (.int qq), .val (.ref b1), .val (.int r1), .unset, .unset, .unset, .unset, .unset, .unset] [(.int x3), (.ref b1)])) (fun t k => XS.iload X23.here hx rfl (hb hby at_154) rfl k) ?_
        refine own_go (U' := T23.setTop (mkF m 157 #[.val (.int p1), .val (.int p2), .val (.int p3), .val (.int p4), .val (.int p5), .val (.int x1), .val (.int x2), .val (.int x3), .val (.int c8), .val (.int c9), .val (.int c10), .val (.int qq), .val (.ref b1), .val (.int r1), .unset, .unset, .unset, .unset, .unset, .unset] [(.int p4), (.int x3), (.ref b1)])) (fun t k => XS.iloadN X23.here hx rfl (hb hby at_156) rfl k) ?_
        have E_b1 : Exa Z h23 b1 "com/example/obedient_dog/obedientdog/topologydiscovery/AgeLog" := by
          obtain ⟨_, _, _, _, _, _, _, _, _, _, _, _, _, F, -⟩ := hT
          exact F.1
        obtain ⟨v24, T24, h24, L24, e24, X24, hQ24, st24⟩ := own_callV X23 hx hZ (y := (⟨"com/example/obedient_dog/obedientdog/topologydiscovery/AgeLog", "raise", "(II)Z"⟩ : MethodName)) (z := (⟨"com/example/obedient_dog/obedientdog/topologydiscovery/AgeLog", "raise", "(II)Z"⟩ : MethodName)) hown (hw _ (List.mem_of_getElem? (i := 71) rfl)) (hw _ (List.mem_of_getElem? (i := 72) rfl)) (notFace_of_selects (args := #[]) (mvT hZ (hw _ (List.mem_of_getElem? (i := 74) rfl)))) (hw _ (List.mem_of_getElem? (i := 74) rfl)) (hw _ (List.mem_of_getElem? (i := 73) rfl)) (hw _ (List.mem_of_getElem? (i := 2) rfl)) (hw _ (List.mem_of_getElem? (i := 75) rfl)) (by decide) E_b1 (own_rmr2 l Z a0 hw b1 x3 p4 h23 n0 b2 ha al lt1 ag1 en1 se2 (.ref tt2) O J (by omega) m3 (by omega) ex3 hT) (W := 0) (by decide) (by decide) (g := (mkF m 157 #[.val (.int p1), .val (.int p2), .val (.int p3), .val (.int p4), .val (.int p5), .val (.int x1), .val (.int x2), .val (.int x3), .val (.int c8), .val (.int c9), .val (.int c10), .val (.int qq), .val (.ref b1), .val (.int r1), .unset, .unset, .unset, .unset, .unset, .unset] [(.int p4), (.int x3), (.ref b1)])) rfl (by rw [hml]; rfl) (argsL := [(.int x3), (.int p4)]) (rest := []) (lenOf own_pd5 rfl) rfl rfl (by show 2 * 0 + _ ≤ _; exact Nat.le_of_eq rfl) (hb hby at_157) e23 (by decide) (by decide)
        rw [hf] at hQ24
        obtain ⟨lt2, ag2, en2, tb2, rfl, Nq, O, hT, J, hen2, hf⟩ := hQ24
        have N24 := Fr.app N23 Nq
        refine own_go (U' := T24.setTop (mkF m 160 #[.val (.int p1), .val (.int p2), .val (.int p3), .val (.int p4), .val (.int p5), .val (.int x1), .val (.int x2), .val (.int x3), .val (.int c8), .val (.int c9), .val (.int c10), .val (.int qq), .val (.ref b1), .val (.int r1), .unset, .unset, .unset, .unset, .unset, .unset] [(.int (if (own_up (own_put own_f0 m1 p2) m2 p3) m3 < p4 then (1 : Int32) else (0 : Int32)))])) st24 ?_
        generalize hv_r2 : (if (own_up (own_put own_f0 m1 p2) m2 p3) m3 < p4 then (1 : Int32) else (0 : Int32)) = r2
        refine own_go (U' := T24.setTop (mkF m 162 #[.val (.int p1), .val (.int p2), .val (.int p3), .val (.int p4), .val (.int p5), .val (.int x1), .val (.int x2), .val (.int x3), .val (.int c8), .val (.int c9), .val (.int c10), .val (.int qq), .val (.ref b1), .val (.int r1), .val (.int r2), .unset, .unset, .unset, .unset, .unset] [])) (fun t k => XS.istore X24.here hx rfl (hb hby at_160) rfl (l' := #[.val (.int p1), .val (.int p2), .val (.int p3), .val (.int p4), .val (.int p5), .val (.int x1), .val (.int x2), .val (.int x3), .val (.int c8), .val (.int c9), .val (.int c10), .val (.int qq), .val (.ref b1), .val (.int r1), .val (.int r2), .unset, .unset, .unset, .unset, .unset]) rfl k) ?_
        exact tail _ _ _ (own_put own_f0 m1 p2) _ _ _ _ _ _ _ (own_mono X24 (by decide) (by decide)) e24 N24 O hT J (by omega) hf hv_r1 hv_r2 (fun k P _ hP => own_b0 hz8 hP)
set_option maxRecDepth 65536 in
set_option maxHeartbeats 40000000 in
theorem comes_1 {Post : Tables → Env → Array Value → State → Outcome → State → Prop} (hpost : ∀ tb e args s v u, (limb_1_1.after args s (.returned v) u = true ∧ limb_1_2.after args s (.returned v) u = true) → FrameEnd s (.returned v) u (Jvm.fieldLocs frame_1_writes args s ++ Jvm.arrayLocs frame_1_arrays args s ++ Jvm.staticLocs frame_1_statics s) 40 320 → Post tb e args s (.returned v) u) :
    ArmFor flags0 classFile x code maxLocals ret World_1 tables_1 room_1 Calls_1 rest_1 Pre_1 Post := by
  intro l hfl _ _ p e ha hc hk s m args below hf hA hF happ hP
  obtain ⟨hcalls, hrest, hpre⟩ := hP
  obtain ⟨-, -, -, hnamed, -, -, -, hat⟩ := (Spec.applies_iff hf).mp happ
  obtain ⟨hg, hn⟩ := and_e (Cond.before_iff.mp (show (Jvm.Cond.and given_1 narrow_1).before args s = true from hpre))
  obtain ⟨hcount, r0⟩ := and_e hg
  obtain ⟨g0, r1⟩ := and_e r0
  obtain ⟨g1, r2⟩ := and_e r1
  obtain ⟨g2, r3⟩ := and_e r2
  obtain ⟨g3, g4⟩ := and_e r3
  obtain ⟨w0, w1, w2, w3, w4, rfl⟩ : ∃ w0 w1 w2 w3 w4 : Value, args = #[w0, w1, w2, w3, w4] := by
    have hs : args.size = 5 := by simpa [Cond.value, given_1] using hcount
    obtain ⟨L⟩ := args
    match L, hs with
    | [w0, w1, w2, w3, w4], _ => exact ⟨w0, w1, w2, w3, w4, rfl⟩
  have hw := fun d (hd : d ∈ tables_1) => atoms_spec (ws := Jvm.Cond.code x code maxLocals ret :: tables_1) hat d (List.mem_cons_of_mem _ hd)
  have hfit : Fit s := fun {y c} hc i hi => by
    obtain ⟨ha, rfl⟩ := Array.getElem?_eq_some_iff.mp hc
    have q := List.all_eq_true.mp ((Array.all_eq_true_iff_forall_mem.mp hF) _ (Array.getElem_mem ha)) i (List.mem_range.mpr hi)
    simpa [Array.getElem?_eq_getElem hi] using q
  obtain ⟨hsets, hown0⟩ := atoms_of _ (rest_1_c_eq ▸ (show rest_1_c.before _ s = true from hrest))
  have hr0 := Cond.before_iff.mp hown0
  obtain ⟨i0, ei0⟩ := is_v g0
  obtain rfl : w0 = (.int i0) := Option.some.inj ei0
  obtain ⟨i1, ei1⟩ := is_v g1
  obtain rfl : w1 = (.int i1) := Option.some.inj ei1
  obtain ⟨i2, ei2⟩ := is_v g2
  obtain rfl : w2 = (.int i2) := Option.some.inj ei2
  obtain ⟨i3, ei3⟩ := is_v g3
  obtain rfl : w3 = (.int i3) := Option.some.inj ei3
  obtain ⟨i4, ei4⟩ := is_v g4
  obtain rfl : w4 = (.int i4) := Option.some.inj ei4
  obtain ⟨dd, evdd⟩ := exa_v (Cond.before_iff.mp (hsets _ (List.mem_of_getElem? (i := 7) rfl)))
  have S_dd := Sta.start evdd (Or.inr ⟨hw _ (List.mem_of_getElem? (i := 32) rfl), hsets _ (List.mem_of_getElem? (i := 2) rfl)⟩)
  obtain ⟨n, o, h1, h2, h3, _, L, rfl, ⟨rfl, N⟩, hq⟩ := own_rm0 l s _ hw tables_1 i0 i1 i2 i3 i4 s.heap s.heap.size dd (Old.start s) S_dd p e ha hc hk s m _ below hf ((Spec.applies_iff_loose hf).mp happ).1 ⟨rfl, State.Warmed39.refl s, rfl⟩ trivial
  refine ⟨n, _, h1, h2, h3, hpost _ _ _ _ _ _ ⟨Cond.after_iff.mpr rfl, Cond.after_iff.mpr (eq_i res_at (Term.int_eval (1)) rfl)⟩ ⟨hq.1, hq.2.1, (hq.2.2.sift fun y hy => Or.inr (N y hy)).mono (by decide) (by decide)⟩⟩
theorem main_1_1 : Claimed_1_1 := comes_1 fun _ _ _ _ _ _ h hF => ⟨h.1, hF⟩
theorem main_1_2 : Claimed_1_2 := comes_1 fun _ _ _ _ _ _ h hF => ⟨h.2, hF⟩
end Jvm.Pilot.@@N@@
namespace Jvm.Pilot.@@N@@
open Jvm Jvm.ClassFile Sem Op Lib Jvm.Free Jvm.Stand Jvm.Pilot.@@N@@.Jvm.D
/-! MADE BY PROGRAM (witnessworld.py) out of the Statement's table words and the real class files: 26 classes; the members and pool entries that the words name. The judged class is class 1, her method 1. -/
namespace start1
open Jvm.ClassFile
def u (s : String) : CpInfo := .utf8 (stringToUtf16 s)
/-- a pool by its gaps: so many unusable entries, then the entry; so many at the end -/
def gap : Nat → List CpInfo → List CpInfo
  | 0, r => r
  | n + 1, r => .unusable :: gap n r
def poolList (es : List (Nat × CpInfo)) (last : Nat) : List CpInfo := es.foldr (fun e r => gap e.1 (e.2 :: r)) (gap last [])
def pool (es : List (Nat × CpInfo)) (last : Nat) : Array CpInfo := ⟨poolList es last⟩
def fileOf (pool : Array CpInfo) (this : Nat) (attrs : Array Attribute := #[]) (ms : Array MethodInfo := #[]) (fl : Nat := 33) (sup : Nat := 0) (ifs : Array Nat := #[]) (fds : Array FieldInfo := #[]) : ClassFile where
  minorVersion := 0
  majorVersion := 65
  constantPool := pool
  accessFlags := fl
  thisClass := this
  superClass := sup
  interfaces := ifs
  fields := fds
  methods := ms
  attributes := attrs
def plain (name : String) (sup : Option ClassId) : Class where
  name := name
  kind := .ordinary
  loader := none
  accessFlags := 33
  super := sup
  interfaces := #[]
  cf := none
  fields := #[]
  methods := #[]
  instanceTypes := #[]
  staticTypes := #[]
  resolved := #[]
  callSites := []
  init := .initialized
  statics := none
  mirror := none

def pool0 : Array CpInfo := pool [(5, u "<init>"), (0, u "()V"), (1, .class_ 10), (1, u "java/lang/Object")] 113

def k0c0 : Code := { maxStack := 0, maxLocals := 1, code := object_method_1_code, exceptionTable := #[], attributes := #[] }
def k0m0 : Method := { name := "<init>", desc := "()V", sig := { parameters := [], returnType := none }, accessFlags := 1, code := some k0c0 }
/-- java/lang/Object -/
def k0 : Class := { plain "java/lang/Object" none with
  accessFlags := 33
  interfaces := #[]
  cf := some (fileOf pool0 8 #[] #[{ accessFlags := 1, nameIndex := 5, descriptorIndex := 6, attributes := #[] }] 33 0 #[] #[])
  fields := #[]
  methods := #[k0m0]
  instanceTypes := #[]
  staticTypes := #[]
  resolved := Array.replicate 124 none
  statics := none }

def pool1 : Array CpInfo := pool [(2, .class_ 4), (0, .nameAndType 5 6), (0, u "java/lang/Object"), (0, u "<init>"), (0, u "()V"), (0, .class_ 8), (0, u "com/example/obedient_dog/obedientdog/topologydiscovery/AgeLog"), (0, .class_ 10), (0, u "com/example/obedient_dog/obedientdog/topologydiscovery/LinkNumbers"), (0, .methodref 9 3), (0, .methodref 7 13), (0, .nameAndType 5 14), (0, u "(Lcom/example/obedient_dog/obedientdog/topologydiscovery/LinkNumbers;)V"), (0, .methodref 7 16), (0, .nameAndType 17 18), (0, u "add"), (0, u "(II)V"), (0, .methodref 7 20), (0, .nameAndType 21 22), (0, u "table"), (0, u "()Lcom/example/obedient_dog/obedientdog/topologydiscovery/AgeTable;"), (0, .methodref 7 24), (0, .nameAndType 25 26), (0, u "raise"), (0, u "(II)Z"), (0, .methodref 7 28), (0, .nameAndType 29 30), (0, u "age"), (0, u "(I)I"), (0, .class_ 32), (0, u "com/example/obedient_dog/obedientdog/topologydiscovery/AgeLogAgePinLaw"), (2, u "law"), (0, u "(IIIII)Z")] 3

def k1m0 : Method := { name := "<init>", desc := "()V", sig := { parameters := [], returnType := none }, accessFlags := 1, code := none }
def k1c1 : Code := { maxStack := 4, maxLocals := 20, code := code, exceptionTable := #[], attributes := #[] }
def k1m1 : Method := { name := "law", desc := "(IIIII)Z", sig := { parameters := [.int, .int, .int, .int, .int], returnType := some .boolean }, accessFlags := 9, code := some k1c1 }
/-- com/example/obedient_dog/obedientdog/topologydiscovery/AgeLogAgePinLaw -/
def k1 : Class := { plain "com/example/obedient_dog/obedientdog/topologydiscovery/AgeLogAgePinLaw" (some 0) with
  accessFlags := 49
  interfaces := #[]
  cf := some (fileOf pool1 31 #[] #[{ accessFlags := 1, nameIndex := 5, descriptorIndex := 6, attributes := #[] }, { accessFlags := 9, nameIndex := 35, descriptorIndex := 36, attributes := #[] }] 49 2 #[] #[])
  fields := #[]
  methods := #[k1m0, k1m1]
  instanceTypes := #[]
  staticTypes := #[]
  resolved := Array.replicate 40 none
  statics := none }

def pool2 : Array CpInfo := pool [(1, .methodref 2 3), (0, .class_ 4), (0, .nameAndType 5 6), (0, u "java/lang/Object"), (0, u "<init>"), (0, u "()V"), (0, .class_ 8), (0, u "com/example/obedient_dog/obedientdog/topologydiscovery/AgeLog"), (0, .fieldref 7 10), (0, .nameAndType 11 12), (0, u "latest"), (0, u "[I"), (0, .fieldref 7 14), (0, .nameAndType 15 12), (0, u "raised"), (0, .fieldref 7 17), (0, .nameAndType 18 12), (0, u "ages"), (0, .fieldref 7 20), (0, .nameAndType 21 22), (0, u "numbers"), (0, u "Lcom/example/obedient_dog/obedientdog/topologydiscovery/LinkNumbers;"), (2, u "(Lcom/example/obedient_dog/obedientdog/topologydiscovery/LinkNumbers;)V"), (11, .class_ 39), (1, u "com/example/obedient_dog/obedientdog/topologydiscovery/AgeTable"), (2, .methodref 43 44), (0, .class_ 45), (0, .nameAndType 46 47), (0, u "java/lang/Math"), (0, u "max"), (0, u "(II)I"), (0, .methodref 49 50), (0, .class_ 51), (0, .nameAndType 52 53), (0, u "com/example/obedient_dog/obedientdog/topologydiscovery/LinkNumbers"), (0, u "size"), (0, u "()I"), (0, .methodref 55 56), (0, .class_ 57), (0, .nameAndType 58 59), (0, u "java/util/Arrays"), (0, u "copyOf"), (0, u "([II)[I"), (0, .methodref 7 61), (0, .nameAndType 62 47), (0, u "append"), (0, .fieldref 7 64), (0, .nameAndType 52 65), (0, u "I"), (0, .methodref 7 67), (0, .nameAndType 68 69), (0, u "count"), (0, u "(III)V"), (0, .fieldref 7 71), (0, .nameAndType 72 73), (0, u "table"), (0, u "Lcom/example/obedient_dog/obedientdog/topologydiscovery/AgeTable;"), (0, .methodref 7 75), (0, .nameAndType 76 77), (0, u "add"), (0, u "(II)V"), (0, .fieldref 7 79), (0, .nameAndType 80 65), (0, u "sealed"), (0, .methodref 7 82), (0, .nameAndType 83 77), (0, u "chain"), (0, .fieldref 7 85), (0, .nameAndType 86 65), (0, u "entries"), (0, .fieldref 7 88), (0, .nameAndType 89 65), (0, u "present"), (0, .fieldref 7 91), (0, .nameAndType 92 65), (0, u "hash"), (0, .methodref 37 94), (0, .nameAndType 5 95), (0, u "(Lcom/example/obedient_dog/obedientdog/topologydiscovery/AgeLog;IIII)V"), (0, .fieldref 7 97), (0, .nameAndType 98 12), (0, u "earlier"), (0, .fieldref 7 100), (0, .nameAndType 101 12), (0, u "later"), (0, .methodref 49 103), (0, .nameAndType 92 104), (0, u "(I)I"), (0, u "FIRST_CAPACITY"), (6, u "age"), (1, u "raise"), (0, u "(II)Z"), (0, u "()Lcom/example/obedient_dog/obedientdog/topologydiscovery/AgeTable;")] 27

def k2c0 : Code := { maxStack := 2, maxLocals := 2, code := prog_39_method_1_code, exceptionTable := #[], attributes := #[] }
def k2m0 : Method := { name := "<init>", desc := "(Lcom/example/obedient_dog/obedientdog/topologydiscovery/LinkNumbers;)V", sig := { parameters := [(.object "com/example/obedient_dog/obedientdog/topologydiscovery/LinkNumbers")], returnType := none }, accessFlags := 0, code := some k2c0 }
def k2c1 : Code := { maxStack := 3, maxLocals := 2, code := prog_39_method_4_code, exceptionTable := #[], attributes := #[] }
def k2m1 : Method := { name := "age", desc := "(I)I", sig := { parameters := [.int], returnType := some .int }, accessFlags := 0, code := some k2c1 }
def k2c2 : Code := { maxStack := 5, maxLocals := 3, code := prog_39_method_5_code, exceptionTable := #[], attributes := #[] }
def k2m2 : Method := { name := "add", desc := "(II)V", sig := { parameters := [.int, .int], returnType := none }, accessFlags := 0, code := some k2c2 }
def k2c3 : Code := { maxStack := 4, maxLocals := 6, code := prog_39_method_6_code, exceptionTable := #[], attributes := #[] }
def k2m3 : Method := { name := "raise", desc := "(II)Z", sig := { parameters := [.int, .int], returnType := some .boolean }, accessFlags := 0, code := some k2c3 }
def k2c4 : Code := { maxStack := 8, maxLocals := 1, code := prog_39_method_7_code, exceptionTable := #[], attributes := #[] }
def k2m4 : Method := { name := "table", desc := "()Lcom/example/obedient_dog/obedientdog/topologydiscovery/AgeTable;", sig := { parameters := [], returnType := some (.object "com/example/obedient_dog/obedientdog/topologydiscovery/AgeTable") }, accessFlags := 0, code := some k2c4 }
def k2c5 : Code := { maxStack := 3, maxLocals := 4, code := prog_39_method_13_code, exceptionTable := #[], attributes := #[] }
def k2m5 : Method := { name := "append", desc := "(II)I", sig := { parameters := [.int, .int], returnType := some .int }, accessFlags := 2, code := some k2c5 }
def k2c6 : Code := { maxStack := 4, maxLocals := 3, code := prog_39_method_14_code, exceptionTable := #[], attributes := #[] }
def k2m6 : Method := { name := "chain", desc := "(II)V", sig := { parameters := [.int, .int], returnType := none }, accessFlags := 2, code := some k2c6 }
def k2c7 : Code := { maxStack := 5, maxLocals := 4, code := prog_39_method_15_code, exceptionTable := #[], attributes := #[] }
def k2m7 : Method := { name := "count", desc := "(III)V", sig := { parameters := [.int, .int, .int], returnType := none }, accessFlags := 2, code := some k2c7 }
/-- com/example/obedient_dog/obedientdog/topologydiscovery/AgeLog -/
def k2 : Class := { plain "com/example/obedient_dog/obedientdog/topologydiscovery/AgeLog" (some 0) with
  accessFlags := 48
  interfaces := #[]
  cf := some (fileOf pool2 7 #[] #[{ accessFlags := 0, nameIndex := 5, descriptorIndex := 25, attributes := #[] }, { accessFlags := 0, nameIndex := 112, descriptorIndex := 104, attributes := #[] }, { accessFlags := 0, nameIndex := 76, descriptorIndex := 77, attributes := #[] }, { accessFlags := 0, nameIndex := 114, descriptorIndex := 115, attributes := #[] }, { accessFlags := 0, nameIndex := 72, descriptorIndex := 116, attributes := #[] }, { accessFlags := 2, nameIndex := 62, descriptorIndex := 47, attributes := #[] }, { accessFlags := 2, nameIndex := 83, descriptorIndex := 77, attributes := #[] }, { accessFlags := 2, nameIndex := 68, descriptorIndex := 69, attributes := #[] }] 48 2 #[] #[{ accessFlags := 26, nameIndex := 105, descriptorIndex := 65, attributes := #[] }, { accessFlags := 18, nameIndex := 21, descriptorIndex := 22, attributes := #[] }, { accessFlags := 2, nameIndex := 11, descriptorIndex := 12, attributes := #[] }, { accessFlags := 2, nameIndex := 15, descriptorIndex := 12, attributes := #[] }, { accessFlags := 2, nameIndex := 18, descriptorIndex := 12, attributes := #[] }, { accessFlags := 2, nameIndex := 98, descriptorIndex := 12, attributes := #[] }, { accessFlags := 2, nameIndex := 101, descriptorIndex := 12, attributes := #[] }, { accessFlags := 2, nameIndex := 86, descriptorIndex := 65, attributes := #[] }, { accessFlags := 2, nameIndex := 80, descriptorIndex := 65, attributes := #[] }, { accessFlags := 2, nameIndex := 52, descriptorIndex := 65, attributes := #[] }, { accessFlags := 2, nameIndex := 89, descriptorIndex := 65, attributes := #[] }, { accessFlags := 2, nameIndex := 92, descriptorIndex := 65, attributes := #[] }, { accessFlags := 2, nameIndex := 72, descriptorIndex := 73, attributes := #[] }])
  fields := #[{ name := "FIRST_CAPACITY", type := .int, accessFlags := 26, slot := 0, constantValue := 0 }, { name := "numbers", type := (.object "com/example/obedient_dog/obedientdog/topologydiscovery/LinkNumbers"), accessFlags := 18, slot := 0, constantValue := 0 }, { name := "latest", type := (.array .int), accessFlags := 2, slot := 1, constantValue := 0 }, { name := "raised", type := (.array .int), accessFlags := 2, slot := 2, constantValue := 0 }, { name := "ages", type := (.array .int), accessFlags := 2, slot := 3, constantValue := 0 }, { name := "earlier", type := (.array .int), accessFlags := 2, slot := 4, constantValue := 0 }, { name := "later", type := (.array .int), accessFlags := 2, slot := 5, constantValue := 0 }, { name := "entries", type := .int, accessFlags := 2, slot := 6, constantValue := 0 }, { name := "sealed", type := .int, accessFlags := 2, slot := 7, constantValue := 0 }, { name := "size", type := .int, accessFlags := 2, slot := 8, constantValue := 0 }, { name := "present", type := .int, accessFlags := 2, slot := 9, constantValue := 0 }, { name := "hash", type := .int, accessFlags := 2, slot := 10, constantValue := 0 }, { name := "table", type := (.object "com/example/obedient_dog/obedientdog/topologydiscovery/AgeTable"), accessFlags := 2, slot := 11, constantValue := 0 }]
  methods := #[k2m0, k2m1, k2m2, k2m3, k2m4, k2m5, k2m6, k2m7]
  instanceTypes := #[(.object "com/example/obedient_dog/obedientdog/topologydiscovery/LinkNumbers"), (.array .int), (.array .int), (.array .int), (.array .int), (.array .int), .int, .int, .int, .int, .int, (.object "com/example/obedient_dog/obedientdog/topologydiscovery/AgeTable")]
  staticTypes := #[.int]
  resolved := Array.replicate 144 none
  statics := none }

def pool3 : Array CpInfo := pool [(1, .methodref 2 3), (0, .class_ 4), (0, .nameAndType 5 6), (0, u "java/lang/Object"), (0, u "<init>"), (0, u "()V"), (0, .class_ 8), (0, u "java/util/HashMap"), (0, .methodref 7 3), (0, .fieldref 11 12), (0, .class_ 13), (0, .nameAndType 14 15), (0, u "com/example/obedient_dog/obedientdog/topologydiscovery/LinkNumbers"), (0, u "numbers"), (0, u "Ljava/util/Map;"), (0, .class_ 17), (0, u "java/util/ArrayList"), (0, .methodref 16 3), (0, .fieldref 11 20), (0, .nameAndType 21 22), (0, u "links"), (0, u "Ljava/util/List;"), (0, .fieldref 11 24), (0, .nameAndType 25 26), (0, u "hashes"), (0, u "[I"), (11, u "()I"), (0, .interfaceMethodref 40 41), (0, .class_ 42), (0, .nameAndType 43 38), (0, u "java/util/List"), (0, u "size"), (58, u "hash"), (0, u "(I)I")] 7

def k3c0 : Code := { maxStack := 3, maxLocals := 1, code := prog_46_method_1_code, exceptionTable := #[], attributes := #[] }
def k3m0 : Method := { name := "<init>", desc := "()V", sig := { parameters := [], returnType := none }, accessFlags := 0, code := some k3c0 }
def k3c1 : Code := { maxStack := 2, maxLocals := 2, code := prog_46_method_5_code, exceptionTable := #[], attributes := #[] }
def k3m1 : Method := { name := "hash", desc := "(I)I", sig := { parameters := [.int], returnType := some .int }, accessFlags := 0, code := some k3c1 }
def k3c2 : Code := { maxStack := 1, maxLocals := 1, code := prog_46_method_6_code, exceptionTable := #[], attributes := #[] }
def k3m2 : Method := { name := "size", desc := "()I", sig := { parameters := [], returnType := some .int }, accessFlags := 0, code := some k3c2 }
/-- com/example/obedient_dog/obedientdog/topologydiscovery/LinkNumbers -/
def k3 : Class := { plain "com/example/obedient_dog/obedientdog/topologydiscovery/LinkNumbers" (some 0) with
  accessFlags := 48
  interfaces := #[]
  cf := some (fileOf pool3 11 #[] #[{ accessFlags := 0, nameIndex := 5, descriptorIndex := 6, attributes := #[] }, { accessFlags := 0, nameIndex := 102, descriptorIndex := 103, attributes := #[] }, { accessFlags := 0, nameIndex := 43, descriptorIndex := 38, attributes := #[] }] 48 2 #[] #[{ accessFlags := 18, nameIndex := 14, descriptorIndex := 15, attributes := #[] }, { accessFlags := 18, nameIndex := 21, descriptorIndex := 22, attributes := #[] }, { accessFlags := 2, nameIndex := 25, descriptorIndex := 26, attributes := #[] }])
  fields := #[{ name := "numbers", type := (.object "java/util/Map"), accessFlags := 18, slot := 0, constantValue := 0 }, { name := "links", type := (.object "java/util/List"), accessFlags := 18, slot := 1, constantValue := 0 }, { name := "hashes", type := (.array .int), accessFlags := 2, slot := 2, constantValue := 0 }]
  methods := #[k3m0, k3m1, k3m2]
  instanceTypes := #[(.object "java/util/Map"), (.object "java/util/List"), (.array .int)]
  staticTypes := #[]
  resolved := Array.replicate 111 none
  statics := none }

def pool4 : Array CpInfo := pool [(2, .class_ 4), (1, u "java/util/Map"), (31, .class_ 37), (0, u "java/util/Map$Entry"), (55, .class_ 94), (0, u "java/lang/Object")] 168

/-- java/util/Map -/
def k4 : Class := { plain "java/util/Map" (some 0) with
  accessFlags := 1537
  interfaces := #[]
  cf := some (fileOf pool4 2 #[.nestMembers #[36]] #[] 1537 93 #[] #[])
  fields := #[]
  methods := #[]
  instanceTypes := #[]
  staticTypes := #[]
  resolved := Array.replicate 263 none
  statics := none }

def pool5 : Array CpInfo := pool [(1, .methodref 2 3), (0, .class_ 4), (0, .nameAndType 5 6), (0, u "java/lang/Object"), (0, u "<init>"), (0, u "()V"), (1, .class_ 10), (1, u "java/util/AbstractMap"), (42, .class_ 54), (0, u "java/util/Map"), (9, u "keySet"), (0, u "Ljava/util/Set;"), (0, .class_ 67), (0, u "java/util/AbstractMap$1"), (5, u "values"), (0, u "Ljava/util/Collection;"), (0, .class_ 76), (0, u "java/util/AbstractMap$2"), (104, .class_ 182), (0, u "java/util/AbstractMap$ViewCollection"), (0, .class_ 184), (0, u "java/util/AbstractMap$SimpleImmutableEntry"), (0, .class_ 186), (0, u "java/util/AbstractMap$SimpleEntry"), (0, .class_ 188), (0, u "java/util/AbstractMap$2$1"), (0, .class_ 190), (0, u "java/util/AbstractMap$1$1")] 5

def k5c0 : Code := { maxStack := 1, maxLocals := 1, code := jdk_71_method_1_code, exceptionTable := #[], attributes := #[] }
def k5m0 : Method := { name := "<init>", desc := "()V", sig := { parameters := [], returnType := none }, accessFlags := 4, code := some k5c0 }
/-- java/util/AbstractMap -/
def k5 : Class := { plain "java/util/AbstractMap" (some 0) with
  accessFlags := 1057
  interfaces := #[4]
  cf := some (fileOf pool5 8 #[.nestMembers #[181, 183, 185, 75, 187, 66, 189]] #[{ accessFlags := 4, nameIndex := 5, descriptorIndex := 6, attributes := #[] }] 1057 2 #[53] #[{ accessFlags := 128, nameIndex := 64, descriptorIndex := 65, attributes := #[] }, { accessFlags := 128, nameIndex := 73, descriptorIndex := 74, attributes := #[] }])
  fields := #[{ name := "keySet", type := (.object "java/util/Set"), accessFlags := 128, slot := 0, constantValue := 0 }, { name := "values", type := (.object "java/util/Collection"), accessFlags := 128, slot := 1, constantValue := 0 }]
  methods := #[k5m0]
  instanceTypes := #[(.object "java/util/Set"), (.object "java/util/Collection")]
  staticTypes := #[]
  resolved := Array.replicate 196 none
  statics := none }

def pool6 : Array CpInfo := pool [(1, .class_ 2), (0, u "java/lang/Cloneable"), (0, .class_ 4), (0, u "java/lang/Object")] 2

/-- java/lang/Cloneable -/
def k6 : Class := { plain "java/lang/Cloneable" (some 0) with
  accessFlags := 1537
  interfaces := #[]
  cf := some (fileOf pool6 1 #[] #[] 1537 3 #[] #[])
  fields := #[]
  methods := #[]
  instanceTypes := #[]
  staticTypes := #[]
  resolved := Array.replicate 7 none
  statics := none }

def pool7 : Array CpInfo := pool [(1, .class_ 2), (0, u "java/io/Serializable"), (0, .class_ 4), (0, u "java/lang/Object")] 2

/-- java/io/Serializable -/
def k7 : Class := { plain "java/io/Serializable" (some 0) with
  accessFlags := 1537
  interfaces := #[]
  cf := some (fileOf pool7 1 #[] #[] 1537 3 #[] #[])
  fields := #[]
  methods := #[]
  instanceTypes := #[]
  staticTypes := #[]
  resolved := Array.replicate 7 none
  statics := none }

def pool8 : Array CpInfo := pool [(40, .class_ 41), (0, u "java/util/HashMap"), (1, .methodref 44 45), (0, .class_ 46), (0, .nameAndType 47 48), (0, u "java/util/AbstractMap"), (0, u "<init>"), (0, u "()V"), (32, .fieldref 40 82), (0, .nameAndType 83 84), (0, u "loadFactor"), (0, u "F"), (5, u "threshold"), (0, u "I"), (0, .float 1061158912), (8, .class_ 103), (1, u "java/util/Map"), (0, u "size"), (2, u "table"), (0, u "[Ljava/util/HashMap$Node;"), (14, u "entrySet"), (39, .class_ 165), (1, u "java/util/HashMap$Node"), (14, .class_ 181), (0, u "java/util/HashMap$TreeNode"), (22, u "modCount"), (37, u "Ljava/util/Set;"), (0, .class_ 244), (0, u "java/util/HashMap$KeySet"), (18, .class_ 264), (0, u "java/util/HashMap$Values"), (3, .class_ 269), (0, u "java/util/HashMap$EntrySet"), (76, .class_ 348), (1, u "java/util/HashMap$UnsafeHolder"), (43, .class_ 393), (0, u "java/lang/Cloneable"), (0, .class_ 395), (0, u "java/io/Serializable"), (0, u "serialVersionUID"), (0, u "J"), (3, u "DEFAULT_INITIAL_CAPACITY"), (1, u "MAXIMUM_CAPACITY"), (0, u "DEFAULT_LOAD_FACTOR"), (0, u "TREEIFY_THRESHOLD"), (1, u "UNTREEIFY_THRESHOLD"), (1, u "MIN_TREEIFY_CAPACITY"), (186, .class_ 597), (0, u "java/util/HashMap$EntrySpliterator"), (0, .class_ 599), (0, u "java/util/HashMap$ValueSpliterator"), (0, .class_ 601), (0, u "java/util/HashMap$KeySpliterator"), (0, .class_ 603), (0, u "java/util/HashMap$HashMapSpliterator"), (0, .class_ 605), (0, u "java/util/HashMap$EntryIterator"), (0, .class_ 607), (0, u "java/util/HashMap$ValueIterator"), (0, .class_ 609), (0, u "java/util/HashMap$KeyIterator"), (0, .class_ 611), (0, u "java/util/HashMap$HashIterator")] 17

def k8c0 : Code := { maxStack := 2, maxLocals := 1, code := jdk_69_method_7_code, exceptionTable := #[], attributes := #[] }
def k8m0 : Method := { name := "<init>", desc := "()V", sig := { parameters := [], returnType := none }, accessFlags := 1, code := some k8c0 }
/-- java/util/HashMap -/
def k8 : Class := { plain "java/util/HashMap" (some 5) with
  accessFlags := 33
  interfaces := #[4, 6, 7]
  cf := some (fileOf pool8 40 #[.nestMembers #[180, 596, 598, 600, 602, 604, 606, 608, 610, 346, 268, 263, 243, 163]] #[{ accessFlags := 1, nameIndex := 47, descriptorIndex := 48, attributes := #[] }] 33 44 #[101, 392, 394] #[{ accessFlags := 26, nameIndex := 396, descriptorIndex := 397, attributes := #[] }, { accessFlags := 24, nameIndex := 401, descriptorIndex := 91, attributes := #[] }, { accessFlags := 24, nameIndex := 403, descriptorIndex := 91, attributes := #[] }, { accessFlags := 24, nameIndex := 404, descriptorIndex := 84, attributes := #[] }, { accessFlags := 24, nameIndex := 405, descriptorIndex := 91, attributes := #[] }, { accessFlags := 24, nameIndex := 407, descriptorIndex := 91, attributes := #[] }, { accessFlags := 24, nameIndex := 409, descriptorIndex := 91, attributes := #[] }, { accessFlags := 128, nameIndex := 107, descriptorIndex := 108, attributes := #[] }, { accessFlags := 128, nameIndex := 123, descriptorIndex := 242, attributes := #[] }, { accessFlags := 128, nameIndex := 104, descriptorIndex := 91, attributes := #[] }, { accessFlags := 128, nameIndex := 204, descriptorIndex := 91, attributes := #[] }, { accessFlags := 0, nameIndex := 90, descriptorIndex := 91, attributes := #[] }, { accessFlags := 16, nameIndex := 83, descriptorIndex := 84, attributes := #[] }])
  fields := #[{ name := "serialVersionUID", type := .long, accessFlags := 26, slot := 0, constantValue := 0 }, { name := "DEFAULT_INITIAL_CAPACITY", type := .int, accessFlags := 24, slot := 1, constantValue := 0 }, { name := "MAXIMUM_CAPACITY", type := .int, accessFlags := 24, slot := 2, constantValue := 0 }, { name := "DEFAULT_LOAD_FACTOR", type := .float, accessFlags := 24, slot := 3, constantValue := 0 }, { name := "TREEIFY_THRESHOLD", type := .int, accessFlags := 24, slot := 4, constantValue := 0 }, { name := "UNTREEIFY_THRESHOLD", type := .int, accessFlags := 24, slot := 5, constantValue := 0 }, { name := "MIN_TREEIFY_CAPACITY", type := .int, accessFlags := 24, slot := 6, constantValue := 0 }, { name := "table", type := (.array (.object "java/util/HashMap$Node")), accessFlags := 128, slot := 2, constantValue := 0 }, { name := "entrySet", type := (.object "java/util/Set"), accessFlags := 128, slot := 3, constantValue := 0 }, { name := "size", type := .int, accessFlags := 128, slot := 4, constantValue := 0 }, { name := "modCount", type := .int, accessFlags := 128, slot := 5, constantValue := 0 }, { name := "threshold", type := .int, accessFlags := 0, slot := 6, constantValue := 0 }, { name := "loadFactor", type := .float, accessFlags := 16, slot := 7, constantValue := 0 }]
  methods := #[k8m0]
  instanceTypes := #[(.object "java/util/Set"), (.object "java/util/Collection"), (.array (.object "java/util/HashMap$Node")), (.object "java/util/Set"), .int, .int, .int, .float]
  staticTypes := #[.long, .int, .int, .float, .int, .int, .int]
  resolved := Array.replicate 629 none
  statics := none }

def pool9 : Array CpInfo := pool [(8, .class_ 10), (1, u "java/lang/Iterable"), (24, .class_ 36), (0, u "java/lang/Object")] 25

/-- java/lang/Iterable -/
def k9 : Class := { plain "java/lang/Iterable" (some 0) with
  accessFlags := 1537
  interfaces := #[]
  cf := some (fileOf pool9 8 #[] #[] 1537 35 #[] #[])
  fields := #[]
  methods := #[]
  instanceTypes := #[]
  staticTypes := #[]
  resolved := Array.replicate 62 none
  statics := none }

def pool10 : Array CpInfo := pool [(10, .class_ 12), (1, u "java/util/Collection"), (47, .class_ 61), (0, u "java/lang/Object"), (0, .class_ 63), (0, u "java/lang/Iterable")] 51

/-- java/util/Collection -/
def k10 : Class := { plain "java/util/Collection" (some 0) with
  accessFlags := 1537
  interfaces := #[9]
  cf := some (fileOf pool10 10 #[] #[] 1537 60 #[62] #[])
  fields := #[]
  methods := #[]
  instanceTypes := #[]
  staticTypes := #[]
  resolved := Array.replicate 115 none
  statics := none }

def pool11 : Array CpInfo := pool [(1, .methodref 2 3), (0, .class_ 4), (0, .nameAndType 5 6), (0, u "java/lang/Object"), (0, u "<init>"), (0, u "()V"), (1, .class_ 10), (1, u "java/util/AbstractCollection"), (66, .class_ 78), (0, u "java/util/Collection")] 81

def k11c0 : Code := { maxStack := 1, maxLocals := 1, code := jdk_22_method_1_code, exceptionTable := #[], attributes := #[] }
def k11m0 : Method := { name := "<init>", desc := "()V", sig := { parameters := [], returnType := none }, accessFlags := 4, code := some k11c0 }
/-- java/util/AbstractCollection -/
def k11 : Class := { plain "java/util/AbstractCollection" (some 0) with
  accessFlags := 1057
  interfaces := #[10]
  cf := some (fileOf pool11 8 #[] #[{ accessFlags := 4, nameIndex := 5, descriptorIndex := 6, attributes := #[] }] 1057 2 #[77] #[])
  fields := #[]
  methods := #[k11m0]
  instanceTypes := #[]
  staticTypes := #[]
  resolved := Array.replicate 160 none
  statics := none }

def pool12 : Array CpInfo := pool [(8, .class_ 10), (1, u "java/util/SequencedCollection"), (15, .class_ 27), (0, u "java/lang/Object"), (0, .class_ 29), (0, u "java/util/Collection")] 27

/-- java/util/SequencedCollection -/
def k12 : Class := { plain "java/util/SequencedCollection" (some 0) with
  accessFlags := 1537
  interfaces := #[10]
  cf := some (fileOf pool12 8 #[] #[] 1537 26 #[28] #[])
  fields := #[]
  methods := #[]
  instanceTypes := #[]
  staticTypes := #[]
  resolved := Array.replicate 57 none
  statics := none }

def pool13 : Array CpInfo := pool [(8, .class_ 10), (1, u "java/util/List"), (68, u "size"), (0, u "()I"), (22, .class_ 104), (0, u "java/lang/Object"), (15, .class_ 121), (0, u "java/util/SequencedCollection")] 129

def k13m0 : Method := { name := "size", desc := "()I", sig := { parameters := [], returnType := some .int }, accessFlags := 1025, code := none }
/-- java/util/List -/
def k13 : Class := { plain "java/util/List" (some 0) with
  accessFlags := 1537
  interfaces := #[12]
  cf := some (fileOf pool13 8 #[] #[{ accessFlags := 1025, nameIndex := 79, descriptorIndex := 80, attributes := #[] }] 1537 103 #[120] #[])
  fields := #[]
  methods := #[k13m0]
  instanceTypes := #[]
  staticTypes := #[]
  resolved := Array.replicate 251 none
  statics := none }

def pool14 : Array CpInfo := pool [(1, .methodref 2 3), (0, .class_ 4), (0, .nameAndType 5 6), (0, u "java/util/AbstractCollection"), (0, u "<init>"), (0, u "()V"), (0, .fieldref 8 9), (0, .class_ 10), (0, .nameAndType 11 12), (0, u "java/util/AbstractList"), (0, u "modCount"), (0, u "I"), (64, .class_ 78), (0, u "java/util/AbstractList$Itr"), (3, .class_ 83), (0, u "java/util/AbstractList$ListItr"), (9, .class_ 94), (0, u "java/util/AbstractList$RandomAccessSubList"), (3, .class_ 99), (0, u "java/util/AbstractList$SubList"), (33, .class_ 134), (0, u "java/util/List"), (73, .class_ 209), (0, u "java/util/AbstractList$SubList$1"), (0, .class_ 211), (0, u "java/util/AbstractList$RandomAccessSpliterator")] 6

def k14c0 : Code := { maxStack := 2, maxLocals := 1, code := jdk_39_method_1_code, exceptionTable := #[], attributes := #[] }
def k14m0 : Method := { name := "<init>", desc := "()V", sig := { parameters := [], returnType := none }, accessFlags := 4, code := some k14c0 }
/-- java/util/AbstractList -/
def k14 : Class := { plain "java/util/AbstractList" (some 11) with
  accessFlags := 1057
  interfaces := #[13]
  cf := some (fileOf pool14 8 #[.nestMembers #[93, 98, 208, 210, 82, 77]] #[{ accessFlags := 4, nameIndex := 5, descriptorIndex := 6, attributes := #[] }] 1057 2 #[133] #[{ accessFlags := 132, nameIndex := 11, descriptorIndex := 12, attributes := #[] }])
  fields := #[{ name := "modCount", type := .int, accessFlags := 132, slot := 0, constantValue := 0 }]
  methods := #[k14m0]
  instanceTypes := #[.int]
  staticTypes := #[]
  resolved := Array.replicate 218 none
  statics := none }

def pool15 : Array CpInfo := pool [(1, .class_ 2), (0, u "java/util/RandomAccess"), (0, .class_ 4), (0, u "java/lang/Object")] 2

/-- java/util/RandomAccess -/
def k15 : Class := { plain "java/util/RandomAccess" (some 0) with
  accessFlags := 1537
  interfaces := #[]
  cf := some (fileOf pool15 1 #[] #[] 1537 3 #[] #[])
  fields := #[]
  methods := #[]
  instanceTypes := #[]
  staticTypes := #[]
  resolved := Array.replicate 7 none
  statics := none }

def pool16 : Array CpInfo := pool [(1, .methodref 2 3), (0, .class_ 4), (0, .nameAndType 5 6), (0, u "java/util/AbstractList"), (0, u "<init>"), (0, u "()V"), (2, .fieldref 10 11), (0, .class_ 12), (0, .nameAndType 13 14), (0, u "java/util/ArrayList"), (0, u "elementData"), (0, u "[Ljava/lang/Object;"), (2, u "EMPTY_ELEMENTDATA"), (21, .fieldref 10 40), (0, .nameAndType 41 14), (0, u "DEFAULTCAPACITY_EMPTY_ELEMENTDATA"), (6, .fieldref 10 49), (0, .nameAndType 50 51), (0, u "size"), (0, u "I"), (96, .class_ 149), (0, u "java/util/List"), (36, u "()I"), (75, .class_ 263), (0, u "java/util/ArrayList$ListItr"), (3, .class_ 268), (0, u "java/util/ArrayList$Itr"), (7, .class_ 277), (0, u "java/util/ArrayList$SubList"), (12, .class_ 291), (0, u "java/util/ArrayList$ArrayListSpliterator"), (37, .class_ 330), (0, u "java/util/RandomAccess"), (0, .class_ 332), (0, u "java/lang/Cloneable"), (0, .class_ 334), (0, u "java/io/Serializable"), (0, u "serialVersionUID"), (0, u "J"), (3, u "DEFAULT_CAPACITY"), (159, .class_ 501), (0, u "java/util/ArrayList$SubList$2"), (0, .class_ 503), (0, u "java/util/ArrayList$SubList$1")] 5

def k16c0 : Code := { maxStack := 2, maxLocals := 1, code := jdk_38_method_2_code, exceptionTable := #[], attributes := #[] }
def k16m0 : Method := { name := "<init>", desc := "()V", sig := { parameters := [], returnType := none }, accessFlags := 1, code := some k16c0 }
def k16c1 : Code := { maxStack := 1, maxLocals := 1, code := jdk_38_method_8_code, exceptionTable := #[], attributes := #[] }
def k16m1 : Method := { name := "size", desc := "()I", sig := { parameters := [], returnType := some .int }, accessFlags := 1, code := some k16c1 }
/-- java/util/ArrayList -/
def k16 : Class := { plain "java/util/ArrayList" (some 14) with
  accessFlags := 33
  interfaces := #[13, 15, 6, 7]
  cf := some (fileOf pool16 10 #[.nestMembers #[290, 276, 500, 502, 262, 267]] #[{ accessFlags := 1, nameIndex := 5, descriptorIndex := 6, attributes := #[] }, { accessFlags := 1, nameIndex := 50, descriptorIndex := 186, attributes := #[] }] 33 2 #[148, 329, 331, 333] #[{ accessFlags := 26, nameIndex := 335, descriptorIndex := 336, attributes := #[] }, { accessFlags := 26, nameIndex := 340, descriptorIndex := 51, attributes := #[] }, { accessFlags := 26, nameIndex := 17, descriptorIndex := 14, attributes := #[] }, { accessFlags := 26, nameIndex := 41, descriptorIndex := 14, attributes := #[] }, { accessFlags := 128, nameIndex := 13, descriptorIndex := 14, attributes := #[] }, { accessFlags := 2, nameIndex := 50, descriptorIndex := 51, attributes := #[] }])
  fields := #[{ name := "serialVersionUID", type := .long, accessFlags := 26, slot := 0, constantValue := 0 }, { name := "DEFAULT_CAPACITY", type := .int, accessFlags := 26, slot := 1, constantValue := 0 }, { name := "EMPTY_ELEMENTDATA", type := (.array (.object "java/lang/Object")), accessFlags := 26, slot := 2, constantValue := 0 }, { name := "DEFAULTCAPACITY_EMPTY_ELEMENTDATA", type := (.array (.object "java/lang/Object")), accessFlags := 26, slot := 3, constantValue := 0 }, { name := "elementData", type := (.array (.object "java/lang/Object")), accessFlags := 128, slot := 1, constantValue := 0 }, { name := "size", type := .int, accessFlags := 2, slot := 2, constantValue := 0 }]
  methods := #[k16m0, k16m1]
  instanceTypes := #[.int, (.array (.object "java/lang/Object")), .int]
  staticTypes := #[.long, .int, (.array (.object "java/lang/Object")), (.array (.object "java/lang/Object"))]
  resolved := Array.replicate 509 none
  statics := some 0 }

def pool17 : Array CpInfo := pool [(1, .class_ 2), (0, u "java/lang/Math"), (1, .class_ 6), (1, u "java/lang/Object"), (0, u "<init>"), (0, u "()V"), (89, .class_ 100), (1, u "java/lang/Math$RandomNumberGeneratorHolder"), (71, u "negativeZeroFloatBits"), (0, u "J"), (2, u "negativeZeroDoubleBits"), (21, u "max"), (2, u "min"), (43, u "$assertionsDisabled"), (0, u "Z"), (88, u "(II)I"), (2, u "twoToTheDoubleScaleDown"), (0, u "D"), (4, u "twoToTheDoubleScaleUp"), (9, u "E"), (3, u "PI"), (2, u "TAU"), (2, u "DEGREES_TO_RADIANS"), (0, u "RADIANS_TO_DEGREES")] 94

def k17m0 : Method := { name := "<init>", desc := "()V", sig := { parameters := [], returnType := none }, accessFlags := 2, code := none }
def k17c1 : Code := { maxStack := 2, maxLocals := 2, code := jdk_29_method_65_code, exceptionTable := #[], attributes := #[] }
def k17m1 : Method := { name := "max", desc := "(II)I", sig := { parameters := [.int, .int], returnType := some .int }, accessFlags := 9, code := some k17c1 }
def k17c2 : Code := { maxStack := 2, maxLocals := 2, code := jdk_29_method_69_code, exceptionTable := #[], attributes := #[] }
def k17m2 : Method := { name := "min", desc := "(II)I", sig := { parameters := [.int, .int], returnType := some .int }, accessFlags := 9, code := some k17c2 }
/-- java/lang/Math -/
def k17 : Class := { plain "java/lang/Math" (some 0) with
  accessFlags := 49
  interfaces := #[]
  cf := some (fileOf pool17 1 #[.nestMembers #[98]] #[{ accessFlags := 2, nameIndex := 7, descriptorIndex := 8, attributes := #[] }, { accessFlags := 9, nameIndex := 198, descriptorIndex := 335, attributes := #[] }, { accessFlags := 9, nameIndex := 201, descriptorIndex := 335, attributes := #[] }] 49 4 #[] #[{ accessFlags := 25, nameIndex := 354, descriptorIndex := 339, attributes := #[] }, { accessFlags := 25, nameIndex := 358, descriptorIndex := 339, attributes := #[] }, { accessFlags := 25, nameIndex := 361, descriptorIndex := 339, attributes := #[] }, { accessFlags := 26, nameIndex := 364, descriptorIndex := 339, attributes := #[] }, { accessFlags := 26, nameIndex := 365, descriptorIndex := 339, attributes := #[] }, { accessFlags := 26, nameIndex := 172, descriptorIndex := 173, attributes := #[] }, { accessFlags := 26, nameIndex := 176, descriptorIndex := 173, attributes := #[] }, { accessFlags := 8, nameIndex := 344, descriptorIndex := 339, attributes := #[] }, { accessFlags := 8, nameIndex := 338, descriptorIndex := 339, attributes := #[] }, { accessFlags := 4120, nameIndex := 245, descriptorIndex := 246, attributes := #[] }])
  fields := #[{ name := "E", type := .double, accessFlags := 25, slot := 0, constantValue := 0 }, { name := "PI", type := .double, accessFlags := 25, slot := 1, constantValue := 0 }, { name := "TAU", type := .double, accessFlags := 25, slot := 2, constantValue := 0 }, { name := "DEGREES_TO_RADIANS", type := .double, accessFlags := 26, slot := 3, constantValue := 0 }, { name := "RADIANS_TO_DEGREES", type := .double, accessFlags := 26, slot := 4, constantValue := 0 }, { name := "negativeZeroFloatBits", type := .long, accessFlags := 26, slot := 5, constantValue := 0 }, { name := "negativeZeroDoubleBits", type := .long, accessFlags := 26, slot := 6, constantValue := 0 }, { name := "twoToTheDoubleScaleUp", type := .double, accessFlags := 8, slot := 7, constantValue := 0 }, { name := "twoToTheDoubleScaleDown", type := .double, accessFlags := 8, slot := 8, constantValue := 0 }, { name := "$assertionsDisabled", type := .boolean, accessFlags := 4120, slot := 9, constantValue := 0 }]
  methods := #[k17m0, k17m1, k17m2]
  instanceTypes := #[]
  staticTypes := #[.double, .double, .double, .double, .double, .long, .long, .double, .double, .boolean]
  resolved := Array.replicate 460 none
  statics := none }

def pool18 : Array CpInfo := pool [(2, .class_ 4), (1, u "java/lang/Object"), (0, u "<init>"), (0, u "()V"), (7, .class_ 16), (1, u "java/util/Arrays"), (57, .class_ 76), (1, u "java/util/Arrays$NaturalOrder"), (36, .class_ 115), (1, u "java/util/Arrays$LegacyMergeSort"), (1, u "Z"), (32, .methodref 151 152), (0, .class_ 153), (0, .nameAndType 154 155), (0, u "java/lang/System"), (0, u "arraycopy"), (0, u "(Ljava/lang/Object;ILjava/lang/Object;II)V"), (146, u "copyOf"), (1, .methodref 305 306), (0, .class_ 307), (0, .nameAndType 308 309), (0, u "java/lang/Math"), (0, u "min"), (0, u "(II)I"), (65, .class_ 376), (0, u "java/util/Arrays$ArrayList"), (68, u "$assertionsDisabled"), (269, u "MIN_ARRAY_SORT_GRAN"), (0, u "I"), (2, u "INSERTIONSORT_THRESHOLD"), (151, u "([II)[I"), (103, .class_ 976), (0, u "java/util/Arrays$ArrayItr")] 52

def k18m0 : Method := { name := "<init>", desc := "()V", sig := { parameters := [], returnType := none }, accessFlags := 2, code := none }
def k18c1 : Code := { maxStack := 6, maxLocals := 3, code := jdk_65_method_123_code, exceptionTable := #[], attributes := #[] }
def k18m1 : Method := { name := "copyOf", desc := "([II)[I", sig := { parameters := [(.array .int), .int], returnType := some (.array .int) }, accessFlags := 9, code := some k18c1 }
/-- java/util/Arrays -/
def k18 : Class := { plain "java/util/Arrays" (some 0) with
  accessFlags := 49
  interfaces := #[]
  cf := some (fileOf pool18 14 #[.nestMembers #[975, 375, 113, 74]] #[{ accessFlags := 2, nameIndex := 5, descriptorIndex := 6, attributes := #[] }, { accessFlags := 9, nameIndex := 302, descriptorIndex := 871, attributes := #[] }] 49 2 #[] #[{ accessFlags := 26, nameIndex := 715, descriptorIndex := 716, attributes := #[] }, { accessFlags := 26, nameIndex := 719, descriptorIndex := 716, attributes := #[] }, { accessFlags := 4120, nameIndex := 445, descriptorIndex := 117, attributes := #[] }])
  fields := #[{ name := "MIN_ARRAY_SORT_GRAN", type := .int, accessFlags := 26, slot := 0, constantValue := 0 }, { name := "INSERTIONSORT_THRESHOLD", type := .int, accessFlags := 26, slot := 1, constantValue := 0 }, { name := "$assertionsDisabled", type := .boolean, accessFlags := 4120, slot := 2, constantValue := 0 }]
  methods := #[k18m0, k18m1]
  instanceTypes := #[]
  staticTypes := #[.int, .int, .boolean]
  resolved := Array.replicate 1029 none
  statics := none }

def pool19 : Array CpInfo := pool [(2, .class_ 4), (1, u "java/lang/Object"), (0, u "<init>"), (0, u "()V"), (1, .class_ 10), (1, u "java/lang/System"), (0, u "allowSecurityManager"), (0, u "I"), (16, u "cons"), (0, u "Ljava/io/Console;"), (77, .class_ 110), (1, u "java/lang/System$CallersHolder"), (43, u "initialErrStream"), (0, u "Ljava/io/PrintStream;"), (19, u "security"), (0, u "Ljava/lang/SecurityManager;"), (31, .class_ 209), (0, u "java/lang/System$1"), (7, u "props"), (0, u "Ljava/util/Properties;"), (2, u "lineSeparator"), (0, u "Ljava/lang/String;"), (96, .class_ 321), (1, u "java/lang/System$LoggerFinder"), (5, .class_ 328), (0, u "java/lang/System$Logger"), (67, u "err"), (2, u "out"), (91, u "notSupportedJnuEncoding"), (15, u "in"), (17, u "initialIn"), (0, u "Ljava/io/InputStream;"), (35, u "bootLayer"), (0, u "Ljava/lang/ModuleLayer;"), (99, .class_ 664), (0, u "java/lang/System$2"), (9, u "NEVER"), (2, u "MAYBE"), (49, u "arraycopy"), (0, u "(Ljava/lang/Object;ILjava/lang/Object;II)V"), (72, .class_ 802), (0, u "java/lang/System$Logger$Level")] 31

def k19m0 : Method := { name := "<init>", desc := "()V", sig := { parameters := [], returnType := none }, accessFlags := 2, code := none }
def k19m1 : Method := { name := "arraycopy", desc := "(Ljava/lang/Object;ILjava/lang/Object;II)V", sig := { parameters := [(.object "java/lang/Object"), .int, (.object "java/lang/Object"), .int, .int], returnType := none }, accessFlags := 265, code := none }
/-- java/lang/System -/
def k19 : Class := { plain "java/lang/System" (some 0) with
  accessFlags := 49
  interfaces := #[]
  cf := some (fileOf pool19 8 #[.nestMembers #[319, 327, 801, 108, 663, 208]] #[{ accessFlags := 2, nameIndex := 5, descriptorIndex := 6, attributes := #[] }, { accessFlags := 265, nameIndex := 727, descriptorIndex := 728, attributes := #[] }] 49 2 #[] #[{ accessFlags := 25, nameIndex := 507, descriptorIndex := 526, attributes := #[] }, { accessFlags := 25, nameIndex := 399, descriptorIndex := 155, attributes := #[] }, { accessFlags := 25, nameIndex := 396, descriptorIndex := 155, attributes := #[] }, { accessFlags := 10, nameIndex := 525, descriptorIndex := 526, attributes := #[] }, { accessFlags := 26, nameIndex := 674, descriptorIndex := 12, attributes := #[] }, { accessFlags := 26, nameIndex := 677, descriptorIndex := 12, attributes := #[] }, { accessFlags := 10, nameIndex := 11, descriptorIndex := 12, attributes := #[] }, { accessFlags := 74, nameIndex := 175, descriptorIndex := 176, attributes := #[] }, { accessFlags := 10, nameIndex := 491, descriptorIndex := 222, attributes := #[] }, { accessFlags := 74, nameIndex := 29, descriptorIndex := 30, attributes := #[] }, { accessFlags := 74, nameIndex := 154, descriptorIndex := 155, attributes := #[] }, { accessFlags := 10, nameIndex := 217, descriptorIndex := 218, attributes := #[] }, { accessFlags := 10, nameIndex := 221, descriptorIndex := 222, attributes := #[] }, { accessFlags := 8, nameIndex := 562, descriptorIndex := 563, attributes := #[] }])
  fields := #[{ name := "in", type := (.object "java/io/InputStream"), accessFlags := 25, slot := 0, constantValue := 0 }, { name := "out", type := (.object "java/io/PrintStream"), accessFlags := 25, slot := 1, constantValue := 0 }, { name := "err", type := (.object "java/io/PrintStream"), accessFlags := 25, slot := 2, constantValue := 0 }, { name := "initialIn", type := (.object "java/io/InputStream"), accessFlags := 10, slot := 3, constantValue := 0 }, { name := "NEVER", type := .int, accessFlags := 26, slot := 4, constantValue := 0 }, { name := "MAYBE", type := .int, accessFlags := 26, slot := 5, constantValue := 0 }, { name := "allowSecurityManager", type := .int, accessFlags := 10, slot := 6, constantValue := 0 }, { name := "security", type := (.object "java/lang/SecurityManager"), accessFlags := 74, slot := 7, constantValue := 0 }, { name := "notSupportedJnuEncoding", type := (.object "java/lang/String"), accessFlags := 10, slot := 8, constantValue := 0 }, { name := "cons", type := (.object "java/io/Console"), accessFlags := 74, slot := 9, constantValue := 0 }, { name := "initialErrStream", type := (.object "java/io/PrintStream"), accessFlags := 74, slot := 10, constantValue := 0 }, { name := "props", type := (.object "java/util/Properties"), accessFlags := 10, slot := 11, constantValue := 0 }, { name := "lineSeparator", type := (.object "java/lang/String"), accessFlags := 10, slot := 12, constantValue := 0 }, { name := "bootLayer", type := (.object "java/lang/ModuleLayer"), accessFlags := 8, slot := 13, constantValue := 0 }]
  methods := #[k19m0, k19m1]
  instanceTypes := #[]
  staticTypes := #[(.object "java/io/InputStream"), (.object "java/io/PrintStream"), (.object "java/io/PrintStream"), (.object "java/io/InputStream"), .int, .int, .int, (.object "java/lang/SecurityManager"), (.object "java/lang/String"), (.object "java/io/Console"), (.object "java/io/PrintStream"), (.object "java/util/Properties"), (.object "java/lang/String"), (.object "java/lang/ModuleLayer")]
  resolved := Array.replicate 834 none
  statics := none }

def pool20 : Array CpInfo := pool [(1, .methodref 2 3), (0, .class_ 4), (0, .nameAndType 5 6), (0, u "java/util/AbstractMap"), (0, u "<init>"), (0, u "()V"), (0, .fieldref 8 9), (0, .class_ 10), (0, .nameAndType 11 12), (0, u "com/example/obedient_dog/obedientdog/topologydiscovery/AgeTable"), (0, u "log"), (0, u "Lcom/example/obedient_dog/obedientdog/topologydiscovery/AgeLog;"), (0, .fieldref 8 14), (0, .nameAndType 15 16), (0, u "end"), (0, u "I"), (0, .fieldref 8 18), (0, .nameAndType 19 16), (0, u "size"), (0, .fieldref 8 21), (0, .nameAndType 22 16), (0, u "present"), (0, .fieldref 8 24), (0, .nameAndType 25 16), (0, u "hash"), (101, .class_ 129), (1, u "com/example/obedient_dog/obedientdog/topologydiscovery/AgeTable$Visitor"), (10, .class_ 142), (1, u "com/example/obedient_dog/obedientdog/topologydiscovery/AgeTable$Condition"), (11, .class_ 155), (0, u "com/example/obedient_dog/obedientdog/topologydiscovery/AgeTable$1"), (26, u "(Lcom/example/obedient_dog/obedientdog/topologydiscovery/AgeLog;IIII)V"), (27, .class_ 211), (0, u "com/example/obedient_dog/obedientdog/topologydiscovery/AgeTable$Entries")] 31

def k20c0 : Code := { maxStack := 2, maxLocals := 6, code := prog_41_method_1_code, exceptionTable := #[], attributes := #[] }
def k20m0 : Method := { name := "<init>", desc := "(Lcom/example/obedient_dog/obedientdog/topologydiscovery/AgeLog;IIII)V", sig := { parameters := [(.object "com/example/obedient_dog/obedientdog/topologydiscovery/AgeLog"), .int, .int, .int, .int], returnType := none }, accessFlags := 0, code := some k20c0 }
/-- com/example/obedient_dog/obedientdog/topologydiscovery/AgeTable -/
def k20 : Class := { plain "com/example/obedient_dog/obedientdog/topologydiscovery/AgeTable" (some 5) with
  accessFlags := 48
  interfaces := #[]
  cf := some (fileOf pool20 8 #[.nestMembers #[210, 140, 127, 154]] #[{ accessFlags := 0, nameIndex := 5, descriptorIndex := 182, attributes := #[] }] 48 2 #[] #[{ accessFlags := 18, nameIndex := 11, descriptorIndex := 12, attributes := #[] }, { accessFlags := 18, nameIndex := 15, descriptorIndex := 16, attributes := #[] }, { accessFlags := 18, nameIndex := 19, descriptorIndex := 16, attributes := #[] }, { accessFlags := 18, nameIndex := 22, descriptorIndex := 16, attributes := #[] }, { accessFlags := 18, nameIndex := 25, descriptorIndex := 16, attributes := #[] }])
  fields := #[{ name := "log", type := (.object "com/example/obedient_dog/obedientdog/topologydiscovery/AgeLog"), accessFlags := 18, slot := 2, constantValue := 0 }, { name := "end", type := .int, accessFlags := 18, slot := 3, constantValue := 0 }, { name := "size", type := .int, accessFlags := 18, slot := 4, constantValue := 0 }, { name := "present", type := .int, accessFlags := 18, slot := 5, constantValue := 0 }, { name := "hash", type := .int, accessFlags := 18, slot := 6, constantValue := 0 }]
  methods := #[k20m0]
  instanceTypes := #[(.object "java/util/Set"), (.object "java/util/Collection"), (.object "com/example/obedient_dog/obedientdog/topologydiscovery/AgeLog"), .int, .int, .int, .int]
  staticTypes := #[]
  resolved := Array.replicate 243 none
  statics := none }

/-- the primitive byte -/
def k21 : Class := { plain "byte" none with kind := .primitive 'B', accessFlags := 0x411 }
/-- [B -/
def k22 : Class := { plain "[B" (some 0) with kind := .array 21 .byte, interfaces := #[6, 7], accessFlags := 1041 }

/-- the primitive int -/
def k23 : Class := { plain "int" none with kind := .primitive 'I', accessFlags := 0x411 }
/-- [I -/
def k24 : Class := { plain "[I" (some 0) with kind := .array 23 .int, interfaces := #[6, 7], accessFlags := 1041 }

/-- [Ljava/lang/Object; -/
def k25 : Class := { plain "[Ljava/lang/Object;" (some 0) with kind := .array 0 (.object "java/lang/Object"), interfaces := #[6, 7], accessFlags := 1041 }

def heap : Heap := #[{ cls := 16, slots := #[.long 0, .int 0, .ref 1, .ref 2], vm := .statics 16 },
  { cls := 25, slots := #[], vm := .none },
  { cls := 25, slots := #[], vm := .none }]
def classes : Array Class := #[k0, k1, k2, k3, k4, k5, k6, k7, k8, k9, k10, k11, k12, k13, k14, k15, k16, k17, k18, k19, k20, k21, k22, k23, k24, k25]
def interned : List (Array UInt16 × Addr) := []
def slotsUsed : Nat := 4
def theMethod : MethodId := ⟨1, 1⟩
def args0 : Array Value := #[.int 12837, .int 3, .int 9, .int 4, .int 2]
def aboutOver (below : List Frame) : State where
  vm := { classes := classes, interned := interned.toArray }
  heap := heap
  slotsUsed := slotsUsed
  threads := #[{ frames := .invoking theMethod args0 :: below }]
def below0 : List Frame := [.native { method := ⟨0, 0⟩, args := #[] }]
def about1 : State := aboutOver below0
def p0 : Program := .bare "" "" ""
def e0 : Env := launch0.env 0 0 0
theorem w_frames : about1.frames = Frame.invoking theMethod args0 :: below0 := rfl
set_option maxRecDepth 65536 in
theorem w_args : argsFit about1.vm theMethod args0 = true := by decide +kernel
set_option maxRecDepth 65536 in
theorem w_heap : heapFits about1 = true := by decide +kernel
set_option maxRecDepth 65536 in
theorem w_runnable : about1.curStatus? = some .runnable := by decide +kernel
set_option maxRecDepth 65536 in
theorem w_alone : about1.alone = true := by decide +kernel
set_option maxRecDepth 65536 in
theorem w_named : about1.methodNamed? x = some theMethod := by decide +kernel
set_option maxRecDepth 65536 in
theorem w_hears : about1.hears theMethod below0 = true := by decide +kernel
set_option maxRecDepth 65536 in
theorem w_ripe : about1.ripe theMethod args0 below0 = true := by decide +kernel
theorem w_running : about1.status = .running := rfl
set_option maxRecDepth 65536 in
theorem w_room : about1.hasRoom e0.platform room_1 = true :=
  launch0.hasRoom_least _ room_1 (by decide +kernel) (by decide +kernel) (by decide +kernel) (by decide +kernel) (by decide +kernel) (by decide +kernel)
theorem allAtoms_all (ts : List Jvm.Cond) (a : Array Jvm.Value) (st : Jvm.State) : (allAtoms ts).before a st = ts.all (fun c => c.before a st) := by
  induction ts with
  | nil => rfl
  | cons c t ih =>
    show (Jvm.Cond.and c (allAtoms t)).before a st = _
    rw [Jvm.Cond.before_and, ih, List.all_cons]
def words1 : List Jvm.Cond := Jvm.Cond.code x code maxLocals ret :: tables_1
/-- a 'code' word, met by the world's own term for the bytes: nothing is compared byte by byte -/
theorem code_word {y : MethodName} {bytes : ByteArray} {mx : Nat} {rt : Option FieldType} {a : Array Value} {s : State} {m : MethodId} {meth : Method} {c : Code} (h1 : s.methodNamed? y = some m) (h2 : s.vm.method? m = some meth) (h3 : meth.code = some c) (h4 : c.code = bytes)
    (h5 : (c.maxLocals == mx && c.exceptionTable.isEmpty && decide (c.maxStack ≤ mostOperands) && decide (meth.sig.returnType = rt) && !meth.locks && decide (parseMethodDescriptor y.desc = some meth.sig)) = true) : (Jvm.Cond.code y bytes mx rt).before a s = true := by
  simp only [Bool.and_eq_true, beq_iff_eq, Bool.not_eq_true', decide_eq_true_eq] at h5
  obtain ⟨⟨⟨⟨⟨g1, g2⟩, g3⟩, g4⟩, g5⟩, g6⟩ := h5
  simp [Cond.before, Cond.holds, Cond.value, h1, h2, h3, h4, g1, g2, g3, g4, g5, g6]
def isCode : Jvm.Cond → Bool
  | .code _ _ _ _ => true
  | _ => false
theorem all_split {L : List Jvm.Cond} {P : Jvm.Cond → Bool} (h1 : L.all (fun c => isCode c || P c) = true) (h2 : ∀ c ∈ L.filter isCode, P c = true) : L.all P = true := by
  refine List.all_eq_true.mpr fun c hc => ?_
  have h := List.all_eq_true.mp h1 c hc
  rcases Bool.eq_false_or_eq_true (isCode c) with hi | hi
  · exact h2 c (List.mem_filter.mpr ⟨hc, hi⟩)
  · simpa [hi] using h
set_option maxRecDepth 65536 in
theorem w_c0 : (Jvm.Cond.code x code maxLocals ret).before args0 about1 = true := code_word (m := ⟨1, 1⟩) (meth := k1m1) (c := k1c1) (by decide +kernel) rfl rfl rfl (by decide +kernel)
set_option maxRecDepth 65536 in
theorem w_c1 : (Jvm.Cond.code ({ cls := "com/example/obedient_dog/obedientdog/topologydiscovery/LinkNumbers", name := "<init>", desc := "()V" } : Jvm.MethodName) prog_46_method_1_code (1 : Nat) (Option.none : Option Jvm.ClassFile.FieldType)).before args0 about1 = true := code_word (m := ⟨3, 0⟩) (meth := k3m0) (c := k3c0) (by decide +kernel) rfl rfl rfl (by decide +kernel)
set_option maxRecDepth 65536 in
theorem w_c2 : (Jvm.Cond.code ({ cls := "java/lang/Object", name := "<init>", desc := "()V" } : Jvm.MethodName) object_method_1_code (1 : Nat) (Option.none : Option Jvm.ClassFile.FieldType)).before args0 about1 = true := code_word (m := ⟨0, 0⟩) (meth := k0m0) (c := k0c0) (by decide +kernel) rfl rfl rfl (by decide +kernel)
set_option maxRecDepth 65536 in
theorem w_c3 : (Jvm.Cond.code ({ cls := "java/util/HashMap", name := "<init>", desc := "()V" } : Jvm.MethodName) jdk_69_method_7_code (1 : Nat) (Option.none : Option Jvm.ClassFile.FieldType)).before args0 about1 = true := code_word (m := ⟨8, 0⟩) (meth := k8m0) (c := k8c0) (by decide +kernel) rfl rfl rfl (by decide +kernel)
set_option maxRecDepth 65536 in
theorem w_c4 : (Jvm.Cond.code ({ cls := "java/util/AbstractMap", name := "<init>", desc := "()V" } : Jvm.MethodName) jdk_71_method_1_code (1 : Nat) (Option.none : Option Jvm.ClassFile.FieldType)).before args0 about1 = true := code_word (m := ⟨5, 0⟩) (meth := k5m0) (c := k5c0) (by decide +kernel) rfl rfl rfl (by decide +kernel)
set_option maxRecDepth 65536 in
theorem w_c5 : (Jvm.Cond.code ({ cls := "java/util/ArrayList", name := "<init>", desc := "()V" } : Jvm.MethodName) jdk_38_method_2_code (1 : Nat) (Option.none : Option Jvm.ClassFile.FieldType)).before args0 about1 = true := code_word (m := ⟨16, 0⟩) (meth := k16m0) (c := k16c0) (by decide +kernel) rfl rfl rfl (by decide +kernel)
set_option maxRecDepth 65536 in
theorem w_c6 : (Jvm.Cond.code ({ cls := "java/util/AbstractList", name := "<init>", desc := "()V" } : Jvm.MethodName) jdk_39_method_1_code (1 : Nat) (Option.none : Option Jvm.ClassFile.FieldType)).before args0 about1 = true := code_word (m := ⟨14, 0⟩) (meth := k14m0) (c := k14c0) (by decide +kernel) rfl rfl rfl (by decide +kernel)
set_option maxRecDepth 65536 in
theorem w_c7 : (Jvm.Cond.code ({ cls := "java/util/AbstractCollection", name := "<init>", desc := "()V" } : Jvm.MethodName) jdk_22_method_1_code (1 : Nat) (Option.none : Option Jvm.ClassFile.FieldType)).before args0 about1 = true := code_word (m := ⟨11, 0⟩) (meth := k11m0) (c := k11c0) (by decide +kernel) rfl rfl rfl (by decide +kernel)
set_option maxRecDepth 65536 in
theorem w_c8 : (Jvm.Cond.code ({ cls := "com/example/obedient_dog/obedientdog/topologydiscovery/AgeLog", name := "<init>", desc := "(Lcom/example/obedient_dog/obedientdog/topologydiscovery/LinkNumbers;)V" } : Jvm.MethodName) prog_39_method_1_code (2 : Nat) (Option.none : Option Jvm.ClassFile.FieldType)).before args0 about1 = true := code_word (m := ⟨2, 0⟩) (meth := k2m0) (c := k2c0) (by decide +kernel) rfl rfl rfl (by decide +kernel)
set_option maxRecDepth 65536 in
theorem w_c9 : (Jvm.Cond.code ({ cls := "com/example/obedient_dog/obedientdog/topologydiscovery/AgeLog", name := "raise", desc := "(II)Z" } : Jvm.MethodName) prog_39_method_6_code (6 : Nat) (Option.some Jvm.ClassFile.FieldType.boolean)).before args0 about1 = true := code_word (m := ⟨2, 3⟩) (meth := k2m3) (c := k2c3) (by decide +kernel) rfl rfl rfl (by decide +kernel)
set_option maxRecDepth 65536 in
theorem w_c10 : (Jvm.Cond.code ({ cls := "com/example/obedient_dog/obedientdog/topologydiscovery/AgeLog", name := "add", desc := "(II)V" } : Jvm.MethodName) prog_39_method_5_code (3 : Nat) (Option.none : Option Jvm.ClassFile.FieldType)).before args0 about1 = true := code_word (m := ⟨2, 2⟩) (meth := k2m2) (c := k2c2) (by decide +kernel) rfl rfl rfl (by decide +kernel)
set_option maxRecDepth 65536 in
theorem w_c11 : (Jvm.Cond.code ({ cls := "com/example/obedient_dog/obedientdog/topologydiscovery/AgeLog", name := "append", desc := "(II)I" } : Jvm.MethodName) prog_39_method_13_code (4 : Nat) (Option.some Jvm.ClassFile.FieldType.int)).before args0 about1 = true := code_word (m := ⟨2, 5⟩) (meth := k2m5) (c := k2c5) (by decide +kernel) rfl rfl rfl (by decide +kernel)
set_option maxRecDepth 65536 in
theorem w_c12 : (Jvm.Cond.code ({ cls := "com/example/obedient_dog/obedientdog/topologydiscovery/AgeLog", name := "count", desc := "(III)V" } : Jvm.MethodName) prog_39_method_15_code (4 : Nat) (Option.none : Option Jvm.ClassFile.FieldType)).before args0 about1 = true := code_word (m := ⟨2, 7⟩) (meth := k2m7) (c := k2c7) (by decide +kernel) rfl rfl rfl (by decide +kernel)
set_option maxRecDepth 65536 in
theorem w_c13 : (Jvm.Cond.code ({ cls := "com/example/obedient_dog/obedientdog/topologydiscovery/LinkNumbers", name := "hash", desc := "(I)I" } : Jvm.MethodName) prog_46_method_5_code (2 : Nat) (Option.some Jvm.ClassFile.FieldType.int)).before args0 about1 = true := code_word (m := ⟨3, 1⟩) (meth := k3m1) (c := k3c1) (by decide +kernel) rfl rfl rfl (by decide +kernel)
set_option maxRecDepth 65536 in
theorem w_c14 : (Jvm.Cond.code ({ cls := "com/example/obedient_dog/obedientdog/topologydiscovery/AgeLog", name := "age", desc := "(I)I" } : Jvm.MethodName) prog_39_method_4_code (2 : Nat) (Option.some Jvm.ClassFile.FieldType.int)).before args0 about1 = true := code_word (m := ⟨2, 1⟩) (meth := k2m1) (c := k2c1) (by decide +kernel) rfl rfl rfl (by decide +kernel)
set_option maxRecDepth 65536 in
theorem w_c15 : (Jvm.Cond.code ({ cls := "java/lang/Math", name := "max", desc := "(II)I" } : Jvm.MethodName) jdk_29_method_65_code (2 : Nat) (Option.some Jvm.ClassFile.FieldType.int)).before args0 about1 = true := code_word (m := ⟨17, 1⟩) (meth := k17m1) (c := k17c1) (by decide +kernel) rfl rfl rfl (by decide +kernel)
set_option maxRecDepth 65536 in
theorem w_c16 : (Jvm.Cond.code ({ cls := "com/example/obedient_dog/obedientdog/topologydiscovery/LinkNumbers", name := "size", desc := "()I" } : Jvm.MethodName) prog_46_method_6_code (1 : Nat) (Option.some Jvm.ClassFile.FieldType.int)).before args0 about1 = true := code_word (m := ⟨3, 2⟩) (meth := k3m2) (c := k3c2) (by decide +kernel) rfl rfl rfl (by decide +kernel)
set_option maxRecDepth 65536 in
theorem w_c17 : (Jvm.Cond.code ({ cls := "java/util/ArrayList", name := "size", desc := "()I" } : Jvm.MethodName) jdk_38_method_8_code (1 : Nat) (Option.some Jvm.ClassFile.FieldType.int)).before args0 about1 = true := code_word (m := ⟨16, 1⟩) (meth := k16m1) (c := k16c1) (by decide +kernel) rfl rfl rfl (by decide +kernel)
set_option maxRecDepth 65536 in
theorem w_c18 : (Jvm.Cond.code ({ cls := "java/util/Arrays", name := "copyOf", desc := "([II)[I" } : Jvm.MethodName) jdk_65_method_123_code (3 : Nat) (Option.some (Jvm.ClassFile.FieldType.array Jvm.ClassFile.FieldType.int))).before args0 about1 = true := code_word (m := ⟨18, 1⟩) (meth := k18m1) (c := k18c1) (by decide +kernel) rfl rfl rfl (by decide +kernel)
set_option maxRecDepth 65536 in
theorem w_c19 : (Jvm.Cond.code ({ cls := "java/lang/Math", name := "min", desc := "(II)I" } : Jvm.MethodName) jdk_29_method_69_code (2 : Nat) (Option.some Jvm.ClassFile.FieldType.int)).before args0 about1 = true := code_word (m := ⟨17, 2⟩) (meth := k17m2) (c := k17c2) (by decide +kernel) rfl rfl rfl (by decide +kernel)
set_option maxRecDepth 65536 in
theorem w_c20 : (Jvm.Cond.code ({ cls := "com/example/obedient_dog/obedientdog/topologydiscovery/AgeLog", name := "table", desc := "()Lcom/example/obedient_dog/obedientdog/topologydiscovery/AgeTable;" } : Jvm.MethodName) prog_39_method_7_code (1 : Nat) (Option.some (Jvm.ClassFile.FieldType.object "com/example/obedient_dog/obedientdog/topologydiscovery/AgeTable"))).before args0 about1 = true := code_word (m := ⟨2, 4⟩) (meth := k2m4) (c := k2c4) (by decide +kernel) rfl rfl rfl (by decide +kernel)
set_option maxRecDepth 65536 in
theorem w_c21 : (Jvm.Cond.code ({ cls := "com/example/obedient_dog/obedientdog/topologydiscovery/AgeTable", name := "<init>", desc := "(Lcom/example/obedient_dog/obedientdog/topologydiscovery/AgeLog;IIII)V" } : Jvm.MethodName) prog_41_method_1_code (6 : Nat) (Option.none : Option Jvm.ClassFile.FieldType)).before args0 about1 = true := code_word (m := ⟨20, 0⟩) (meth := k20m0) (c := k20c0) (by decide +kernel) rfl rfl rfl (by decide +kernel)
set_option maxRecDepth 65536 in
theorem w_c22 : (Jvm.Cond.code ({ cls := "com/example/obedient_dog/obedientdog/topologydiscovery/AgeLog", name := "chain", desc := "(II)V" } : Jvm.MethodName) prog_39_method_14_code (3 : Nat) (Option.none : Option Jvm.ClassFile.FieldType)).before args0 about1 = true := code_word (m := ⟨2, 6⟩) (meth := k2m6) (c := k2c6) (by decide +kernel) rfl rfl rfl (by decide +kernel)
def codes1 : List Jvm.Cond := [Jvm.Cond.code x code maxLocals ret, Jvm.Cond.code ({ cls := "com/example/obedient_dog/obedientdog/topologydiscovery/LinkNumbers", name := "<init>", desc := "()V" } : Jvm.MethodName) prog_46_method_1_code (1 : Nat) (Option.none : Option Jvm.ClassFile.FieldType), Jvm.Cond.code ({ cls := "java/lang/Object", name := "<init>", desc := "()V" } : Jvm.MethodName) object_method_1_code (1 : Nat) (Option.none : Option Jvm.ClassFile.FieldType), Jvm.Cond.code ({ cls := "java/util/HashMap", name := "<init>", desc := "()V" } : Jvm.MethodName) jdk_69_method_7_code (1 : Nat) (Option.none : Option Jvm.ClassFile.FieldType), Jvm.Cond.code ({ cls := "java/util/AbstractMap", name := "<init>", desc := "()V" } : Jvm.MethodName) jdk_71_method_1_code (1 : Nat) (Option.none : Option Jvm.ClassFile.FieldType), Jvm.Cond.code ({ cls := "java/util/ArrayList", name := "<init>", desc := "()V" } : Jvm.MethodName) jdk_38_method_2_code (1 : Nat) (Option.none : Option Jvm.ClassFile.FieldType), Jvm.Cond.code ({ cls := "java/util/AbstractList", name := "<init>", desc := "()V" } : Jvm.MethodName) jdk_39_method_1_code (1 : Nat) (Option.none : Option Jvm.ClassFile.FieldType), Jvm.Cond.code ({ cls := "java/util/AbstractCollection", name := "<init>", desc := "()V" } : Jvm.MethodName) jdk_22_method_1_code (1 : Nat) (Option.none : Option Jvm.ClassFile.FieldType), Jvm.Cond.code ({ cls := "com/example/obedient_dog/obedientdog/topologydiscovery/AgeLog", name := "<init>", desc := "(Lcom/example/obedient_dog/obedientdog/topologydiscovery/LinkNumbers;)V" } : Jvm.MethodName) prog_39_method_1_code (2 : Nat) (Option.none : Option Jvm.ClassFile.FieldType), Jvm.Cond.code ({ cls := "com/example/obedient_dog/obedientdog/topologydiscovery/AgeLog", name := "raise", desc := "(II)Z" } : Jvm.MethodName) prog_39_method_6_code (6 : Nat) (Option.some Jvm.ClassFile.FieldType.boolean), Jvm.Cond.code ({ cls := "com/example/obedient_dog/obedientdog/topologydiscovery/AgeLog", name := "add", desc := "(II)V" } : Jvm.MethodName) prog_39_method_5_code (3 : Nat) (Option.none : Option Jvm.ClassFile.FieldType), Jvm.Cond.code ({ cls := "com/example/obedient_dog/obedientdog/topologydiscovery/AgeLog", name := "append", desc := "(II)I" } : Jvm.MethodName) prog_39_method_13_code (4 : Nat) (Option.some Jvm.ClassFile.FieldType.int), Jvm.Cond.code ({ cls := "com/example/obedient_dog/obedientdog/topologydiscovery/AgeLog", name := "count", desc := "(III)V" } : Jvm.MethodName) prog_39_method_15_code (4 : Nat) (Option.none : Option Jvm.ClassFile.FieldType), Jvm.Cond.code ({ cls := "com/example/obedient_dog/obedientdog/topologydiscovery/LinkNumbers", name := "hash", desc := "(I)I" } : Jvm.MethodName) prog_46_method_5_code (2 : Nat) (Option.some Jvm.ClassFile.FieldType.int), Jvm.Cond.code ({ cls := "com/example/obedient_dog/obedientdog/topologydiscovery/AgeLog", name := "age", desc := "(I)I" } : Jvm.MethodName) prog_39_method_4_code (2 : Nat) (Option.some Jvm.ClassFile.FieldType.int), Jvm.Cond.code ({ cls := "java/lang/Math", name := "max", desc := "(II)I" } : Jvm.MethodName) jdk_29_method_65_code (2 : Nat) (Option.some Jvm.ClassFile.FieldType.int), Jvm.Cond.code ({ cls := "com/example/obedient_dog/obedientdog/topologydiscovery/LinkNumbers", name := "size", desc := "()I" } : Jvm.MethodName) prog_46_method_6_code (1 : Nat) (Option.some Jvm.ClassFile.FieldType.int), Jvm.Cond.code ({ cls := "java/util/ArrayList", name := "size", desc := "()I" } : Jvm.MethodName) jdk_38_method_8_code (1 : Nat) (Option.some Jvm.ClassFile.FieldType.int), Jvm.Cond.code ({ cls := "java/util/Arrays", name := "copyOf", desc := "([II)[I" } : Jvm.MethodName) jdk_65_method_123_code (3 : Nat) (Option.some (Jvm.ClassFile.FieldType.array Jvm.ClassFile.FieldType.int)), Jvm.Cond.code ({ cls := "java/lang/Math", name := "min", desc := "(II)I" } : Jvm.MethodName) jdk_29_method_69_code (2 : Nat) (Option.some Jvm.ClassFile.FieldType.int), Jvm.Cond.code ({ cls := "com/example/obedient_dog/obedientdog/topologydiscovery/AgeLog", name := "table", desc := "()Lcom/example/obedient_dog/obedientdog/topologydiscovery/AgeTable;" } : Jvm.MethodName) prog_39_method_7_code (1 : Nat) (Option.some (Jvm.ClassFile.FieldType.object "com/example/obedient_dog/obedientdog/topologydiscovery/AgeTable")), Jvm.Cond.code ({ cls := "com/example/obedient_dog/obedientdog/topologydiscovery/AgeTable", name := "<init>", desc := "(Lcom/example/obedient_dog/obedientdog/topologydiscovery/AgeLog;IIII)V" } : Jvm.MethodName) prog_41_method_1_code (6 : Nat) (Option.none : Option Jvm.ClassFile.FieldType), Jvm.Cond.code ({ cls := "com/example/obedient_dog/obedientdog/topologydiscovery/AgeLog", name := "chain", desc := "(II)V" } : Jvm.MethodName) prog_39_method_14_code (3 : Nat) (Option.none : Option Jvm.ClassFile.FieldType)]
set_option maxRecDepth 65536 in
theorem codes_eq : words1.filter isCode = codes1 := rfl
theorem w_codes : ∀ c ∈ words1.filter isCode, c.before args0 about1 = true := by
  rw [codes_eq]
  intro c hc
  simp only [codes1, List.mem_cons, List.not_mem_nil, or_false] at hc
  rcases hc with rfl | rfl | rfl | rfl | rfl | rfl | rfl | rfl | rfl | rfl | rfl | rfl | rfl | rfl | rfl | rfl | rfl | rfl | rfl | rfl | rfl | rfl | rfl
  · exact w_c0
  · exact w_c1
  · exact w_c2
  · exact w_c3
  · exact w_c4
  · exact w_c5
  · exact w_c6
  · exact w_c7
  · exact w_c8
  · exact w_c9
  · exact w_c10
  · exact w_c11
  · exact w_c12
  · exact w_c13
  · exact w_c14
  · exact w_c15
  · exact w_c16
  · exact w_c17
  · exact w_c18
  · exact w_c19
  · exact w_c20
  · exact w_c21
  · exact w_c22
set_option maxRecDepth 65536 in
theorem w_t1 : (words1.take 24).all (fun c => isCode c || c.before args0 about1) = true := by decide +kernel
set_option maxRecDepth 65536 in
theorem w_t2 : ((words1.drop 24).take 24).all (fun c => isCode c || c.before args0 about1) = true := by decide +kernel
set_option maxRecDepth 65536 in
theorem w_t3 : (((words1.drop 24).drop 24).take 24).all (fun c => isCode c || c.before args0 about1) = true := by decide +kernel
set_option maxRecDepth 65536 in
theorem w_t4 : ((((words1.drop 24).drop 24).drop 24).take 24).all (fun c => isCode c || c.before args0 about1) = true := by decide +kernel
set_option maxRecDepth 65536 in
theorem w_t5 : (((((words1.drop 24).drop 24).drop 24).drop 24).take 24).all (fun c => isCode c || c.before args0 about1) = true := by decide +kernel
set_option maxRecDepth 65536 in
theorem w_t6 : ((((((words1.drop 24).drop 24).drop 24).drop 24).drop 24).take 24).all (fun c => isCode c || c.before args0 about1) = true := by decide +kernel
set_option maxRecDepth 65536 in
theorem w_t7 : (((((((words1.drop 24).drop 24).drop 24).drop 24).drop 24).drop 24).take 24).all (fun c => isCode c || c.before args0 about1) = true := by decide +kernel
set_option maxRecDepth 65536 in
theorem w_t8 : (((((((words1.drop 24).drop 24).drop 24).drop 24).drop 24).drop 24).drop 24).all (fun c => isCode c || c.before args0 about1) = true := by decide +kernel
theorem w_tables : (allAtoms (Jvm.Cond.code x code maxLocals ret :: tables_1)).before args0 about1 = true := by
  rw [allAtoms_all]
  show words1.all (fun c => c.before args0 about1) = true
  refine all_split ?_ w_codes
  rw [← List.take_append_drop 24 words1, List.all_append, w_t1, ← List.take_append_drop 24 (words1.drop 24), List.all_append, w_t2, ← List.take_append_drop 24 ((words1.drop 24).drop 24), List.all_append, w_t3, ← List.take_append_drop 24 (((words1.drop 24).drop 24).drop 24), List.all_append, w_t4, ← List.take_append_drop 24 ((((words1.drop 24).drop 24).drop 24).drop 24), List.all_append, w_t5, ← List.take_append_drop 24 (((((words1.drop 24).drop 24).drop 24).drop 24).drop 24), List.all_append, w_t6, ← List.take_append_drop 24 ((((((words1.drop 24).drop 24).drop 24).drop 24).drop 24).drop 24), List.all_append, w_t7, w_t8]
  rfl
set_option maxRecDepth 65536 in
theorem w_rest : rest_1_c.before args0 about1 = true := by decide +kernel
set_option maxRecDepth 65536 in
theorem w_case : (Jvm.Cond.and given_1 narrow_1).before args0 about1 = true := by decide +kernel
theorem w_applies : (headSpec (Jvm.Cond.code x code maxLocals ret :: tables_1) room_1).applies x e0.platform about1 = true :=
  (Spec.applies_iff w_frames).mpr ⟨w_running, w_runnable, w_alone, w_named, w_hears, w_ripe, w_room, w_tables⟩
theorem atStart : AtStart classFile x code maxLocals ret World_1 tables_1 room_1 Calls_1 rest_1 Pre_1 launch0 p0 e0 about1 theMethod args0 below0 :=
  ⟨lists_1, trivial, launch0.admits_env _ _ _, launch0.least_env, fairChoices_fair.cas, fairChoices_fair.clock, w_frames, w_args, w_heap, w_applies, trivial, w_rest, w_case⟩
end start1
theorem witness_1 : WitnessClaimed_1 := ⟨start1.p0, start1.e0, start1.about1, start1.theMethod, start1.args0, start1.below0, start1.atStart⟩
end Jvm.Pilot.@@N@@
