import JvmDerived
import JvmDerived.Pilot.@@N@@Statement
import JvmDerived.Pilot.@@N@@Code
set_option linter.unusedVariables false
set_option linter.unusedSimpArgs false
namespace Jvm.Pilot.@@N@@
open Jvm Jvm.ClassFile Sem Op Lib Jvm.Free Jvm.Stand Jvm.LawKit Jvm.RoadKit Bundle Jvm.Pilot.@@N@@.Jvm.D
/-! own_: the walk's goal in one piece (from this state on the body returns, and what it leaves says Q), its steps, its ends, its calls -/
theorem own_succ (k : Nat) : Int32.ofNat (k + 1) = Int32.ofNat k + 1 := (Int32.ofNat_succ k).symm
theorem own_catR {v : Value} (h : v.isRef = true) : v.category = 1 := by rcases ref_cases h with rfl | ⟨a, rfl⟩ <;> rfl
theorem own_narR {v : Value} {t : FieldType} (h : v.isRef = true) : narrow t v = v := by rcases ref_cases h with rfl | ⟨a, rfl⟩ <;> cases t <;> rfl
theorem own_fitR {v : Value} {t : FieldType} (h : v.isRef = true) (ht : t.isReference = true) : fits t v = true := by rcases ref_cases h with rfl | ⟨a, rfl⟩ <;> cases t <;> first | rfl | cases ht
section OwnKit
variable {p : Program} {l : Launch} {e : Env} {R : Room} {s : State} {m : MethodId} {args : Array Value} {below : List Frame} {meth : Method} {c : Code} {T : State} {locs : List Loc} {cells slots : Nat} {Z : State} {a0 : Array Value} {h : Heap}
def own_Fin (p : Program) (e : Env) (below : List Frame) (s : State) (Q : Option Value → Heap → List Loc → Prop) (k n : Nat) (U : State) : Prop :=
  ∃ (s₂ : State) (o : Outcome), Steps p.tables e below U s₂ ∧ s₂.status = .running ∧ Ended s₂ below o ∧ ∃ v L, o = .returned v ∧ Q v s₂.heap L ∧ FrameEnd s o s₂ L k n
variable {Q : Option Value → Heap → List Loc → Prop} {k n : Nat}
theorem own_go {U U' : State} (st : ∀ t, Steps p.tables e below U' t → Steps p.tables e below U t) (F : own_Fin p e below s Q k n U') : own_Fin p e below s Q k n U := by
  obtain ⟨s2, o, h1, h2⟩ := F
  exact ⟨s2, o, st _ h1, h2⟩
theorem own_ret (X : Stand p l e R s m args below meth c T locs cells slots) (hx : p.tables.exec = Jvm.exec) {t : FieldType} (hret : meth.sig.returnType = some t) (hlk : meth.locks = false) {pc : Nat} {Ls : Array Slot} {w : Value} {i : Instr} {rest : List Value} (hn : narrow t w = w)
    (hi : (i = .ireturn ∧ (t = .int ∨ t = .boolean ∨ t = .byte ∨ t = .char ∨ t = .short) ∧ ∃ z, w = .int z) ∨ (i = .lreturn ∧ t = .long ∧ ∃ z, w = .long z) ∨ (i = .dreturn ∧ t = .double ∧ ∃ z, w = .double z) ∨ (i = .freturn ∧ t = .float ∧ ∃ z, w = .float z) ∨ (i = .areturn ∧ t.isReference = true ∧ w.isRef = true))
    (hd : decode c.code pc = .ok (i, 1)) (hQ : Q (some w) T.heap locs) (hc : cells ≤ k) (hs : slots ≤ n) : own_Fin p e below s Q k n (T.setTop (mkF m pc Ls (w :: rest))) := by
  obtain ⟨fs, hr, hrun, hended, hW, hsame⟩ := X.leave (v := some w) (fun h => by rw [hret] at h; cases h) hlk
  exact ⟨_, _, retOut X hx hret hn hi hd hr, hrun, hended, _, _, rfl, hQ, ⟨_, rfl⟩, hW, hsame.mono hc hs⟩
theorem own_retI (X : Stand p l e R s m args below meth c T locs cells slots) (hx : p.tables.exec = Jvm.exec) (hret : meth.sig.returnType = some .int) (hlk : meth.locks = false) {pc : Nat} {Ls : Array Slot} {z : Int32} {rest : List Value}
    (hd : decode c.code pc = .ok (.ireturn, 1)) (hQ : Q (some (.int z)) T.heap locs) (hc : cells ≤ k) (hs : slots ≤ n) : own_Fin p e below s Q k n (T.setTop (mkF m pc Ls (.int z :: rest))) :=
  own_ret X hx hret hlk rfl (Or.inl ⟨rfl, Or.inl rfl, z, rfl⟩) hd hQ hc hs
theorem own_retN (X : Stand p l e R s m args below meth c T locs cells slots) (hx : p.tables.exec = Jvm.exec) {t : FieldType} (hret : meth.sig.returnType = some t) (ht : t = .boolean ∨ t = .byte ∨ t = .char ∨ t = .short) (hlk : meth.locks = false) {pc : Nat} {Ls : Array Slot} {z : Int32} {rest : List Value}
    (hd : decode c.code pc = .ok (.ireturn, 1)) (hQ : Q (some (.int (nar t z))) T.heap locs) (hc : cells ≤ k) (hs : slots ≤ n) : own_Fin p e below s Q k n (T.setTop (mkF m pc Ls (.int z :: rest))) := by
  obtain ⟨fs, hr, hrun, hended, hW, hsame⟩ := X.leave (v := some (.int (nar t z))) (fun h => by rw [hret] at h; cases h) hlk
  exact ⟨_, _, retN X hx hret ht hd hr, hrun, hended, _, _, rfl, hQ, ⟨_, rfl⟩, hW, hsame.mono hc hs⟩
theorem own_retL (X : Stand p l e R s m args below meth c T locs cells slots) (hx : p.tables.exec = Jvm.exec) (hret : meth.sig.returnType = some .long) (hlk : meth.locks = false) {pc : Nat} {Ls : Array Slot} {z : Int64} {rest : List Value}
    (hd : decode c.code pc = .ok (.lreturn, 1)) (hQ : Q (some (.long z)) T.heap locs) (hc : cells ≤ k) (hs : slots ≤ n) : own_Fin p e below s Q k n (T.setTop (mkF m pc Ls (.long z :: rest))) :=
  own_ret X hx hret hlk rfl (Or.inr (Or.inl ⟨rfl, rfl, z, rfl⟩)) hd hQ hc hs
theorem own_retA (X : Stand p l e R s m args below meth c T locs cells slots) (hx : p.tables.exec = Jvm.exec) {t : FieldType} (hret : meth.sig.returnType = some t) (ht : t.isReference = true) (hlk : meth.locks = false) {pc : Nat} {Ls : Array Slot} {w : Value} {rest : List Value} (hw : w.isRef = true)
    (hd : decode c.code pc = .ok (.areturn, 1)) (hQ : Q (some w) T.heap locs) (hc : cells ≤ k) (hs : slots ≤ n) : own_Fin p e below s Q k n (T.setTop (mkF m pc Ls (w :: rest))) :=
  own_ret X hx hret hlk (by rcases ref_cases hw with rfl | ⟨z, rfl⟩ <;> cases t <;> rfl) (Or.inr (Or.inr (Or.inr (Or.inr ⟨rfl, ht, hw⟩)))) hd hQ hc hs
theorem own_retV (X : Stand p l e R s m args below meth c T locs cells slots) (hx : p.tables.exec = Jvm.exec) (hret : meth.sig.returnType = none) (hlk : meth.locks = false) {pc : Nat} {Ls : Array Slot}
    (hd : decode c.code pc = .ok (.return_, 1)) (hQ : Q none T.heap locs) (hc : cells ≤ k) (hs : slots ≤ n) : own_Fin p e below s Q k n (T.setTop (mkF m pc Ls [])) := by
  obtain ⟨fs, hr, hrun, hended, hW, hsame⟩ := X.leave (v := none) (fun _ => rfl) hlk
  exact ⟨_, _, X.returnOut hx hret hd hr, hrun, hended, _, _, rfl, hQ, ⟨_, rfl⟩, hW, hsame.mono hc hs⟩
/-- a body's contract: called with these arguments at this heap it returns, and what it leaves says Q -/
abbrev own_C (l : Launch) (Z : State) (y : MethodName) (bytes : ByteArray) (maxL : Nat) (ret : Option FieldType) (ws : List Jvm.Cond) (rm : Room) (as' : Array Value) (h0 : Heap) (Q : Option Value → Heap → List Loc → Prop) : Prop :=
  MetFree l y (head1 (Jvm.Cond.code y bytes maxL ret :: ws) rm) (fun a U => a = as' ∧ Z.Warmed39 U.vm ∧ U.heap = h0) (fun _ _ _ _ _ => True) (fun _ U o U' => ∃ v L, o = .returned v ∧ Q v U'.heap L ∧ FrameEnd U o U' L rm.cells rm.slots)
theorem own_body {y : MethodName} {bytes : ByteArray} {maxL : Nat} {ret : Option FieldType} {ws : List Jvm.Cond} {rm : Room} {as' : Array Value} {h0 : Heap} (hpn : plainFor y = true)
    (body : ∀ (p : Program) (e : Env) (s : State) (m : MethodId) (below : List Frame) (meth : Method) (c : Code) (s₁ : State), p.tables.exec = Jvm.exec → c.code = bytes → c.maxLocals = maxL → meth.sig.returnType = ret → meth.locks = false → s.vm.findClass y.cls = some m.cls → meth.name = y.name → Z.Warmed39 s.vm →
      Stand p l e rm s m as' below meth c s₁ [] 0 0 → s₁.heap = h0 → own_Fin p e below s Q rm.cells rm.slots (s₁.setTop (entryFrame m as' maxL))) : own_C l Z y bytes maxL ret ws rm as' h0 Q := by
  refine MetFree.of_bodySF hpn hisR ?_
  intro p e s m args below meth c s₁ Bd hml0 hP hK
  obtain ⟨rfl, hZ, hh⟩ := hP
  exact body p e s m below meth c s₁ Bd.exec Bd.bytes hml0 Bd.returns Bd.notSynchronized (findClass_of_methodNamed Bd.named) (name_of_methodNamed Bd.named Bd.method).1 hZ (Stand.of_body Bd) (by rw [← hh, Bd.state]; rfl)
theorem own_callS (X : Stand p l e R s m args below meth c T locs cells slots) (hx : p.tables.exec = Jvm.exec) (hZ : Z.Warmed39 s.vm) {own : String} {index : Nat} {y : MethodName} {bytes : ByteArray} {maxL : Nat} {ret : Option FieldType} (hown : s.vm.findClass own = some m.cls)
    (w1 : (Cond.methodLink own index y).before a0 Z = true) (w2 : (Cond.static y).before a0 Z = true) (w3 : (Cond.initialized y.cls).before a0 Z = true) (w4 : (Cond.code y bytes maxL ret).before a0 Z = true) (hy : y.cls ≠ "java/lang/invoke/MethodHandle" ∧ y.cls ≠ "java/lang/invoke/VarHandle")
    {rm : Room} {argsL rest : List Value} {as' : Array Value} (hM : own_C l Z y bytes maxL ret [] rm as' h Q) {W : Nat} (hf : rm.frames + 1 ≤ R.frames) (hl : W + (maxL + 11) + rm.locals ≤ R.locals) {g : JFrame} (hg : g.method = m) (hsize : g.locals.size = c.maxLocals)
    (hlen : ∀ sig, parseMethodDescriptor y.desc = some sig → argsL.length = sig.parameters.length) (hstack : g.stack = argsL.reverse ++ rest) (has : argsL.toArray = as') (hW : 2 * g.monitorRoom + (rest.map fun v => v.category).sum ≤ W) (hdg : decode c.code g.pc = .ok (.invokestatic index, 3)) (eT : T.heap = h)
    (hc : cells + rm.cells ≤ R.cells) (hs : slots + rm.slots ≤ R.slots) :
    ∃ (v : Option Value) (T' : State) (h' : Heap) (L : List Loc), T'.heap = h' ∧ Stand p l e R s m args below meth c T' (locs ++ L) (cells + rm.cells) (slots + rm.slots) ∧ Q v h' L ∧ ∀ target, Steps p.tables e below (T'.setTop { g with pc := g.pc + 3, stack := v.toList ++ rest }) target → Steps p.tables e below (T.setTop g) target := by
  obtain ⟨v, vm, ⟨T', L', k', n'⟩, -, X', ⟨Lc, hQ, l1, y1, z1⟩, st⟩ := Jvm.LawKit.callS X hx (y := y) hown (mvT hZ w1) (mvT hZ w2) (mvT hZ w3) (mvT hZ w4) hy (backOf (W := W) hM hZ w4 w3 hf hl) hg hsize hlen hstack hW hdg (fun _ _ => ⟨has, eT, hc, hs⟩)
  dsimp only [Pt.U, Pt.locs, Pt.cells, Pt.slots] at X' l1 y1 z1 st hQ
  subst l1 y1 z1
  exact ⟨v, T', _, Lc, rfl, X', hQ, st⟩
theorem own_callC (X : Stand p l e R s m args below meth c T locs cells slots) (hx : p.tables.exec = Jvm.exec) (hZ : Z.Warmed39 s.vm) {own : String} {index : Nat} {y : MethodName} {bytes : ByteArray} {maxL : Nat} (hy1 : y.name = "<init>") (hown : s.vm.findClass own = some m.cls)
    (w1 : (Cond.methodLink own index y).before a0 Z = true) (w2 : (Cond.instanceMethod y).before a0 Z = true) (w3 : (Cond.initialized y.cls).before a0 Z = true) (w4 : (Cond.code y bytes maxL none).before a0 Z = true) (hy : y.cls ≠ "java/lang/invoke/MethodHandle" ∧ y.cls ≠ "java/lang/invoke/VarHandle")
    {rm : Room} {a : Addr} {argsL rest : List Value} {as' : Array Value} (hM : own_C l Z y bytes maxL none [] rm as' h Q) {W : Nat} (hf : rm.frames + 1 ≤ R.frames) (hl : W + (maxL + 11) + rm.locals ≤ R.locals) {g : JFrame} (hg : g.method = m) (hsize : g.locals.size = c.maxLocals)
    (hlen : ∀ sig, parseMethodDescriptor y.desc = some sig → argsL.length = sig.parameters.length) (hstack : g.stack = argsL.reverse ++ .ref a :: rest) (has : (.ref a :: argsL).toArray = as') (hW : 2 * g.monitorRoom + (rest.map fun v => v.category).sum ≤ W) (hdg : decode c.code g.pc = .ok (.invokespecial index, 3)) (eT : T.heap = h)
    (hc : cells + rm.cells ≤ R.cells) (hs : slots + rm.slots ≤ R.slots) :
    ∃ (v : Option Value) (T' : State) (h' : Heap) (L : List Loc), T'.heap = h' ∧ Stand p l e R s m args below meth c T' (locs ++ L) (cells + rm.cells) (slots + rm.slots) ∧ Q v h' L ∧ ∀ target, Steps p.tables e below (T'.setTop { g with pc := g.pc + 3, stack := v.toList ++ rest }) target → Steps p.tables e below (T.setTop g) target := by
  obtain ⟨v, vm, ⟨T', L', k', n'⟩, -, X', ⟨Lc, hQ, l1, y1, z1⟩, st⟩ := X.specialBack hx (y := y) hy1 hown (mvT hZ w1) (mvT hZ w2) (mvT hZ w4) hy (backOf (W := W) hM hZ w4 w3 hf hl) hg hsize (Steps.refl _) hlen hstack hW hdg (fun _ _ => ⟨has, eT, hc, hs⟩)
  dsimp only [Pt.U, Pt.locs, Pt.cells, Pt.slots] at X' l1 y1 z1 st hQ
  subst l1 y1 z1
  exact ⟨v, T', _, Lc, rfl, X', hQ, fun _ k => st.trans k⟩
theorem own_callV (X : Stand p l e R s m args below meth c T locs cells slots) (hx : p.tables.exec = Jvm.exec) (hZ : Z.Warmed39 s.vm) {own C : String} {index : Nat} {y z : MethodName} {bytes : ByteArray} {maxL : Nat} {ret : Option FieldType} (hown : s.vm.findClass own = some m.cls)
    (w1 : (Cond.methodLink own index y).before a0 Z = true) (w2 : (Cond.declares y).before a0 Z = true) (hnf : NotFace s y) (w5 : (Cond.selects C y z).before a0 Z = true) (w6 : (Cond.instanceMethod z).before a0 Z = true) (w3 : (Cond.initialized z.cls).before a0 Z = true) (w4 : (Cond.code z bytes maxL ret).before a0 Z = true) (hy : y.cls ≠ "java/lang/invoke/MethodHandle" ∧ y.cls ≠ "java/lang/invoke/VarHandle")
    {rm : Room} {a : Addr} (E : Exa Z h a C) {argsL rest : List Value} {as' : Array Value} (hM : own_C l Z z bytes maxL ret [] rm as' h Q) {W : Nat} (hf : rm.frames + 1 ≤ R.frames) (hl : W + (maxL + 11) + rm.locals ≤ R.locals) {g : JFrame} (hg : g.method = m) (hsize : g.locals.size = c.maxLocals)
    (hlen : ∀ sig, parseMethodDescriptor y.desc = some sig → argsL.length = sig.parameters.length) (hstack : g.stack = argsL.reverse ++ .ref a :: rest) (has : (.ref a :: argsL).toArray = as') (hW : 2 * g.monitorRoom + (rest.map fun v => v.category).sum ≤ W) (hdg : decode c.code g.pc = .ok (.invokevirtual index, 3)) (eT : T.heap = h)
    (hc : cells + rm.cells ≤ R.cells) (hs : slots + rm.slots ≤ R.slots) :
    ∃ (v : Option Value) (T' : State) (h' : Heap) (L : List Loc), T'.heap = h' ∧ Stand p l e R s m args below meth c T' (locs ++ L) (cells + rm.cells) (slots + rm.slots) ∧ Q v h' L ∧ ∀ target, Steps p.tables e below (T'.setTop { g with pc := g.pc + 3, stack := v.toList ++ rest }) target → Steps p.tables e below (T.setTop g) target := by
  obtain ⟨cq, kq, qa, qb, qc⟩ := isOf hZ eT E
  obtain ⟨v, vm, ⟨T', L', k', n'⟩, -, X', ⟨Lc, hQ, l1, y1, z1⟩, st⟩ := X.virtualBack hx (y := y) (z := z) hown (mvT hZ w1) (mvT hZ w2) hnf (mvT hZ w5) (mvT hZ w6) hy (backOf (W := W) hM hZ w4 w3 hf hl) qa qc hg hsize (Steps.refl _) hlen hstack hW hdg (fun _ _ => ⟨has, eT, hc, hs⟩)
  dsimp only [Pt.U, Pt.locs, Pt.cells, Pt.slots] at X' l1 y1 z1 st hQ
  subst l1 y1 z1
  exact ⟨v, T', _, Lc, rfl, X', hQ, fun _ k => st.trans k⟩
theorem own_callI (X : Stand p l e R s m args below meth c T locs cells slots) (hx : p.tables.exec = Jvm.exec) (hZ : Z.Warmed39 s.vm) {own C : String} {index count : Nat} {y z : MethodName} {bytes : ByteArray} {maxL : Nat} {ret : Option FieldType} (hown : s.vm.findClass own = some m.cls)
    (w1 : (Cond.methodLink own index y).before a0 Z = true) (w2 : (Cond.declares y).before a0 Z = true) (w7 : (Cond.interfaceMethod y.cls y.cls y.name y.desc).before args s = true) (w5 : (Cond.selects C y z).before a0 Z = true) (w6 : (Cond.instanceMethod z).before a0 Z = true) (w8 : (Cond.publicMethod z).before a0 Z = true)
    (w9 : (Cond.unhidden C y.name y.desc).before a0 Z = true) (w10 : (Cond.castable C y.cls).before a0 Z = true) (w3 : (Cond.initialized z.cls).before a0 Z = true) (w4 : (Cond.code z bytes maxL ret).before a0 Z = true) (hy : y.cls ≠ "java/lang/invoke/MethodHandle" ∧ y.cls ≠ "java/lang/invoke/VarHandle")
    {rm : Room} {a : Addr} (E : Exa Z h a C) {argsL rest : List Value} {as' : Array Value} (hM : own_C l Z z bytes maxL ret [] rm as' h Q) {W : Nat} (hf : rm.frames + 1 ≤ R.frames) (hl : W + (maxL + 11) + rm.locals ≤ R.locals) {g : JFrame} (hg : g.method = m) (hsize : g.locals.size = c.maxLocals)
    (hlen : ∀ sig, parseMethodDescriptor y.desc = some sig → argsL.length = sig.parameters.length) (hstack : g.stack = argsL.reverse ++ .ref a :: rest) (has : (.ref a :: argsL).toArray = as') (hW : 2 * g.monitorRoom + (rest.map fun v => v.category).sum ≤ W) (hdg : decode c.code g.pc = .ok (.invokeinterface index count, 5)) (eT : T.heap = h)
    (hc : cells + rm.cells ≤ R.cells) (hs : slots + rm.slots ≤ R.slots) :
    ∃ (v : Option Value) (T' : State) (h' : Heap) (L : List Loc), T'.heap = h' ∧ Stand p l e R s m args below meth c T' (locs ++ L) (cells + rm.cells) (slots + rm.slots) ∧ Q v h' L ∧ ∀ target, Steps p.tables e below (T'.setTop { g with pc := g.pc + 5, stack := v.toList ++ rest }) target → Steps p.tables e below (T.setTop g) target := by
  obtain ⟨cq, kq, qa, qb, qc⟩ := isOf hZ eT E
  obtain ⟨v, vm, ⟨T', L', k', n'⟩, -, X', ⟨Lc, hQ, l1, y1, z1⟩, st⟩ := X.interfaceBack hx (xi := y) (y := z) hown (mvT hZ w1) (mvT hZ w2) w7 (mvT hZ w5) (mvT hZ w6) (mvT hZ w8) (mvT hZ w9) (mvT hZ w10) hy (backOf (W := W) hM hZ w4 w3 hf hl) qa qb qc hg hsize (Steps.refl _) hlen hstack hW hdg (fun _ _ => ⟨has, eT, hc, hs⟩)
  dsimp only [Pt.U, Pt.locs, Pt.cells, Pt.slots] at X' l1 y1 z1 st hQ
  subst l1 y1 z1
  exact ⟨v, T', _, Lc, rfl, X', hQ, fun _ k => st.trans k⟩
theorem own_callP (X : Stand p l e R s m args below meth c T locs cells slots) (hx : p.tables.exec = Jvm.exec) (hZ : Z.Warmed39 s.vm) {own C : String} {index : Nat} {y : MethodName} {bytes : ByteArray} {maxL : Nat} {ret : Option FieldType} (hown : s.vm.findClass own = some m.cls)
    (w1 : (Cond.methodLink own index y).before a0 Z = true) (w6 : (Cond.instanceMethod y).before a0 Z = true) (w5 : (Cond.selects y.cls y y).before a0 Z = true) (w7 : (Cond.privateMethod y).before a0 Z = true) (w3 : (Cond.initialized y.cls).before a0 Z = true) (w4 : (Cond.code y bytes maxL ret).before a0 Z = true) (hy : y.cls ≠ "java/lang/invoke/MethodHandle" ∧ y.cls ≠ "java/lang/invoke/VarHandle")
    {rm : Room} {a : Addr} (E : Exa Z h a C) {argsL rest : List Value} {as' : Array Value} (hM : own_C l Z y bytes maxL ret [] rm as' h Q) {W : Nat} (hf : rm.frames + 1 ≤ R.frames) (hl : W + (maxL + 11) + rm.locals ≤ R.locals) {g : JFrame} (hg : g.method = m) (hsize : g.locals.size = c.maxLocals)
    (hlen : ∀ sig, parseMethodDescriptor y.desc = some sig → argsL.length = sig.parameters.length) (hstack : g.stack = argsL.reverse ++ .ref a :: rest) (has : (.ref a :: argsL).toArray = as') (hW : 2 * g.monitorRoom + (rest.map fun v => v.category).sum ≤ W) (hdg : decode c.code g.pc = .ok (.invokevirtual index, 3)) (eT : T.heap = h)
    (hc : cells + rm.cells ≤ R.cells) (hs : slots + rm.slots ≤ R.slots) :
    ∃ (v : Option Value) (T' : State) (h' : Heap) (L : List Loc), T'.heap = h' ∧ Stand p l e R s m args below meth c T' (locs ++ L) (cells + rm.cells) (slots + rm.slots) ∧ Q v h' L ∧ ∀ target, Steps p.tables e below (T'.setTop { g with pc := g.pc + 3, stack := v.toList ++ rest }) target → Steps p.tables e below (T.setTop g) target := by
  obtain ⟨cq, q, q'⟩ := E.cell
  obtain ⟨v, vm, ⟨T', L', k', n'⟩, -, X', ⟨Lc, hQ, l1, y1, z1⟩, st⟩ := X.privateBack hx (y := y) hown (mvT hZ w1) (mvT hZ w6) (mvT hZ w5) (Cond.privateMethod_at (mvP hZ w7 (args := #[]))) (mvT hZ w4) hy (backOf (W := W) hM hZ w4 w3 hf hl) hg hsize (Steps.refl _) (a := a) (by rw [eT]; exact q) q' hlen hstack hW hdg (fun _ _ => ⟨has, eT, hc, hs⟩)
  dsimp only [Pt.U, Pt.locs, Pt.cells, Pt.slots] at X' l1 y1 z1 st hQ
  subst l1 y1 z1
  exact ⟨v, T', _, Lc, rfl, X', hQ, fun _ k => st.trans k⟩
theorem own_lremM {g : JFrame} {target : State} (X : Stand p l e R s m args below meth c T locs cells slots) (hx : p.tables.exec = Jvm.exec) (hg : g.method = m) {x y : Int64} {rest : List Value} (hd : decode c.code g.pc = .ok (.lrem, 1)) (hs : g.stack = .long y :: .long x :: rest) (hy : y ≠ 0)
    (hr : Steps p.tables e below (T.setTop { g with pc := g.pc + 1, stack := .long (x % y) :: rest }) target) : Steps p.tables e below (T.setTop g) target :=
  XS.lrem X.here hx hg hd hs hy (by rw [lrem_mod]; exact hr)
theorem own_mono (X : Stand p l e R s m args below meth c T locs cells slots) {cells' slots' : Nat} (hc : cells ≤ cells') (hs : slots ≤ slots') : Stand p l e R s m args below meth c T locs cells' slots' :=
  ⟨X.admits, X.cas, X.clock, X.frames, X.room, X.hears, X.method, X.code, X.here, X.tail, X.warmed, X.limits, X.bytes, X.same.mono hc hs⟩
end OwnKit
section OwnArr
variable {Z : State} {h h' : Heap} {a b : Addr} {k : ClassId} {ty : FieldType} {vs : List Value} {v : Value} {sl : Nat} {wl : List Addr}
/-- the array at a holds just these values -/
def own_Ar (Z : State) (h : Heap) (a : Addr) (k : ClassId) (ty : FieldType) (vs : List Value) : Prop := ∃ c : Cell, Arr Z h a c ty ∧ c.cls = k ∧ c.slots = vs.toArray ∧ vs.length < 2 ^ 31 ∧ ∀ v ∈ vs, fits ty v = true
theorem own_Ar.lt (F : own_Ar Z h a k ty vs) : a < h.size := by obtain ⟨c, A, -⟩ := F; exact A.lt
theorem own_Ar.ext (F : own_Ar Z h a k ty vs) (E : Ext h h') : own_Ar Z h' a k ty vs := by obtain ⟨c, A, r⟩ := F; exact ⟨c, A.ext E, r⟩
theorem own_Ar.other (F : own_Ar Z h b k ty vs) (W : Wr h h' a sl v) (q : b ≠ a) : own_Ar Z h' b k ty vs := by obtain ⟨c, A, r⟩ := F; exact ⟨c, A.other W q, r⟩
theorem own_Ar.keep (F : own_Ar Z h a k ty vs) (K : Keep h h' wl) (q : a ∉ wl) : own_Ar Z h' a k ty vs := by obtain ⟨c, A, r⟩ := F; exact ⟨c, ⟨K.2.1 _ _ A.1 q, A.2⟩, r⟩
theorem own_Ar.new {z : Int32} (A : Arr Z h a (newA k ty z) ty) (hf : fits ty (defaultValue ty) = true) : own_Ar Z h a k ty (List.replicate z.toNatClampNeg (defaultValue ty)) := by
  refine ⟨_, A, rfl, by simp [newA], ?_, fun v hv => by rw [List.eq_of_mem_replicate hv]; exact hf⟩
  rw [List.length_replicate]
  have := z.toInt_lt
  rw [Int32.toNatClampNeg]
  omega
theorem own_Ar.set {j : Nat} (F : own_Ar Z h a k ty vs) (W : Wr h h' a j v) (hv : fits ty v = true) : own_Ar Z h' a k ty (vs.set j v) := by
  obtain ⟨c, A, q, s, l, f⟩ := F
  refine ⟨_, A.same W, q, ?_, by rw [List.length_set]; exact l, fun w hw => ?_⟩
  · show c.slots.setIfInBounds j v = _
    rw [s]; simp
  · rcases List.mem_or_eq_of_mem_set hw with hw | rfl
    · exact f w hw
    · exact hv
theorem own_Ar.arv (F : own_Ar Z h a k ty vs) (d : Value) : Arv Z h a k ty (Int32.ofNat vs.length) vs d := by
  obtain ⟨c, A, q, s, l, f⟩ := F
  have hl : (Int32.ofNat vs.length).toNatClampNeg = vs.length := by
    rw [Int32.toNatClampNeg, Int32.toInt_ofNat_of_lt (by omega)]; rfl
  have h0 : ¬ Int32.ofNat vs.length < 0 := by
    rw [Int32.lt_iff_toInt_lt, Int32.toInt_ofNat_of_lt (by omega)]; simp
  refine ⟨c, A, q, by rw [s, hl]; simp, h0, fun i hi => ?_, fun i hi => ?_⟩
  · rw [s] at hi ⊢
    simp only [List.size_toArray] at hi
    simp [List.getD, List.getElem?_eq_getElem hi]
  · rw [s] at hi
    simp only [List.size_toArray] at hi
    simp only [List.getD, List.getElem?_eq_getElem hi, Option.getD_some]
    exact f _ (List.getElem_mem hi)
theorem own_Ar.of_arv {z : Int32} {d : Value} (F : Arv Z h a k ty z vs d) (hl : z.toNatClampNeg = vs.length) : own_Ar Z h a k ty vs := by
  obtain ⟨c, A, q, s, l, H, f⟩ := F
  have hs : c.slots.size = vs.length := s.trans hl
  have e : c.slots = vs.toArray := by
    apply Array.ext_getElem?
    intro i
    by_cases hi : i < c.slots.size
    · rw [H i hi]
      have hi' : i < vs.length := hs ▸ hi
      simp [List.getD, List.getElem?_eq_getElem hi']
    · rw [Array.getElem?_eq_none (Nat.le_of_not_lt hi), Array.getElem?_eq_none (by simpa [← hs] using Nat.le_of_not_lt hi)]
  refine ⟨c, A, q, e, ?_, fun v hv => ?_⟩
  · rw [← hl]; have := z.toInt_lt; rw [Int32.toNatClampNeg]; omega
  · obtain ⟨i, hi, rfl⟩ := List.mem_iff_getElem.mp hv
    have := f i (hs ▸ hi)
    simpa [List.getD, List.getElem?_eq_getElem hi] using this
end OwnArr
section OwnArrSteps
variable {p : Program} {l : Launch} {e : Env} {R : Room} {s : State} {m : MethodId} {args : Array Value} {below : List Frame} {meth : Method} {c : Code} {T : State} {locs : List Loc} {cells slots : Nat} {Z : State} {a0 : Array Value} {h : Heap} {a : Addr} {k : ClassId} {ty : FieldType} {vs : List Value} {v : Value}
theorem own_inb {c : Cell} {vs : List Value} {j : Int32} (hs : c.slots = vs.toArray) (h0 : ¬ j < 0) (hj : j.toNatClampNeg < vs.length) : ¬ (j < 0 ∨ c.slots.size ≤ j.toNatClampNeg) := by
  rw [hs]; rintro (q | q)
  · exact h0 q
  · simp only [List.size_toArray] at q; omega
theorem own_arrlen (X : Stand p l e R s m args below meth c T locs cells slots) (hx : p.tables.exec = Jvm.exec) (hZ : Z.Warmed39 s.vm) (eT : T.heap = h) (F : own_Ar Z h a k ty vs) {n : Int32} (hn : Int32.ofNat vs.length = n) {g : JFrame} (hg : g.method = m) {rest : List Value} (hs : g.stack = .ref a :: rest) (hd : decode c.code g.pc = .ok (.arraylength, 1)) :
    ∀ target, Steps p.tables e below (T.setTop { g with pc := g.pc + 1, stack := .int n :: rest }) target → Steps p.tables e below (T.setTop g) target := by
  obtain ⟨cl, A, q, sz, ln, f⟩ := F
  intro t kk
  refine X.arraylength hx (by rw [eT]; exact A.1) (State.isArrayOf_alike hZ.alike A.2.1) hg hs hd t ?_
  have : cl.slots.size.toInt32 = n := by rw [sz, ← hn]; rfl
  rw [this]; exact kk
theorem own_iaload (X : Stand p l e R s m args below meth c T locs cells slots) (hx : p.tables.exec = Jvm.exec) (hZ : Z.Warmed39 s.vm) (eT : T.heap = h) (F : own_Ar Z h a k .int vs) {j : Int32} (h0 : ¬ j < 0) {i : Nat} (hj : j.toNatClampNeg = i) (hv : vs[i]? = some v) {g : JFrame} (hg : g.method = m) {rest : List Value} (hs : g.stack = .int j :: .ref a :: rest) (hd : decode c.code g.pc = .ok (.iaload, 1)) :
    ∀ target, Steps p.tables e below (T.setTop { g with pc := g.pc + 1, stack := v :: rest }) target → Steps p.tables e below (T.setTop g) target := by
  obtain ⟨cl, A, q, sz, ln, f⟩ := F
  subst hj
  exact X.iaload hx (by rw [eT]; exact A.1) (State.isArrayOf_alike hZ.alike A.2.1) A.2.2 (own_inb sz h0 (List.getElem?_eq_some_iff.mp hv).1) (by rw [sz]; simpa using hv) hg hs hd
theorem own_laload (X : Stand p l e R s m args below meth c T locs cells slots) (hx : p.tables.exec = Jvm.exec) (hZ : Z.Warmed39 s.vm) (eT : T.heap = h) (F : own_Ar Z h a k .long vs) {j : Int32} (h0 : ¬ j < 0) {i : Nat} (hj : j.toNatClampNeg = i) (hv : vs[i]? = some v) {g : JFrame} (hg : g.method = m) {rest : List Value} (hs : g.stack = .int j :: .ref a :: rest) (hd : decode c.code g.pc = .ok (.laload, 1)) :
    ∀ target, Steps p.tables e below (T.setTop { g with pc := g.pc + 1, stack := v :: rest }) target → Steps p.tables e below (T.setTop g) target := by
  obtain ⟨cl, A, q, sz, ln, f⟩ := F
  subst hj
  exact X.laload hx (by rw [eT]; exact A.1) (State.isArrayOf_alike hZ.alike A.2.1) A.2.2 (own_inb sz h0 (List.getElem?_eq_some_iff.mp hv).1) (by rw [sz]; simpa using hv) hg hs hd
theorem own_baload (X : Stand p l e R s m args below meth c T locs cells slots) (hx : p.tables.exec = Jvm.exec) (hZ : Z.Warmed39 s.vm) (eT : T.heap = h) (F : own_Ar Z h a k .byte vs) {j : Int32} (h0 : ¬ j < 0) {i : Nat} (hj : j.toNatClampNeg = i) (hv : vs[i]? = some v) {g : JFrame} (hg : g.method = m) {rest : List Value} (hs : g.stack = .int j :: .ref a :: rest) (hd : decode c.code g.pc = .ok (.baload, 1)) :
    ∀ target, Steps p.tables e below (T.setTop { g with pc := g.pc + 1, stack := v :: rest }) target → Steps p.tables e below (T.setTop g) target := by
  obtain ⟨cl, A, q, sz, ln, f⟩ := F
  subst hj
  exact X.baloadBytes hx (by rw [eT]; exact A.1) (State.isArrayOf_alike hZ.alike A.2.1) A.2.2 (own_inb sz h0 (List.getElem?_eq_some_iff.mp hv).1) (by rw [sz]; simpa using hv) hg hs hd
theorem own_aaload (X : Stand p l e R s m args below meth c T locs cells slots) (hx : p.tables.exec = Jvm.exec) (hZ : Z.Warmed39 s.vm) (eT : T.heap = h) (F : own_Ar Z h a k ty vs) (hty : ty.isReference = true) {j : Int32} (h0 : ¬ j < 0) {i : Nat} (hj : j.toNatClampNeg = i) (hv : vs[i]? = some v) {g : JFrame} (hg : g.method = m) {rest : List Value} (hs : g.stack = .int j :: .ref a :: rest) (hd : decode c.code g.pc = .ok (.aaload, 1)) :
    ∀ target, Steps p.tables e below (T.setTop { g with pc := g.pc + 1, stack := v :: rest }) target → Steps p.tables e below (T.setTop g) target := by
  obtain ⟨cl, A, q, sz, ln, f⟩ := F
  subst hj
  exact X.aaload hx (by rw [eT]; exact A.1) (State.isArrayOf_alike hZ.alike A.2.1) hty A.2.2 (own_inb sz h0 (List.getElem?_eq_some_iff.mp hv).1) (by rw [sz]; simpa using hv) hg hs hd
theorem own_iastore (X : Stand p l e R s m args below meth c T locs cells slots) (hx : p.tables.exec = Jvm.exec) (hZ : Z.Warmed39 s.vm) (eT : T.heap = h) (F : own_Ar Z h a k .int vs) {j x : Int32} (h0 : ¬ j < 0) {i : Nat} (hj : j.toNatClampNeg = i) (hi : i < vs.length) {g : JFrame} (hg : g.method = m) {rest : List Value} (hs : g.stack = .int x :: .int j :: .ref a :: rest) (hd : decode c.code g.pc = .ok (.iastore, 1)) :
    ∃ T' h', Stand p l e R s m args below meth c T' (locs ++ [⟨a, i⟩]) cells slots ∧ T'.heap = h' ∧ Wr h h' a i (.int x) ∧ own_Ar Z h' a k .int (vs.set i (.int x)) ∧ ∀ target, Steps p.tables e below (T'.setTop { g with pc := g.pc + 1, stack := rest }) target → Steps p.tables e below (T.setTop g) target := by
  have F' := F
  obtain ⟨cl, A, q, sz, ln, f⟩ := F
  subst hj
  obtain ⟨T', h', X', e', W, st⟩ := stI X hx hZ eT A (own_inb sz h0 hi) hg hs hd
  exact ⟨T', h', X', e', W, F'.set W rfl, st⟩
theorem own_lastore (X : Stand p l e R s m args below meth c T locs cells slots) (hx : p.tables.exec = Jvm.exec) (hZ : Z.Warmed39 s.vm) (eT : T.heap = h) (F : own_Ar Z h a k .long vs) {j : Int32} {x : Int64} (h0 : ¬ j < 0) {i : Nat} (hj : j.toNatClampNeg = i) (hi : i < vs.length) {g : JFrame} (hg : g.method = m) {rest : List Value} (hs : g.stack = .long x :: .int j :: .ref a :: rest) (hd : decode c.code g.pc = .ok (.lastore, 1)) :
    ∃ T' h', Stand p l e R s m args below meth c T' (locs ++ [⟨a, i⟩]) cells slots ∧ T'.heap = h' ∧ Wr h h' a i (.long x) ∧ own_Ar Z h' a k .long (vs.set i (.long x)) ∧ ∀ target, Steps p.tables e below (T'.setTop { g with pc := g.pc + 1, stack := rest }) target → Steps p.tables e below (T.setTop g) target := by
  have F' := F
  obtain ⟨cl, A, q, sz, ln, f⟩ := F
  subst hj
  obtain ⟨T', h', X', e', W, st⟩ := stJ X hx hZ eT A (own_inb sz h0 hi) hg hs hd
  exact ⟨T', h', X', e', W, F'.set W rfl, st⟩
theorem own_bastore (X : Stand p l e R s m args below meth c T locs cells slots) (hx : p.tables.exec = Jvm.exec) (hZ : Z.Warmed39 s.vm) (eT : T.heap = h) (F : own_Ar Z h a k .byte vs) {j x : Int32} (h0 : ¬ j < 0) {i : Nat} (hj : j.toNatClampNeg = i) (hi : i < vs.length) {g : JFrame} (hg : g.method = m) {rest : List Value} (hs : g.stack = .int x :: .int j :: .ref a :: rest) (hd : decode c.code g.pc = .ok (.bastore, 1)) :
    ∃ T' h', Stand p l e R s m args below meth c T' (locs ++ [⟨a, i⟩]) cells slots ∧ T'.heap = h' ∧ Wr h h' a i (.int x.toInt8.toInt32) ∧ own_Ar Z h' a k .byte (vs.set i (.int x.toInt8.toInt32)) ∧ ∀ target, Steps p.tables e below (T'.setTop { g with pc := g.pc + 1, stack := rest }) target → Steps p.tables e below (T.setTop g) target := by
  have F' := F
  obtain ⟨cl, A, q, sz, ln, f⟩ := F
  subst hj
  obtain ⟨T', h', X', e', W, st⟩ := stB X hx hZ eT A (own_inb sz h0 hi) hg hs hd
  exact ⟨T', h', X', e', W, F'.set W (fits_nar_byte _), st⟩
theorem own_aastore (X : Stand p l e R s m args below meth c T locs cells slots) (hx : p.tables.exec = Jvm.exec) (hZ : Z.Warmed39 s.vm) (eT : T.heap = h) (F : own_Ar Z h a k ty vs) (hty : ty.isReference = true) (hfv : fits ty v = true) (S : Sto Z h a v) {j : Int32} (h0 : ¬ j < 0) {i : Nat} (hj : j.toNatClampNeg = i) (hi : i < vs.length) {g : JFrame} (hg : g.method = m) {rest : List Value} (hs : g.stack = v :: .int j :: .ref a :: rest) (hd : decode c.code g.pc = .ok (.aastore, 1)) :
    ∃ T' h', Stand p l e R s m args below meth c T' (locs ++ [⟨a, i⟩]) cells slots ∧ T'.heap = h' ∧ Wr h h' a i v ∧ own_Ar Z h' a k ty (vs.set i v) ∧ ∀ target, Steps p.tables e below (T'.setTop { g with pc := g.pc + 1, stack := rest }) target → Steps p.tables e below (T.setTop g) target := by
  have F' := F
  obtain ⟨cl, A, q, sz, ln, f⟩ := F
  subst hj
  obtain ⟨T', h', X', e', W, st⟩ := stR X hx hZ eT A (own_inb sz h0 hi) hty S hg hs hd
  exact ⟨T', h', X', e', W, F'.set W hfv, st⟩
theorem own_newarr (X : Stand p l e R s m args below meth c T locs cells slots) (hx : p.tables.exec = Jvm.exec) (hZ : Z.Warmed39 s.vm) {aty : ArrayType} (w : (Cond.arrayClass (newarray.typeOf aty)).before a0 Z = true) (eT : T.heap = h) {g : JFrame} (hg : g.method = m) (hd : decode c.code g.pc = .ok (.newarray aty, 2)) {n : Int32} {rest : List Value} (hs : g.stack = .int n :: rest)
    (hn : ¬ n < 0) {cap : Nat} (hcap : n.toNatClampNeg ≤ cap) (hb : cap * 8 ≤ 536870912) (hc : cells + 1 ≤ R.cells) (hl : slots + cap ≤ R.slots) {ad : String} (had : "[" ++ (newarray.typeOf aty).toString = ad) (hf : fits (newarray.typeOf aty) (defaultValue (newarray.typeOf aty)) = true) (hvs : List.replicate n.toNatClampNeg (defaultValue (newarray.typeOf aty)) = vs) :
    ∃ T' h' cA, Stand p l e R s m args below meth c T' locs (cells + 1) (slots + cap) ∧ T'.heap = h' ∧ Ext h h' ∧ own_Ar Z h' h.size cA (newarray.typeOf aty) vs ∧ Exa Z h' h.size ad ∧
      ∀ target, Steps p.tables e below (T'.setTop { g with pc := g.pc + 2, stack := .ref h.size :: rest }) target → Steps p.tables e below (T.setTop g) target := by
  obtain ⟨T', h', cA, X', e', E, A, Ex, st⟩ := newPE X hx hZ w eT hg hd hs hn hcap hb hc hl had
  exact ⟨T', h', cA, X', e', E, hvs ▸ own_Ar.new A hf, Ex, st⟩
theorem own_anewarr (X : Stand p l e R s m args below meth c T locs cells slots) (hx : p.tables.exec = Jvm.exec) (hZ : Z.Warmed39 s.vm) {own C : String} {index : Nat} (hown : s.vm.findClass own = some m.cls) (w1 : (Cond.classLink own index C).before a0 Z = true) (w2 : (Cond.arrayOver (.object C)).before a0 Z = true) (eT : T.heap = h) {g : JFrame} (hg : g.method = m) (hd : decode c.code g.pc = .ok (.anewarray index, 3)) {n : Int32} {rest : List Value} (hs : g.stack = .int n :: rest)
    (hn : ¬ n < 0) {cap : Nat} (hcap : n.toNatClampNeg ≤ cap) (hb : cap * 8 ≤ 536870912) (hc : cells + 1 ≤ R.cells) (hl : slots + cap ≤ R.slots) (hvs : List.replicate n.toNatClampNeg Value.null = vs) :
    ∃ T' h' cA, Stand p l e R s m args below meth c T' locs (cells + 1) (slots + cap) ∧ T'.heap = h' ∧ Ext h h' ∧ own_Ar Z h' h.size cA (.object C) vs ∧ Ovr Z cA C ∧
      ∀ target, Steps p.tables e below (T'.setTop { g with pc := g.pc + 3, stack := .ref h.size :: rest }) target → Steps p.tables e below (T.setTop g) target := by
  obtain ⟨T', h', cA, X', e', E, A, O, st⟩ := newR X hx hZ hown w1 w2 eT hg hd hs hn hcap hb hc hl
  exact ⟨T', h', cA, X', e', E, hvs ▸ own_Ar.new A rfl, O, st⟩
theorem own_arrlenA (X : Stand p l e R s m args below meth c T locs cells slots) (hx : p.tables.exec = Jvm.exec) (hZ : Z.Warmed39 s.vm) (eT : T.heap = h) {cl : Cell} (A : Arr Z h a cl ty) {n : Int32} (hn : cl.slots.size.toInt32 = n) {g : JFrame} (hg : g.method = m) {rest : List Value} (hs : g.stack = .ref a :: rest) (hd : decode c.code g.pc = .ok (.arraylength, 1)) :
    ∀ target, Steps p.tables e below (T.setTop { g with pc := g.pc + 1, stack := .int n :: rest }) target → Steps p.tables e below (T.setTop g) target := by
  subst hn
  exact X.arraylength hx (by rw [eT]; exact A.1) (State.isArrayOf_alike hZ.alike A.2.1) hg hs hd
theorem own_len0 {args : Array Value} {s : State} {t : Term} {a : Addr} {n : Int32} {ty : FieldType} (ev : t.eval args s none [] s = some (.ref a)) (h6 : (Cond.arrayOf t ty).before args s = true) (h8 : (Cond.eq (.length t) (.int n)).before args s = true) : ∃ c : Cell, Arr s s.heap a c ty ∧ c.slots.size.toInt32 = n := by
  obtain ⟨c, A⟩ := Arr.start ev (Cond.before_iff.mp h6)
  have h8 := Cond.before_iff.mp h8
  obtain ⟨x, y, e1, -⟩ := cmp_v (Or.inl h8)
  obtain ⟨b, cell, q1, q2, rfl⟩ := Term.length_spec e1
  cases ev.symm.trans q1
  cases (Arr.fin (State.Warmed39.refl s).alike A).symm.trans q2
  exact ⟨_, A, gotT (Cond.eq_ints e1 (Term.int_eval n)) h8⟩
end OwnArrSteps
section OwnWide
variable {p : Program} {l : Launch} {e : Env} {R : Room} {s : State} {m : MethodId} {args : Array Value} {below : List Frame} {meth : Method} {c : Code} {T : State} {locs : List Loc} {cells slots : Nat} {Z : State} {a0 : Array Value} {h h' : Heap} {vm0 : Vm} {Ts : List String}
/-- since the body's start the tables have gained what 'Since' allows -/
def own_Sn (s : State) (vm0 : Vm) (h : Heap) : Prop := ∃ k0, s.Since vm0 k0 ∧ k0 ≤ h.size
theorem own_Sn.ext (S : own_Sn s vm0 h) (E : Ext h h') : own_Sn s vm0 h' := by obtain ⟨k, a, b⟩ := S; exact ⟨k, a, Nat.le_trans b E.1⟩
theorem own_Sn.keep {ws : List Addr} (S : own_Sn s vm0 h) (K : Keep h h' ws) : own_Sn s vm0 h' := by obtain ⟨k, a, b⟩ := S; exact ⟨k, a, Nat.le_trans b K.1⟩
theorem own_Sn.wr {a : Addr} {sl : Nat} {v : Value} (S : own_Sn s vm0 h) (W : Wr h h' a sl v) : own_Sn s vm0 h' := S.keep (Keep.of_wr W)
def own_FinW (Z : State) (p : Program) (e : Env) (below : List Frame) (s : State) (Q : Option Value → Heap → List Loc → List String → Prop) (k n : Nat) (U : State) : Prop :=
  ∃ (s₂ : State) (o : Outcome), Steps p.tables e below U s₂ ∧ s₂.status = .running ∧ Ended s₂ below o ∧ ∃ v L Ts, o = .returned v ∧ Q v s₂.heap L Ts ∧ IB Z s₂.vm Ts ∧ ReturnedEndW s o s₂ L k n
variable {Q : Option Value → Heap → List Loc → List String → Prop} {k n : Nat}
theorem own_goW {U U' : State} (st : ∀ t, Steps p.tables e below U' t → Steps p.tables e below U t) (F : own_FinW Z p e below s Q k n U') : own_FinW Z p e below s Q k n U := by
  obtain ⟨s2, o, h1, h2⟩ := F
  exact ⟨s2, o, st _ h1, h2⟩
theorem own_IBw {vm1 : Vm} (I : IB Z vm0 Ts) (q : vm1.interned = vm0.interned) : IB Z vm1 Ts := by
  obtain ⟨more, h1, h2⟩ := I
  exact ⟨more, q.trans h1, h2⟩
theorem own_monoW {o : Outcome} {s₂ : State} {L : List Loc} {k n k' n' : Nat} (H : ReturnedEndW s o s₂ L k n) (hc : k ≤ k') (hs : n ≤ n') : ReturnedEndW s o s₂ L k' n' := ⟨H.1, H.2.1, H.2.2.1, H.2.2.2.mono hc hs⟩
theorem own_retW (X : Stand p l e R (s.setVm vm0) m args below meth c T locs cells slots) (hx : p.tables.exec = Jvm.exec) (S : own_Sn s vm0 h) (eT : T.heap = h) (I : IB Z vm0 Ts) {t : FieldType} (hret : meth.sig.returnType = some t) (hlk : meth.locks = false) {pc : Nat} {Ls : Array Slot} {w : Value} {i : Instr} {rest : List Value} (hn : narrow t w = w)
    (hi : (i = .ireturn ∧ (t = .int ∨ t = .boolean ∨ t = .byte ∨ t = .char ∨ t = .short) ∧ ∃ z, w = .int z) ∨ (i = .lreturn ∧ t = .long ∧ ∃ z, w = .long z) ∨ (i = .dreturn ∧ t = .double ∧ ∃ z, w = .double z) ∨ (i = .freturn ∧ t = .float ∧ ∃ z, w = .float z) ∨ (i = .areturn ∧ t.isReference = true ∧ w.isRef = true))
    (hd : decode c.code pc = .ok (i, 1)) (hQ : Q (some w) T.heap locs Ts) (hc : cells ≤ k) (hs : slots ≤ n) : own_FinW Z p e below s Q k n (T.setTop (mkF m pc Ls (w :: rest))) := by
  obtain ⟨k0, hS, hk⟩ := S
  obtain ⟨fs, hr, hrun, hended, hW⟩ := X.leaveW hS (by rw [eT]; exact hk) (v := some w) (fun h => by rw [hret] at h; cases h) hlk
  exact ⟨_, _, retOut X hx hret hn hi hd hr, hrun, hended, _, _, Ts, rfl, hQ, own_IBw I X.warmed.interned_eq, own_monoW hW hc hs⟩
theorem own_retWI (X : Stand p l e R (s.setVm vm0) m args below meth c T locs cells slots) (hx : p.tables.exec = Jvm.exec) (S : own_Sn s vm0 h) (eT : T.heap = h) (I : IB Z vm0 Ts) (hret : meth.sig.returnType = some .int) (hlk : meth.locks = false) {pc : Nat} {Ls : Array Slot} {z : Int32} {rest : List Value}
    (hd : decode c.code pc = .ok (.ireturn, 1)) (hQ : Q (some (.int z)) T.heap locs Ts) (hc : cells ≤ k) (hs : slots ≤ n) : own_FinW Z p e below s Q k n (T.setTop (mkF m pc Ls (.int z :: rest))) :=
  own_retW X hx S eT I hret hlk rfl (Or.inl ⟨rfl, Or.inl rfl, z, rfl⟩) hd hQ hc hs
theorem own_retWN (X : Stand p l e R (s.setVm vm0) m args below meth c T locs cells slots) (hx : p.tables.exec = Jvm.exec) (S : own_Sn s vm0 h) (eT : T.heap = h) (I : IB Z vm0 Ts) {t : FieldType} (hret : meth.sig.returnType = some t) (ht : t = .boolean ∨ t = .byte ∨ t = .char ∨ t = .short) (hlk : meth.locks = false) {pc : Nat} {Ls : Array Slot} {z : Int32} {rest : List Value}
    (hd : decode c.code pc = .ok (.ireturn, 1)) (hQ : Q (some (.int (nar t z))) T.heap locs Ts) (hc : cells ≤ k) (hs : slots ≤ n) : own_FinW Z p e below s Q k n (T.setTop (mkF m pc Ls (.int z :: rest))) := by
  obtain ⟨k0, hS, hk⟩ := S
  obtain ⟨fs, hr, hrun, hended, hW⟩ := X.leaveW hS (by rw [eT]; exact hk) (v := some (.int (nar t z))) (fun h => by rw [hret] at h; cases h) hlk
  exact ⟨_, _, retN X hx hret ht hd hr, hrun, hended, _, _, Ts, rfl, hQ, own_IBw I X.warmed.interned_eq, own_monoW hW hc hs⟩
theorem own_retWA (X : Stand p l e R (s.setVm vm0) m args below meth c T locs cells slots) (hx : p.tables.exec = Jvm.exec) (S : own_Sn s vm0 h) (eT : T.heap = h) (I : IB Z vm0 Ts) {t : FieldType} (hret : meth.sig.returnType = some t) (ht : t.isReference = true) (hlk : meth.locks = false) {pc : Nat} {Ls : Array Slot} {w : Value} {rest : List Value} (hw : w.isRef = true)
    (hd : decode c.code pc = .ok (.areturn, 1)) (hQ : Q (some w) T.heap locs Ts) (hc : cells ≤ k) (hs : slots ≤ n) : own_FinW Z p e below s Q k n (T.setTop (mkF m pc Ls (w :: rest))) :=
  own_retW X hx S eT I hret hlk (by rcases ref_cases hw with rfl | ⟨z, rfl⟩ <;> cases t <;> rfl) (Or.inr (Or.inr (Or.inr (Or.inr ⟨rfl, ht, hw⟩)))) hd hQ hc hs
theorem own_retWV (X : Stand p l e R (s.setVm vm0) m args below meth c T locs cells slots) (hx : p.tables.exec = Jvm.exec) (S : own_Sn s vm0 h) (eT : T.heap = h) (I : IB Z vm0 Ts) (hret : meth.sig.returnType = none) (hlk : meth.locks = false) {pc : Nat} {Ls : Array Slot}
    (hd : decode c.code pc = .ok (.return_, 1)) (hQ : Q none T.heap locs Ts) (hc : cells ≤ k) (hs : slots ≤ n) : own_FinW Z p e below s Q k n (T.setTop (mkF m pc Ls [])) := by
  obtain ⟨k0, hS, hk⟩ := S
  obtain ⟨fs, hr, hrun, hended, hW⟩ := X.leaveW hS (by rw [eT]; exact hk) (v := none) (fun _ => rfl) hlk
  exact ⟨_, _, X.returnOut hx hret hd hr, hrun, hended, _, _, Ts, rfl, hQ, own_IBw I X.warmed.interned_eq, own_monoW hW hc hs⟩
/-- a body's contract, where it may intern -/
abbrev own_CW (l : Launch) (Z : State) (y : MethodName) (bytes : ByteArray) (maxL : Nat) (ret : Option FieldType) (ws : List Jvm.Cond) (rm : Room) (as' : Array Value) (h0 : Heap) (Ts : List String) (Q : Option Value → Heap → List Loc → List String → Prop) : Prop :=
  MetFree l y (head1 (Jvm.Cond.code y bytes maxL ret :: ws) rm) (fun a U => a = as' ∧ Z.Warmed39 U.vm ∧ U.heap = h0 ∧ IB Z U.vm Ts) (fun _ _ _ _ _ => True) (fun _ U o U' => ∃ v L Ts', o = .returned v ∧ Q v U'.heap L Ts' ∧ IB Z U'.vm Ts' ∧ ReturnedEndW U o U' L rm.cells rm.slots)
theorem own_bodyW {y : MethodName} {bytes : ByteArray} {maxL : Nat} {ret : Option FieldType} {ws : List Jvm.Cond} {rm : Room} {as' : Array Value} {h0 : Heap} (hpn : plainFor y = true)
    (body : ∀ (p : Program) (e : Env) (s : State) (m : MethodId) (below : List Frame) (meth : Method) (c : Code) (s₁ : State), p.tables.exec = Jvm.exec → c.code = bytes → c.maxLocals = maxL → meth.sig.returnType = ret → meth.locks = false → (s.setVm s.vm).vm.findClass y.cls = some m.cls → meth.name = y.name → Z.Warmed39 (s.setVm s.vm).vm →
      Stand p l e rm (s.setVm s.vm) m as' below meth c s₁ [] 0 0 → s₁.heap = h0 → s.heap = h0 → own_Sn s s.vm h0 → IB Z s.vm Ts → own_FinW Z p e below s Q rm.cells rm.slots (s₁.setTop (entryFrame m as' maxL))) : own_CW l Z y bytes maxL ret ws rm as' h0 Ts Q := by
  refine MetFree.of_bodySF hpn hisR ?_
  intro p e s m args below meth c s₁ Bd hml0 hP hK
  obtain ⟨rfl, hZ, hh, hI⟩ := hP
  exact body p e s m below meth c s₁ Bd.exec Bd.bytes hml0 Bd.returns Bd.notSynchronized (findClass_of_methodNamed Bd.named) (name_of_methodNamed Bd.named Bd.method).1 hZ (Stand.of_body Bd) (by rw [← hh, Bd.state]; rfl) hh ⟨0, (State.WarmedH.refl s).since _, Nat.zero_le _⟩ hI
theorem own_backW {y : MethodName} {bytes : ByteArray} {maxL : Nat} {ret : Option FieldType} {rm : Room} {len W : Nat} {as' : Array Value} (hM : own_CW l Z y bytes maxL ret [] rm as' h Ts Q)
    (hZ : Z.Warmed39 s.vm) (I : IB Z s.vm Ts) (wc : (Cond.code y bytes maxL ret).before a0 Z = true) (wz : (Cond.initialized y.cls).before a0 Z = true) (hf : rm.frames + 1 ≤ R.frames) (hl : W + (maxL + 11) + rm.locals ≤ R.locals) :
    BackS l R p e below s args y len W (fun A a => a = as' ∧ A.U.heap = h ∧ A.cells + rm.cells ≤ R.cells ∧ A.slots + rm.slots ≤ R.slots)
      (fun A _ v B => ∃ L Ts', Q v B.U.heap L Ts' ∧ IB Z B.U.vm Ts' ∧ B.locs = A.locs ++ L ∧ B.cells = A.cells + rm.cells ∧ B.slots = A.slots + rm.slots) :=
  BackS.of_freeW (bytes := bytes) (maxL := maxL) (ret := ret) (E := fun _ _ o t L k n => k = rm.cells ∧ n = rm.slots ∧ ∃ v Ts', o = .returned v ∧ Q v t.heap L Ts' ∧ IB Z t.vm Ts') hM hf hl
    (fun m meth c A a Y hp => have hU : Z.Warmed39 A.U.vm := wtrans hZ Y.warmed
      ⟨by show (Cond.and _ .tt).before a A.U = true; rw [Cond.before_and, mv hU wc]; rfl, mv hU wc, mv hU wz, hp.2.2.1, hp.2.2.2⟩)
    (fun m meth c A a g mk Y hp => ⟨hp.1, wtrans hZ Y.warmed, hp.2.1, own_IBw I Y.warmed.interned_eq⟩) (fun _ _ _ _ _ _ _ _ _ => trivial)
    (fun _ _ _ _ ⟨v, L, Ts', h1, h2, h3, h4⟩ => ⟨L, _, _, h4, rfl, rfl, v, Ts', h1, h2, h3⟩)
    (fun m meth c A a g mk v t L k n Y hp _ _ ⟨e1, e2, v', Ts', e3, e4, e5⟩ => by cases e3; subst e1 e2; exact ⟨L, Ts', e4, e5, rfl, rfl, rfl⟩)
theorem own_callSW (X : Stand p l e R (s.setVm vm0) m args below meth c T locs cells slots) (hx : p.tables.exec = Jvm.exec) (hZ : Z.Warmed39 (s.setVm vm0).vm) {own : String} {index : Nat} {y : MethodName} {bytes : ByteArray} {maxL : Nat} {ret : Option FieldType} (hown : (s.setVm vm0).vm.findClass own = some m.cls)
    (w1 : (Cond.methodLink own index y).before a0 Z = true) (w2 : (Cond.static y).before a0 Z = true) (w3 : (Cond.initialized y.cls).before a0 Z = true) (w4 : (Cond.code y bytes maxL ret).before a0 Z = true) (hy : y.cls ≠ "java/lang/invoke/MethodHandle" ∧ y.cls ≠ "java/lang/invoke/VarHandle") (S : own_Sn s vm0 h) (I : IB Z vm0 Ts)
    {rm : Room} {argsL rest : List Value} {as' : Array Value} (hM : own_CW l Z y bytes maxL ret [] rm as' h Ts Q) {W : Nat} (hf : rm.frames + 1 ≤ R.frames) (hl : W + (maxL + 11) + rm.locals ≤ R.locals) {g : JFrame} (hg : g.method = m) (hsize : g.locals.size = c.maxLocals)
    (hlen : ∀ sig, parseMethodDescriptor y.desc = some sig → argsL.length = sig.parameters.length) (hstack : g.stack = argsL.reverse ++ rest) (has : argsL.toArray = as') (hW : 2 * g.monitorRoom + (rest.map fun v => v.category).sum ≤ W) (hdg : decode c.code g.pc = .ok (.invokestatic index, 3)) (eT : T.heap = h)
    (hc : cells + rm.cells ≤ R.cells) (hs : slots + rm.slots ≤ R.slots) :
    ∃ (v : Option Value) (T' : State) (h' : Heap) (L : List Loc) (Ts' : List String) (vm1 : Vm), T'.heap = h' ∧ Stand p l e R (s.setVm vm1) m args below meth c T' (locs ++ L) (cells + rm.cells) (slots + rm.slots) ∧ Q v h' L Ts' ∧ own_Sn s vm1 h' ∧ IB Z vm1 Ts' ∧ Z.Warmed39 (s.setVm vm1).vm ∧ (s.setVm vm1).vm.findClass own = some m.cls ∧ ∀ target, Steps p.tables e below (T'.setTop { g with pc := g.pc + 3, stack := v.toList ++ rest }) target → Steps p.tables e below (T.setTop g) target := by
  obtain ⟨v, vm, ⟨T', L', k', n'⟩, -, X', hS', hgr, ⟨Lc, Ts', hQ, hI, l1, y1, z1⟩, st⟩ := callSS X hx (y := y) hown (mvT hZ w1) (mvT hZ w2) (mvT hZ w3) (mvT hZ w4) hy (own_backW (W := W) hM hZ I w4 w3 hf hl) hg hsize hlen hstack hW hdg (fun _ _ => ⟨has, eT, hc, hs⟩)
  dsimp only [Pt.U, Pt.locs, Pt.cells, Pt.slots] at X' l1 y1 z1 st hQ hI hS' hgr
  subst l1 y1 z1
  obtain ⟨k0, hS, hk⟩ := S
  obtain ⟨X2, a, b, d⟩ := rebS hS (n1 := T.heap.size) (by rw [eT]; exact hk) X' hS' hgr hZ hown
  exact ⟨v, T', _, Lc, Ts', _, rfl, X2, hQ, ⟨_, a, Nat.le_refl _⟩, hI, b, d, fun _ k => st.trans k⟩
theorem own_callCW (X : Stand p l e R (s.setVm vm0) m args below meth c T locs cells slots) (hx : p.tables.exec = Jvm.exec) (hZ : Z.Warmed39 (s.setVm vm0).vm) {own : String} {index : Nat} {y : MethodName} {bytes : ByteArray} {maxL : Nat} (hy1 : y.name = "<init>") (hown : (s.setVm vm0).vm.findClass own = some m.cls)
    (w1 : (Cond.methodLink own index y).before a0 Z = true) (w2 : (Cond.instanceMethod y).before a0 Z = true) (w3 : (Cond.initialized y.cls).before a0 Z = true) (w4 : (Cond.code y bytes maxL none).before a0 Z = true) (hy : y.cls ≠ "java/lang/invoke/MethodHandle" ∧ y.cls ≠ "java/lang/invoke/VarHandle") (S : own_Sn s vm0 h) (I : IB Z vm0 Ts)
    {rm : Room} {a : Addr} {argsL rest : List Value} {as' : Array Value} (hM : own_CW l Z y bytes maxL none [] rm as' h Ts Q) {W : Nat} (hf : rm.frames + 1 ≤ R.frames) (hl : W + (maxL + 11) + rm.locals ≤ R.locals) {g : JFrame} (hg : g.method = m) (hsize : g.locals.size = c.maxLocals)
    (hlen : ∀ sig, parseMethodDescriptor y.desc = some sig → argsL.length = sig.parameters.length) (hstack : g.stack = argsL.reverse ++ .ref a :: rest) (has : (.ref a :: argsL).toArray = as') (hW : 2 * g.monitorRoom + (rest.map fun v => v.category).sum ≤ W) (hdg : decode c.code g.pc = .ok (.invokespecial index, 3)) (eT : T.heap = h)
    (hc : cells + rm.cells ≤ R.cells) (hs : slots + rm.slots ≤ R.slots) :
    ∃ (v : Option Value) (T' : State) (h' : Heap) (L : List Loc) (Ts' : List String) (vm1 : Vm), T'.heap = h' ∧ Stand p l e R (s.setVm vm1) m args below meth c T' (locs ++ L) (cells + rm.cells) (slots + rm.slots) ∧ Q v h' L Ts' ∧ own_Sn s vm1 h' ∧ IB Z vm1 Ts' ∧ Z.Warmed39 (s.setVm vm1).vm ∧ (s.setVm vm1).vm.findClass own = some m.cls ∧ ∀ target, Steps p.tables e below (T'.setTop { g with pc := g.pc + 3, stack := v.toList ++ rest }) target → Steps p.tables e below (T.setTop g) target := by
  obtain ⟨v, vm, ⟨T', L', k', n'⟩, -, X', hS', hgr, ⟨Lc, Ts', hQ, hI, l1, y1, z1⟩, st⟩ := X.specialBackS hx (y := y) hy1 hown (mvT hZ w1) (mvT hZ w2) (mvT hZ w4) hy (own_backW (W := W) hM hZ I w4 w3 hf hl) hg hsize (Steps.refl _) hlen hstack hW hdg (fun _ _ => ⟨has, eT, hc, hs⟩)
  dsimp only [Pt.U, Pt.locs, Pt.cells, Pt.slots] at X' l1 y1 z1 st hQ hI hS' hgr
  subst l1 y1 z1
  obtain ⟨k0, hS, hk⟩ := S
  obtain ⟨X2, a, b, d⟩ := rebS hS (n1 := T.heap.size) (by rw [eT]; exact hk) X' hS' hgr hZ hown
  exact ⟨v, T', _, Lc, Ts', _, rfl, X2, hQ, ⟨_, a, Nat.le_refl _⟩, hI, b, d, fun _ k => st.trans k⟩
/-- 'ldc' of a String constant, its text read -/
theorem own_ldcW (X : Stand p l e R (s.setVm vm0) m args below meth c T locs cells slots) (hx : p.tables.exec = Jvm.exec) (hZ : Z.Warmed39 (s.setVm vm0).vm) {own text : String} {index : Nat} (hown : (s.setVm vm0).vm.findClass own = some m.cls) (w : (Cond.stringLink own index text).before a0 Z = true) (wS : ∀ a ∈ Bundle.stringAtoms, a.before a0 Z = true)
    (eT : T.heap = h) (S : own_Sn s vm0 h) (N : Fr s.heap.size locs) (hkeep : ∀ (b : Addr) (cl : Cell), Z.heap[b]? = some cl → s.heap[b]? = some cl) (I : IB Z vm0 Ts) (hnot : text ∉ Ts) (hh : Jvm.Lit.constHeld Z own index) (hcw : Jvm.Lit.compactW.before a0 Z = true)
    {vs : List Value} (ht : (∀ c ∈ text.toList, c.toNat < 256) ∧ text.toList.map (fun c => Value.int (Jvm.Lit.byteI c.toNat.toUInt16)) = vs) (hl : vs.length < 1000)
    {g : JFrame} (hg : g.method = m) (hd : decode c.code g.pc = .ok (.ldc index, 2)) {n : Nat} (hn : 4 * text.toList.length ≤ n) (hbig : n ≤ 536870912) (hc : cells + 2 ≤ R.cells) (hl' : slots + (n + 4) ≤ R.slots) :
    ∃ (a : Addr) (T' : State) (h' : Heap) (b : Addr) (k : ClassId) (vm1 : Vm), Stand p l e R (s.setVm vm1) m args below meth c T' locs (cells + 2) (slots + (n + 4)) ∧ T'.heap = h' ∧ Ext h h' ∧ own_Sn s vm1 h' ∧ Z.Warmed39 (s.setVm vm1).vm ∧ (s.setVm vm1).vm.findClass own = some m.cls ∧
      Exa Z h' a "java/lang/String" ∧ Fld Z h' a "java/lang/String" "coder" "B" (.int 0) ∧ Fld Z h' a "java/lang/String" "value" "[B" (.ref b) ∧ own_Ar Z h' b k .byte vs ∧ IB Z vm1 (text :: Ts) ∧ Lit (s.setVm vm1) own index a ∧
      ∀ target, Steps p.tables e below (T'.setTop { g with pc := g.pc + 2, stack := .ref a :: g.stack }) target → Steps p.tables e below (T.setTop g) target := by
  obtain ⟨k0, hS, hk⟩ := S
  have e0 : (Int32.ofNat vs.length).toInt = vs.length := Int32.toInt_ofNat_of_lt (by omega)
  have hz : ¬ Int32.ofNat vs.length < 0 := by
    rw [Int32.lt_iff_toInt_lt, e0]
    have : (0 : Int32).toInt = 0 := rfl
    omega
  have hzl : (Int32.ofNat vs.length).toNatClampNeg = vs.length := by rw [Int32.toNatClampNeg, e0]; rfl
  obtain ⟨a, T', h', k1, b, k, r1, r2, r3, r4, r5, r6, r7, r8, r9, r10, r11, -, -, r14, r15, r16⟩ := ldcSVL X hx hZ hown w wS eT hS hk N hkeep I hnot hh hcw ht hz hzl hg hd hn hbig hc hl'
  exact ⟨a, T', h', b, k, _, r1, r2, r3, ⟨k1, r4, r5⟩, r6, r7, r8, r9, r10, own_Ar.of_arv r11 hzl, r14, r15, r16⟩
theorem own_ldcA (X : Stand p l e R (s.setVm vm0) m args below meth c T locs cells slots) (hx : p.tables.exec = Jvm.exec) (hZ : Z.Warmed39 (s.setVm vm0).vm) {own text : String} {index : Nat} (hown : (s.setVm vm0).vm.findClass own = some m.cls) (w : (Cond.stringLink own index text).before a0 Z = true) {a : Addr} (L : Lit (s.setVm vm0) own index a)
    {g : JFrame} (hg : g.method = m) (hd : decode c.code g.pc = .ok (.ldc index, 2)) : ∀ target, Steps p.tables e below (T.setTop { g with pc := g.pc + 2, stack := .ref a :: g.stack }) target → Steps p.tables e below (T.setTop g) target :=
  ldcAgain X hx hZ hown w L hg hd
end OwnWide
section OwnChars
variable {p : Program} {l : Launch} {e : Env} {R : Room} {s : State} {m : MethodId} {args : Array Value} {below : List Frame} {meth : Method} {c : Code} {T : State} {locs : List Loc} {cells slots : Nat} {Z : State} {a0 : Array Value} {h h' : Heap} {a : Addr} {k : ClassId} {vs : List Value} {v : Value}
theorem own_caload (X : Stand p l e R s m args below meth c T locs cells slots) (hx : p.tables.exec = Jvm.exec) (hZ : Z.Warmed39 s.vm) (eT : T.heap = h) (F : own_Ar Z h a k .char vs) {j : Int32} (h0 : ¬ j < 0) {i : Nat} (hj : j.toNatClampNeg = i) (hv : vs[i]? = some v) {g : JFrame} (hg : g.method = m) {rest : List Value} (hs : g.stack = .int j :: .ref a :: rest) (hd : decode c.code g.pc = .ok (.caload, 1)) :
    ∀ target, Steps p.tables e below (T.setTop { g with pc := g.pc + 1, stack := v :: rest }) target → Steps p.tables e below (T.setTop g) target := by
  obtain ⟨cl, A, q, sz, ln, f⟩ := F
  subst hj
  exact X.caload hx (by rw [eT]; exact A.1) (State.isArrayOf_alike hZ.alike A.2.1) A.2.2 (own_inb sz h0 (List.getElem?_eq_some_iff.mp hv).1) (by rw [sz]; simpa using hv) hg hs hd
theorem own_castore (X : Stand p l e R s m args below meth c T locs cells slots) (hx : p.tables.exec = Jvm.exec) (hZ : Z.Warmed39 s.vm) (eT : T.heap = h) (F : own_Ar Z h a k .char vs) {j x : Int32} (h0 : ¬ j < 0) {i : Nat} (hj : j.toNatClampNeg = i) (hi : i < vs.length) {g : JFrame} (hg : g.method = m) {rest : List Value} (hs : g.stack = .int x :: .int j :: .ref a :: rest) (hd : decode c.code g.pc = .ok (.castore, 1)) :
    ∃ T' h', Stand p l e R s m args below meth c T' (locs ++ [⟨a, i⟩]) cells slots ∧ T'.heap = h' ∧ Wr h h' a i (.int (nar .char x)) ∧ own_Ar Z h' a k .char (vs.set i (.int (nar .char x))) ∧ ∀ target, Steps p.tables e below (T'.setTop { g with pc := g.pc + 1, stack := rest }) target → Steps p.tables e below (T.setTop g) target := by
  have F' := F
  obtain ⟨cl, A, q, sz, ln, f⟩ := F
  subst hj
  obtain ⟨T', h', X', e', W, st⟩ := stC X hx hZ eT A (own_inb sz h0 hi) hg hs hd
  exact ⟨T', h', X', e', W, F'.set W (fits_nar_char _), st⟩
theorem own_narC {x : Int32} (h0 : ¬ x < 0) (h1 : ¬ (255 : Int32) < x) : nar .char x = x := by
  have e0 : (0 : Int32).toInt = 0 := rfl
  have e1 : (255 : Int32).toInt = 255 := rfl
  rw [Int32.lt_iff_toInt_lt, e0] at h0
  rw [Int32.lt_iff_toInt_lt, e1] at h1
  have q := c_i2c x
  apply Int32.toInt_inj.mp
  show x.toUInt32.toUInt16.toUInt32.toInt32.toInt = _
  omega
theorem own_m255 (x : Int32) : ¬ (x &&& (255 : Int32)) < 0 ∧ ¬ (255 : Int32) < (x &&& (255 : Int32)) := by
  have h := c_mask x 255 8 (by decide) (by decide)
  have e0 : (0 : Int32).toInt = 0 := rfl
  have e1 : (255 : Int32).toInt = 255 := rfl
  constructor
  · rw [Int32.lt_iff_toInt_lt, e0]; omega
  · rw [Int32.lt_iff_toInt_lt, e1]; omega
end OwnChars
theorem own_ne0 {t : Term} {args : Array Value} {s : State} {x : Int32} (ev : t.eval args s none [] s = some (.int x)) (h : (Cond.not (.eq t (.int 0))).before args s = true) : x ≠ 0 := by
  intro q
  subst q
  have e0 : (Term.int 0).eval args s none [] s = some (.int 0) := rfl
  simp [Cond.before, Cond.holds, Cond.value, ev, e0] at h
theorem own_fldInj {Z : State} {h : Heap} {a : Addr} {C n d : String} {v v' : Value} (F : Fld Z h a C n d v) (G : Fld Z h a C n d v') : v = v' := by
  obtain ⟨cell1, cf1, kf1, i1, fc, g1, g2, g3, g4, g5, g6, g7⟩ := F
  obtain ⟨cell2, cf2, kf2, i2, fv, v1, v2, v3, v4, v5, v6, v7⟩ := G
  cases g1.symm.trans v1
  cases g2.symm.trans v2
  cases g7.symm.trans v7
  rfl
theorem own_arInj {Z : State} {h : Heap} {a : Addr} {k k' : ClassId} {t : FieldType} {vs vs' : List Value} (F : own_Ar Z h a k t vs) (G : own_Ar Z h a k' t vs') : vs = vs' := by
  obtain ⟨c, A, -, s1, -⟩ := F
  obtain ⟨c', A', -, s2, -⟩ := G
  cases A.1.symm.trans A'.1
  have := s1.symm.trans s2
  simpa using this
def own_bv (p : Int32) : Int32 := p.toInt8.toInt32.toInt8.toInt32
theorem own_wS {Z : State} {a0 : Array Value} (hw : ∀ d ∈ tables_1, d.before a0 Z = true) : ∀ a ∈ Bundle.stringAtoms, a.before a0 Z = true := by
  intro a ha
  simp only [Bundle.stringAtoms, Bundle.sN, List.mem_cons, List.not_mem_nil, or_false] at ha
  rcases ha with rfl | rfl | rfl | rfl | rfl | rfl | rfl
  · exact (hw _ (List.mem_of_getElem? (i := 7) rfl))
  · exact (hw _ (List.mem_of_getElem? (i := 6) rfl))
  · exact (hw _ (List.mem_of_getElem? (i := 19) rfl))
  · exact (hw _ (List.mem_of_getElem? (i := 20) rfl))
  · exact (hw _ (List.mem_of_getElem? (i := 21) rfl))
  · exact (hw _ (List.mem_of_getElem? (i := 22) rfl))
  · exact (hw _ (List.mem_of_getElem? (i := 23) rfl))
theorem own_cloneT {p : Program} {l : Launch} {e : Env} {R : Room} {s : State} {m : MethodId} {args : Array Value} {below : List Frame} {meth : Method} {c : Code} {T : State} {locs : List Loc} {cells slots : Nat} {Z : State} {a0 : Array Value} {h : Heap} {a : Addr} {k : ClassId} {vs : List Value} {ty : FieldType} {ad : String}
    (X : Stand p l e R s m args below meth c T locs cells slots) (hx : p.tables.exec = Jvm.exec) (hZ : Z.Warmed39 s.vm) {own : String} {index : Nat} (hown : s.vm.findClass own = some m.cls)
    (w1 : (Cond.methodLink own index ⟨ad, "clone", "()Ljava/lang/Object;"⟩).before a0 Z = true) (w2 : (Cond.sameMethod ad "java/lang/Object" "clone" "()Ljava/lang/Object;").before a0 Z = true) (w3 : (Cond.native ⟨"java/lang/Object", "clone", "()Ljava/lang/Object;"⟩).before a0 Z = true)
    (w4 : (Cond.instanceMethod ⟨"java/lang/Object", "clone", "()Ljava/lang/Object;"⟩).before a0 Z = true) (w5 : (Cond.selects ad ⟨ad, "clone", "()Ljava/lang/Object;"⟩ ⟨"java/lang/Object", "clone", "()Ljava/lang/Object;"⟩).before a0 Z = true) (w6 : (Cond.castable ad "java/lang/Cloneable").before a0 Z = true)
    (eT : T.heap = h) (A : own_Ar Z h a k ty vs) (E : Exa Z h a ad) {g : JFrame} (hg : g.method = m) (hsize : g.locals.size = c.maxLocals) {rest : List Value} (hs : g.stack = .ref a :: rest) (hd : decode c.code g.pc = .ok (.invokevirtual index, 3))
    (hf : 1 ≤ R.frames) {W cap : Nat} (hW : 2 * g.monitorRoom + (rest.map fun v => v.category).sum ≤ W) (hl : W + 14 ≤ R.locals) (hcap : vs.length ≤ cap) (hc : cells + 1 ≤ R.cells) (hsl : slots + cap ≤ R.slots) :
    ∃ T' h', Stand p l e R s m args below meth c T' locs (cells + 1) (slots + cap) ∧ T'.heap = h' ∧ Ext h h' ∧ own_Ar Z h' h.size k ty vs ∧ Exa Z h' h.size ad ∧
      ∀ target, Steps p.tables e below (T'.setTop { g with pc := g.pc + 3, stack := .ref h.size :: rest }) target → Steps p.tables e below (T.setTop g) target := by
  obtain ⟨cl, Ar, q, sz, ln, f⟩ := A
  have hF : FitC Z cl := fitC_of Ar fun i hi v hv => by
    rw [sz] at hv
    exact f v (List.mem_of_getElem? (by simpa using hv))
  obtain ⟨T', h', X', e', E', A', Ex, st⟩ := cloneA X hx hZ hown w1 w2 w3 w4 w5 w6 eT Ar E hF hg hsize hs hd hf (cap := cap) hW hl (by rw [sz]; simpa using hcap) hc hsl
  exact ⟨T', h', X', e', E', ⟨_, A', q, sz, ln, f⟩, Ex, st⟩
/-! facts on statics at the start -/
theorem own_fldI {args : Array Value} {s : State} {t : Term} {a : Addr} {C n d : String} {k : Int32} (ev : t.eval args s none [] s = some (.ref a)) (h : (Cond.eq (.field t C n d) (.int k)).value args s none s [] = some true) : Fld s s.heap a C n d (.int k) := by
  obtain ⟨x, y, e1, e2, -, k2⟩ := cmp_v (Or.inl h)
  cases (Term.int_eval k).symm.trans e2
  obtain ⟨z, rfl⟩ : ∃ z, x = .int z := k2
  obtain rfl := gotT (Cond.eq_ints e1 e2) h
  exact Fld.start ((fld_at ev).symm.trans e1)
theorem own_elem {args : Array Value} {s : State} {t u : Term} {a b : Addr} {cl : Cell} {ty : FieldType} {j : Int32} (ev : t.eval args s none [] s = some (.ref a)) (ev2 : u.eval args s none [] s = some (.ref b)) (A : Arr s s.heap a cl ty) (h : (Cond.eq (.elem t (.int j)) u).value args s none s [] = some true) : cl.slots[j.toNatClampNeg]? = some (.ref b) := by
  obtain ⟨x, y, e1, e2, -, k2⟩ := cmp_v (Or.inl h)
  cases ev2.symm.trans e2
  have hr : x.isRef = true := k2.2
  obtain rfl := gotT (eq_R e1 e2 hr rfl) h
  exact (elem_in e1 ev (Term.int_eval j) A.1).2
theorem own_lenN {args : Array Value} {s : State} {t : Term} {a : Addr} {n : Int32} {ty : FieldType} (ev : t.eval args s none [] s = some (.ref a)) (h6 : (Cond.arrayOf t ty).value args s none s [] = some true) (h8 : (Cond.eq (.length t) (.int n)).value args s none s [] = some true) : ∃ c : Cell, Arr s s.heap a c ty ∧ c.slots.size.toInt32 = n ∧ c.slots.size < 2 ^ 31 := by
  obtain ⟨c, A⟩ := Arr.start ev h6
  obtain ⟨x, y, e1, -⟩ := cmp_v (Or.inl h8)
  have e1' := e1
  obtain ⟨b, cell, q1, q2, rfl⟩ := Term.length_spec e1
  cases ev.symm.trans q1
  cases (Arr.fin (State.Warmed39.refl s).alike A).symm.trans q2
  refine ⟨_, A, gotT (Cond.eq_ints e1 (Term.int_eval n)) h8, ?_⟩
  by_cases hl : c.slots.size < 2 ^ 31
  · exact hl
  · simp [Term.eval, ev, q2, hl] at e1'
theorem own_elemI {args : Array Value} {s : State} {t : Term} {a : Addr} {cl : Cell} {ty : FieldType} {j k : Int32} (ev : t.eval args s none [] s = some (.ref a)) (A : Arr s s.heap a cl ty) (h : (Cond.eq (.elem t (.int j)) (.int k)).value args s none s [] = some true) : cl.slots[j.toNatClampNeg]? = some (.int k) := by
  obtain ⟨x, y, e1, e2, -, k2⟩ := cmp_v (Or.inl h)
  cases (Term.int_eval k).symm.trans e2
  obtain ⟨z, rfl⟩ : ∃ z, x = .int z := k2
  obtain rfl := gotT (Cond.eq_ints e1 e2) h
  exact (elem_in e1 ev (Term.int_eval j) A.1).2
theorem own_szI {c : Cell} {n : Nat} (hn : n < 100) (h : c.slots.size.toInt32 = Int32.ofNat n) (hb : c.slots.size < 2 ^ 31) : c.slots.size = n := by
  have q := congrArg Int32.toInt h
  have e : (c.slots.size.toInt32).toInt = c.slots.size := len_toInt hb
  rw [e, Int32.toInt_ofNat_of_lt (by omega)] at q
  omega
theorem own_arr1 {c : Cell} {v0 : Value} (hs : c.slots.size = 1) (h0 : c.slots[0]? = some v0) : c.slots = [v0].toArray := by
  apply Array.ext_getElem?
  intro i
  have hi : i = 0 ∨ 1 ≤ i := by omega
  rcases hi with rfl | hi
  · exact h0
  · rw [Array.getElem?_eq_none (by omega), Array.getElem?_eq_none (by simpa using hi)]
theorem own_arr2 {c : Cell} {v0 v1 : Value} (hs : c.slots.size = 2) (h0 : c.slots[0]? = some v0) (h1 : c.slots[1]? = some v1) : c.slots = [v0, v1].toArray := by
  apply Array.ext_getElem?
  intro i
  have hi : i = 0 ∨ i = 1 ∨ 2 ≤ i := by omega
  rcases hi with rfl | rfl | hi
  · exact h0
  · exact h1
  · rw [Array.getElem?_eq_none (by omega), Array.getElem?_eq_none (by simpa using hi)]
theorem own_arr6 {c : Cell} {v0 v1 v2 v3 v4 v5 : Value} (hs : c.slots.size = 6) (h0 : c.slots[0]? = some v0) (h1 : c.slots[1]? = some v1) (h2 : c.slots[2]? = some v2) (h3 : c.slots[3]? = some v3) (h4 : c.slots[4]? = some v4) (h5 : c.slots[5]? = some v5) : c.slots = [v0, v1, v2, v3, v4, v5].toArray := by
  apply Array.ext_getElem?
  intro i
  have hi : i = 0 ∨ i = 1 ∨ i = 2 ∨ i = 3 ∨ i = 4 ∨ i = 5 ∨ 6 ≤ i := by omega
  rcases hi with rfl | rfl | rfl | rfl | rfl | rfl | hi
  · exact h0
  · exact h1
  · exact h2
  · exact h3
  · exact h4
  · exact h5
  · rw [Array.getElem?_eq_none (by omega), Array.getElem?_eq_none (by simpa using hi)]
def own_o1 (e0 e1 e3 : Addr) (y0 : Int32) : Value := if (61 : Int32) = y0 then .ref e0 else if (60 : Int32) = y0 then .ref e1 else if (62 : Int32) = y0 then .ref e3 else .null
def own_o2 (e2 e4 e5 : Addr) (y0 y1 : Int32) : Value := if (60 : Int32) = y0 ∧ (61 : Int32) = y1 then .ref e2 else if (62 : Int32) = y0 ∧ (61 : Int32) = y1 then .ref e4 else if (73 : Int32) = y0 ∧ (78 : Int32) = y1 then .ref e5 else .null
theorem own_o1r (e0 e1 e3 : Addr) (y0 : Int32) : (own_o1 e0 e1 e3 y0).isRef = true := by
  unfold own_o1
  repeat' split
  all_goals rfl
theorem own_o2r (e2 e4 e5 : Addr) (y0 y1 : Int32) : (own_o2 e2 e4 e5 y0 y1).isRef = true := by
  unfold own_o2
  repeat' split
  all_goals rfl
theorem own_bvk {c : Int32} (h0 : ¬ c < 0) (h1 : ¬ (255 : Int32) < c) (k : Int32) (hk : 0 ≤ k.toInt ∧ k.toInt < 128) : k = own_bv c ↔ c = k := by
  have e0 : (0 : Int32).toInt = 0 := rfl
  have e1 : (255 : Int32).toInt = 255 := rfl
  rw [Int32.lt_iff_toInt_lt, e0] at h0
  rw [Int32.lt_iff_toInt_lt, e1] at h1
  have q : own_bv c = c.toInt8.toInt32 := by rw [own_bv, Int8.toInt8_toInt32]
  rw [q, ← Int32.toInt_inj, ← Int32.toInt_inj, Int8.toInt_toInt32]
  have z : c.toInt8.toInt = Int.bmod c.toInt 256 := by
    rw [Int32.toInt_toInt8]
  rw [z, Int.bmod_def]
  have : c.toInt % ((256 : Nat) : Int) = c.toInt := Int.emod_eq_of_lt (by omega) (by omega)
  rw [this]
  split <;> omega
theorem own_pd0 : parseMethodDescriptor "([CI[BII)I" = some ⟨[(.array .char), .int, (.array .byte), .int, .int], some .int⟩ := by decide +kernel
theorem own_pd1 : parseMethodDescriptor "([CII)[B" = some ⟨[(.array .char), .int, .int], some (.array .byte)⟩ := by decide +kernel
theorem own_pd2 : parseMethodDescriptor "([BI)B" = some ⟨[(.array .byte), .int], some .byte⟩ := by decide +kernel
theorem own_pd3 : parseMethodDescriptor "([CIILjava/lang/Void;)V" = some ⟨[(.array .char), .int, .int, (.object "java/lang/Void")], none⟩ := by decide +kernel
theorem own_pd4 : parseMethodDescriptor "([C)V" = some ⟨[(.array .char)], none⟩ := by decide +kernel
theorem own_pd5 : parseMethodDescriptor "()V" = some ⟨[], none⟩ := by decide +kernel
theorem duz1_0 : decode jdk_52_method_21_code 0 = .ok (.iconst 0, 1) := by decide +kernel
theorem duz1_1 : decode jdk_52_method_21_code 1 = .ok (.istore 5, 2) := by decide +kernel
theorem duz1_3 : decode jdk_52_method_21_code 3 = .ok (.iload 5, 2) := by decide +kernel
theorem duz1_5 : decode jdk_52_method_21_code 5 = .ok (.iload 4, 2) := by decide +kernel
theorem duz1_7 : decode jdk_52_method_21_code 7 = .ok (.if_icmp .ge 37, 3) := by decide +kernel
theorem duz1_10 : decode jdk_52_method_21_code 10 = .ok (.aload_n 0, 1) := by decide +kernel
theorem duz1_11 : decode jdk_52_method_21_code 11 = .ok (.iload_n 1, 1) := by decide +kernel
theorem duz1_12 : decode jdk_52_method_21_code 12 = .ok (.caload, 1) := by decide +kernel
theorem duz1_13 : decode jdk_52_method_21_code 13 = .ok (.istore 6, 2) := by decide +kernel
theorem duz1_15 : decode jdk_52_method_21_code 15 = .ok (.iload 6, 2) := by decide +kernel
theorem duz1_17 : decode jdk_52_method_21_code 17 = .ok (.sipush 255, 3) := by decide +kernel
theorem duz1_20 : decode jdk_52_method_21_code 20 = .ok (.if_icmp .le 6, 3) := by decide +kernel
theorem duz1_23 : decode jdk_52_method_21_code 23 = .ok (.iload 5, 2) := by decide +kernel
theorem duz1_25 : decode jdk_52_method_21_code 25 = .ok (.ireturn, 1) := by decide +kernel
theorem duz1_26 : decode jdk_52_method_21_code 26 = .ok (.aload_n 2, 1) := by decide +kernel
theorem duz1_27 : decode jdk_52_method_21_code 27 = .ok (.iload_n 3, 1) := by decide +kernel
theorem duz1_28 : decode jdk_52_method_21_code 28 = .ok (.iload 6, 2) := by decide +kernel
theorem duz1_30 : decode jdk_52_method_21_code 30 = .ok (.i2b, 1) := by decide +kernel
theorem duz1_31 : decode jdk_52_method_21_code 31 = .ok (.bastore, 1) := by decide +kernel
theorem duz1_32 : decode jdk_52_method_21_code 32 = .ok (.iinc 1 1, 3) := by decide +kernel
theorem duz1_35 : decode jdk_52_method_21_code 35 = .ok (.iinc 3 1, 3) := by decide +kernel
theorem duz1_38 : decode jdk_52_method_21_code 38 = .ok (.iinc 5 1, 3) := by decide +kernel
theorem duz1_41 : decode jdk_52_method_21_code 41 = .ok (.goto (-38), 3) := by decide +kernel
theorem duz1_44 : decode jdk_52_method_21_code 44 = .ok (.iload 4, 2) := by decide +kernel
theorem duz1_46 : decode jdk_52_method_21_code 46 = .ok (.ireturn, 1) := by decide +kernel
theorem own_pn0 : plainName "java/lang/StringUTF16" = true := by first | (simp [plainName, overriddenIn]; done) | decide +kernel
theorem own_efuz1 (m : MethodId) (a b : Addr) : entryFrame m #[(.ref a), (.int (0 : Int32)), (.ref b), (.int (0 : Int32)), (.int (1 : Int32))] 7 = mkF m 0 #[.val (.ref a), .val (.int (0 : Int32)), .val (.ref b), .val (.int (0 : Int32)), .val (.int (1 : Int32)), .unset, .unset] [] := by first | (simp [entryFrame, mkF, argsToLocals, Value.category]; done) | rfl
set_option maxRecDepth 65536 in
set_option maxHeartbeats 40000000 in
theorem own_rmuz1 (l : Launch) (Z : State) (a0 : Array Value) (hw : ∀ d ∈ tables_1, d.before a0 Z = true) (a b : Addr) (h0 : Heap) (n0 : Nat) (g_b : n0 ≤ b) (u0 : Int32) (hu0 : ¬ (255 : Int32) < u0) (ka kb : ClassId) (ne_a_b : a ≠ b) (V_a : own_Ar Z h0 a ka .char [.int u0]) (V_b : own_Ar Z h0 b kb .byte [.int 0]) :
    own_C l Z (⟨"java/lang/StringUTF16", "compress", "([CI[BII)I"⟩ : MethodName) jdk_52_method_21_code 7 (some .int) [] ({ frames := 0, cells := 0, slots := 0, locals := 0 } : Room) #[(.ref a), (.int (0 : Int32)), (.ref b), (.int (0 : Int32)), (.int (1 : Int32))] h0 (fun v h L => v = some (.int 1) ∧ Fr n0 L ∧ Keep h0 h [b] ∧ own_Ar Z h b kb .byte [.int (own_bv u0)]) := by
  refine own_body (plainFor_of_name own_pn0) fun p e s m below meth c s₁ hx hby hml hret hlk hown hnm hZ X0 e0 => ?_
  rw [own_efuz1 m a b]
  have N0 := Fr.nil n0
  have K := Keep.refl h0 [b]
  refine own_go (U' := s₁.setTop (mkF m 1 #[.val (.ref a), .val (.int (0 : Int32)), .val (.ref b), .val (.int (0 : Int32)), .val (.int (1 : Int32)), .unset, .unset] [(.int (0 : Int32))])) (fun t k => XS.iconst X0.here hx rfl (hb hby duz1_0) k) ?_
  refine own_go (U' := s₁.setTop (mkF m 3 #[.val (.ref a), .val (.int (0 : Int32)), .val (.ref b), .val (.int (0 : Int32)), .val (.int (1 : Int32)), .val (.int (0 : Int32)), .unset] [])) (fun t k => XS.istore X0.here hx rfl (hb hby duz1_1) rfl (l' := #[.val (.ref a), .val (.int (0 : Int32)), .val (.ref b), .val (.int (0 : Int32)), .val (.int (1 : Int32)), .val (.int (0 : Int32)), .unset]) rfl k) ?_
  refine own_go (U' := s₁.setTop (mkF m 5 #[.val (.ref a), .val (.int (0 : Int32)), .val (.ref b), .val (.int (0 : Int32)), .val (.int (1 : Int32)), .val (.int (0 : Int32)), .unset] [(.int (0 : Int32))])) (fun t k => XS.iload X0.here hx rfl (hb hby duz1_3) rfl k) ?_
  refine own_go (U' := s₁.setTop (mkF m 7 #[.val (.ref a), .val (.int (0 : Int32)), .val (.ref b), .val (.int (0 : Int32)), .val (.int (1 : Int32)), .val (.int (0 : Int32)), .unset] [(.int (1 : Int32)), (.int (0 : Int32))])) (fun t k => XS.iload X0.here hx rfl (hb hby duz1_5) rfl k) ?_
  refine own_go (U' := s₁.setTop (mkF m 10 #[.val (.ref a), .val (.int (0 : Int32)), .val (.ref b), .val (.int (0 : Int32)), .val (.int (1 : Int32)), .val (.int (0 : Int32)), .unset] [])) (fun t k => XS.icmpNo X0.here hx rfl (hb hby duz1_7) rfl (tlt (by decide)).2.1 k) ?_
  refine own_go (U' := s₁.setTop (mkF m 11 #[.val (.ref a), .val (.int (0 : Int32)), .val (.ref b), .val (.int (0 : Int32)), .val (.int (1 : Int32)), .val (.int (0 : Int32)), .unset] [(.ref a)])) (fun t k => XS.aloadN X0.here hx rfl (hb hby duz1_10) rfl rfl k) ?_
  refine own_go (U' := s₁.setTop (mkF m 12 #[.val (.ref a), .val (.int (0 : Int32)), .val (.ref b), .val (.int (0 : Int32)), .val (.int (1 : Int32)), .val (.int (0 : Int32)), .unset] [(.int (0 : Int32)), (.ref a)])) (fun t k => XS.iloadN X0.here hx rfl (hb hby duz1_11) rfl k) ?_
  refine own_go (U' := s₁.setTop (mkF m 13 #[.val (.ref a), .val (.int (0 : Int32)), .val (.ref b), .val (.int (0 : Int32)), .val (.int (1 : Int32)), .val (.int (0 : Int32)), .unset] [(.int u0)])) (own_caload X0 hx hZ e0 V_a (j := (0 : Int32)) (by decide) (i := 0) rfl (v := (.int u0)) rfl (g := (mkF m 12 #[.val (.ref a), .val (.int (0 : Int32)), .val (.ref b), .val (.int (0 : Int32)), .val (.int (1 : Int32)), .val (.int (0 : Int32)), .unset] [(.int (0 : Int32)), (.ref a)])) rfl rfl (hb hby duz1_12)) ?_
  refine own_go (U' := s₁.setTop (mkF m 15 #[.val (.ref a), .val (.int (0 : Int32)), .val (.ref b), .val (.int (0 : Int32)), .val (.int (1 : Int32)), .val (.int (0 : Int32)), .val (.int u0)] [])) (fun t k => XS.istore X0.here hx rfl (hb hby duz1_13) rfl (l' := #[.val (.ref a), .val (.int (0 : Int32)), .val (.ref b), .val (.int (0 : Int32)), .val (.int (1 : Int32)), .val (.int (0 : Int32)), .val (.int u0)]) rfl k) ?_
  refine own_go (U' := s₁.setTop (mkF m 17 #[.val (.ref a), .val (.int (0 : Int32)), .val (.ref b), .val (.int (0 : Int32)), .val (.int (1 : Int32)), .val (.int (0 : Int32)), .val (.int u0)] [(.int u0)])) (fun t k => XS.iload X0.here hx rfl (hb hby duz1_15) rfl k) ?_
  refine own_go (U' := s₁.setTop (mkF m 20 #[.val (.ref a), .val (.int (0 : Int32)), .val (.ref b), .val (.int (0 : Int32)), .val (.int (1 : Int32)), .val (.int (0 : Int32)), .val (.int u0)] [(.int (255 : Int32)), (.int u0)])) (fun t k => XS.sipush X0.here hx rfl (hb hby duz1_17) k) ?_
  refine own_go (U' := s₁.setTop (mkF m 26 #[.val (.ref a), .val (.int (0 : Int32)), .val (.ref b), .val (.int (0 : Int32)), .val (.int (1 : Int32)), .val (.int (0 : Int32)), .val (.int u0)] [])) (fun t k => XS.icmpYes X0.here hx rfl (pc0 := 20) (pc' := 26) rfl (hb hby duz1_20) rfl (flt hu0).2.2.2 (by decide) (by decide) k) ?_
  refine own_go (U' := s₁.setTop (mkF m 27 #[.val (.ref a), .val (.int (0 : Int32)), .val (.ref b), .val (.int (0 : Int32)), .val (.int (1 : Int32)), .val (.int (0 : Int32)), .val (.int u0)] [(.ref b)])) (fun t k => XS.aloadN X0.here hx rfl (hb hby duz1_26) rfl rfl k) ?_
  refine own_go (U' := s₁.setTop (mkF m 28 #[.val (.ref a), .val (.int (0 : Int32)), .val (.ref b), .val (.int (0 : Int32)), .val (.int (1 : Int32)), .val (.int (0 : Int32)), .val (.int u0)] [(.int (0 : Int32)), (.ref b)])) (fun t k => XS.iloadN X0.here hx rfl (hb hby duz1_27) rfl k) ?_
  refine own_go (U' := s₁.setTop (mkF m 30 #[.val (.ref a), .val (.int (0 : Int32)), .val (.ref b), .val (.int (0 : Int32)), .val (.int (1 : Int32)), .val (.int (0 : Int32)), .val (.int u0)] [(.int u0), (.int (0 : Int32)), (.ref b)])) (fun t k => XS.iload X0.here hx rfl (hb hby duz1_28) rfl k) ?_
  refine own_go (U' := s₁.setTop (mkF m 31 #[.val (.ref a), .val (.int (0 : Int32)), .val (.ref b), .val (.int (0 : Int32)), .val (.int (1 : Int32)), .val (.int (0 : Int32)), .val (.int u0)] [(.int (u0.toInt8.toInt32)), (.int (0 : Int32)), (.ref b)])) (fun t k => XS.i2b X0.here hx rfl (hb hby duz1_30) rfl k) ?_
  obtain ⟨T1, h1, X1, e1, W1, A1, st1⟩ := own_bastore X0 hx hZ e0 V_b (j := (0 : Int32)) (by decide) (i := 0) rfl (Nat.le_of_ble_eq_true rfl) (g := (mkF m 31 #[.val (.ref a), .val (.int (0 : Int32)), .val (.ref b), .val (.int (0 : Int32)), .val (.int (1 : Int32)), .val (.int (0 : Int32)), .val (.int u0)] [(.int (u0.toInt8.toInt32)), (.int (0 : Int32)), (.ref b)])) rfl rfl (hb hby duz1_31)
  have K := K.wr W1 (Or.inl (List.mem_of_getElem? (i := 0) rfl))
  have V_a := V_a.other W1 ne_a_b
  have V_b : own_Ar Z h1 b kb .byte [(.int (u0.toInt8.toInt32).toInt8.toInt32)] := A1
  have N1 := Fr.snoc X1 N0 g_b
  refine own_go (U' := T1.setTop (mkF m 32 #[.val (.ref a), .val (.int (0 : Int32)), .val (.ref b), .val (.int (0 : Int32)), .val (.int (1 : Int32)), .val (.int (0 : Int32)), .val (.int u0)] [])) st1 ?_
  refine own_go (U' := T1.setTop (mkF m 35 #[.val (.ref a), .val (.int (1 : Int32)), .val (.ref b), .val (.int (0 : Int32)), .val (.int (1 : Int32)), .val (.int (0 : Int32)), .val (.int u0)] [])) (fun t k => XS.iinc X1.here hx rfl (hb hby duz1_32) rfl (l' := #[.val (.ref a), .val (.int (1 : Int32)), .val (.ref b), .val (.int (0 : Int32)), .val (.int (1 : Int32)), .val (.int (0 : Int32)), .val (.int u0)]) rfl k) ?_
  refine own_go (U' := T1.setTop (mkF m 38 #[.val (.ref a), .val (.int (1 : Int32)), .val (.ref b), .val (.int (1 : Int32)), .val (.int (1 : Int32)), .val (.int (0 : Int32)), .val (.int u0)] [])) (fun t k => XS.iinc X1.here hx rfl (hb hby duz1_35) rfl (l' := #[.val (.ref a), .val (.int (1 : Int32)), .val (.ref b), .val (.int (1 : Int32)), .val (.int (1 : Int32)), .val (.int (0 : Int32)), .val (.int u0)]) rfl k) ?_
  refine own_go (U' := T1.setTop (mkF m 41 #[.val (.ref a), .val (.int (1 : Int32)), .val (.ref b), .val (.int (1 : Int32)), .val (.int (1 : Int32)), .val (.int (1 : Int32)), .val (.int u0)] [])) (fun t k => XS.iinc X1.here hx rfl (hb hby duz1_38) rfl (l' := #[.val (.ref a), .val (.int (1 : Int32)), .val (.ref b), .val (.int (1 : Int32)), .val (.int (1 : Int32)), .val (.int (1 : Int32)), .val (.int u0)]) rfl k) ?_
  refine own_go (U' := T1.setTop (mkF m 3 #[.val (.ref a), .val (.int (1 : Int32)), .val (.ref b), .val (.int (1 : Int32)), .val (.int (1 : Int32)), .val (.int (1 : Int32)), .val (.int u0)] [])) (fun t k => XS.goto X1.here hx rfl (pc0 := 41) (pc' := 3) rfl (hb hby duz1_41) (by decide) (by decide) k) ?_
  refine own_go (U' := T1.setTop (mkF m 5 #[.val (.ref a), .val (.int (1 : Int32)), .val (.ref b), .val (.int (1 : Int32)), .val (.int (1 : Int32)), .val (.int (1 : Int32)), .val (.int u0)] [(.int (1 : Int32))])) (fun t k => XS.iload X1.here hx rfl (hb hby duz1_3) rfl k) ?_
  refine own_go (U' := T1.setTop (mkF m 7 #[.val (.ref a), .val (.int (1 : Int32)), .val (.ref b), .val (.int (1 : Int32)), .val (.int (1 : Int32)), .val (.int (1 : Int32)), .val (.int u0)] [(.int (1 : Int32)), (.int (1 : Int32))])) (fun t k => XS.iload X1.here hx rfl (hb hby duz1_5) rfl k) ?_
  refine own_go (U' := T1.setTop (mkF m 44 #[.val (.ref a), .val (.int (1 : Int32)), .val (.ref b), .val (.int (1 : Int32)), .val (.int (1 : Int32)), .val (.int (1 : Int32)), .val (.int u0)] [])) (fun t k => XS.icmpYes X1.here hx rfl (pc0 := 7) (pc' := 44) rfl (hb hby duz1_7) rfl (flt (by decide)).2.1 (by decide) (by decide) k) ?_
  refine own_go (U' := T1.setTop (mkF m 46 #[.val (.ref a), .val (.int (1 : Int32)), .val (.ref b), .val (.int (1 : Int32)), .val (.int (1 : Int32)), .val (.int (1 : Int32)), .val (.int u0)] [(.int (1 : Int32))])) (fun t k => XS.iload X1.here hx rfl (hb hby duz1_44) rfl k) ?_
  refine own_retI X1 hx hret hlk (hb hby duz1_46) ?_ (by decide) (by decide)
  rw [e1]
  exact ⟨rfl, N1, K, V_b⟩
theorem duc1_0 : decode jdk_52_method_16_code 0 = .ok (.iload_n 2, 1) := by decide +kernel
theorem duc1_1 : decode jdk_52_method_16_code 1 = .ok (.newarray .byte, 2) := by decide +kernel
theorem duc1_3 : decode jdk_52_method_16_code 3 = .ok (.astore_n 3, 1) := by decide +kernel
theorem duc1_4 : decode jdk_52_method_16_code 4 = .ok (.aload_n 0, 1) := by decide +kernel
theorem duc1_5 : decode jdk_52_method_16_code 5 = .ok (.iload_n 1, 1) := by decide +kernel
theorem duc1_6 : decode jdk_52_method_16_code 6 = .ok (.aload_n 3, 1) := by decide +kernel
theorem duc1_7 : decode jdk_52_method_16_code 7 = .ok (.iconst 0, 1) := by decide +kernel
theorem duc1_8 : decode jdk_52_method_16_code 8 = .ok (.iload_n 2, 1) := by decide +kernel
theorem duc1_9 : decode jdk_52_method_16_code 9 = .ok (.invokestatic 115, 3) := by decide +kernel
theorem duc1_12 : decode jdk_52_method_16_code 12 = .ok (.istore 4, 2) := by decide +kernel
theorem duc1_14 : decode jdk_52_method_16_code 14 = .ok (.iload 4, 2) := by decide +kernel
theorem duc1_16 : decode jdk_52_method_16_code 16 = .ok (.iload_n 2, 1) := by decide +kernel
theorem duc1_17 : decode jdk_52_method_16_code 17 = .ok (.if_icmp .eq 40, 3) := by decide +kernel
theorem duc1_20 : decode jdk_52_method_16_code 20 = .ok (.aload_n 0, 1) := by decide +kernel
theorem duc1_21 : decode jdk_52_method_16_code 21 = .ok (.iload_n 1, 1) := by decide +kernel
theorem duc1_22 : decode jdk_52_method_16_code 22 = .ok (.iload_n 2, 1) := by decide +kernel
theorem duc1_23 : decode jdk_52_method_16_code 23 = .ok (.invokestatic 119, 3) := by decide +kernel
theorem duc1_26 : decode jdk_52_method_16_code 26 = .ok (.astore 5, 2) := by decide +kernel
theorem duc1_28 : decode jdk_52_method_16_code 28 = .ok (.aload 5, 2) := by decide +kernel
theorem duc1_30 : decode jdk_52_method_16_code 30 = .ok (.iload 4, 2) := by decide +kernel
theorem duc1_32 : decode jdk_52_method_16_code 32 = .ok (.invokestatic 71, 3) := by decide +kernel
theorem duc1_35 : decode jdk_52_method_16_code 35 = .ok (.sipush 255, 3) := by decide +kernel
theorem duc1_38 : decode jdk_52_method_16_code 38 = .ok (.if_icmp .gt 16, 3) := by decide +kernel
theorem duc1_41 : decode jdk_52_method_16_code 41 = .ok (.aload 5, 2) := by decide +kernel
theorem duc1_43 : decode jdk_52_method_16_code 43 = .ok (.iconst 0, 1) := by decide +kernel
theorem duc1_44 : decode jdk_52_method_16_code 44 = .ok (.aload_n 3, 1) := by decide +kernel
theorem duc1_45 : decode jdk_52_method_16_code 45 = .ok (.iconst 0, 1) := by decide +kernel
theorem duc1_46 : decode jdk_52_method_16_code 46 = .ok (.iload_n 2, 1) := by decide +kernel
theorem duc1_47 : decode jdk_52_method_16_code 47 = .ok (.invokestatic 123, 3) := by decide +kernel
theorem duc1_50 : decode jdk_52_method_16_code 50 = .ok (.iload_n 2, 1) := by decide +kernel
theorem duc1_51 : decode jdk_52_method_16_code 51 = .ok (.if_icmp .eq 6, 3) := by decide +kernel
theorem duc1_54 : decode jdk_52_method_16_code 54 = .ok (.aload 5, 2) := by decide +kernel
theorem duc1_56 : decode jdk_52_method_16_code 56 = .ok (.areturn, 1) := by decide +kernel
theorem duc1_57 : decode jdk_52_method_16_code 57 = .ok (.aload_n 3, 1) := by decide +kernel
theorem duc1_58 : decode jdk_52_method_16_code 58 = .ok (.areturn, 1) := by decide +kernel
theorem own_efuc1 (m : MethodId) (a : Addr) : entryFrame m #[(.ref a), (.int (0 : Int32)), (.int (1 : Int32))] 6 = mkF m 0 #[.val (.ref a), .val (.int (0 : Int32)), .val (.int (1 : Int32)), .unset, .unset, .unset] [] := by first | (simp [entryFrame, mkF, argsToLocals, Value.category]; done) | rfl
set_option maxRecDepth 65536 in
set_option maxHeartbeats 40000000 in
theorem own_rmuc1 (l : Launch) (Z : State) (a0 : Array Value) (hw : ∀ d ∈ tables_1, d.before a0 Z = true) (a : Addr) (h0 : Heap) (n0 : Nat) (O : Old Z n0 h0) (u0 : Int32) (hu0 : ¬ (255 : Int32) < u0) (ka : ClassId) (V_a : own_Ar Z h0 a ka .char [.int u0]) :
    own_C l Z (⟨"java/lang/StringUTF16", "compress", "([CII)[B"⟩ : MethodName) jdk_52_method_16_code 6 (some (.array .byte)) [] ({ frames := 1, cells := 1, slots := 1, locals := 18 } : Room) #[(.ref a), (.int (0 : Int32)), (.int (1 : Int32))] h0 (fun v h L => ∃ b kb, v = some (.ref b) ∧ Fr n0 L ∧ Keep h0 h [] ∧ own_Ar Z h b kb .byte [.int (own_bv u0)] ∧ h0.size ≤ b ∧ n0 ≤ b) := by
  refine own_body (plainFor_of_name own_pn0) fun p e s m below meth c s₁ hx hby hml hret hlk hown hnm hZ X0 e0 => ?_
  rw [own_efuc1 m a]
  have N0 := Fr.nil n0
  have K := Keep.refl h0 []
  refine own_go (U' := s₁.setTop (mkF m 1 #[.val (.ref a), .val (.int (0 : Int32)), .val (.int (1 : Int32)), .unset, .unset, .unset] [(.int (1 : Int32))])) (fun t k => XS.iloadN X0.here hx rfl (hb hby duc1_0) rfl k) ?_
  obtain ⟨T1, h1, k1, X1, e1, E1, A1, Y1, st1⟩ := own_newarr X0 hx hZ (hw _ (List.mem_of_getElem? (i := 19) rfl)) e0 (g := (mkF m 1 #[.val (.ref a), .val (.int (0 : Int32)), .val (.int (1 : Int32)), .unset, .unset, .unset] [(.int (1 : Int32))])) rfl (hb hby duc1_1) rfl (by decide) (cap := 1) (by decide) (by decide) (by decide) (by decide) (ad := "[B") (by decide) rfl (vs := [(.int (0 : Int32))]) rfl
  obtain ⟨b1, g1⟩ : ∃ z, z = h0.size := ⟨_, rfl⟩
  rw [← g1] at A1 Y1 st1
  have ne_a_b1 : a ≠ b1 := Nat.ne_of_lt (Nat.lt_of_lt_of_eq V_a.lt g1.symm)
  have g_b1 : n0 ≤ b1 := Nat.le_trans (Nat.le_trans (Nat.le_of_eq O.1.symm) O.2.1) (Nat.le_of_eq g1.symm)
  have sz_b1 : h0.size ≤ b1 := Nat.le_trans K.1 (Nat.le_of_eq g1.symm)
  have K := K.ext E1
  have O := O.ext E1
  have V_a := V_a.ext E1
  have V_b1 : own_Ar Z h1 b1 k1 .byte [(.int (0 : Int32))] := A1
  have E_b1 := Y1
  refine own_go (U' := T1.setTop (mkF m 3 #[.val (.ref a), .val (.int (0 : Int32)), .val (.int (1 : Int32)), .unset, .unset, .unset] [(.ref b1)])) st1 ?_
  refine own_go (U' := T1.setTop (mkF m 4 #[.val (.ref a), .val (.int (0 : Int32)), .val (.int (1 : Int32)), .val (.ref b1), .unset, .unset] [])) (fun t k => XS.astoreN X1.here hx rfl (hb hby duc1_3) rfl rfl (l' := #[.val (.ref a), .val (.int (0 : Int32)), .val (.int (1 : Int32)), .val (.ref b1), .unset, .unset]) rfl k) ?_
  refine own_go (U' := T1.setTop (mkF m 5 #[.val (.ref a), .val (.int (0 : Int32)), .val (.int (1 : Int32)), .val (.ref b1), .unset, .unset] [(.ref a)])) (fun t k => XS.aloadN X1.here hx rfl (hb hby duc1_4) rfl rfl k) ?_
  refine own_go (U' := T1.setTop (mkF m 6 #[.val (.ref a), .val (.int (0 : Int32)), .val (.int (1 : Int32)), .val (.ref b1), .unset, .unset] [(.int (0 : Int32)), (.ref a)])) (fun t k => XS.iloadN X1.here hx rfl (hb hby duc1_5) rfl k) ?_
  refine own_go (U' := T1.setTop (mkF m 7 #[.val (.ref a), .val (.int (0 : Int32)), .val (.int (1 : Int32)), .val (.ref b1), .unset, .unset] [(.ref b1), (.int (0 : Int32)), (.ref a)])) (fun t k => XS.aloadN X1.here hx rfl (hb hby duc1_6) rfl rfl k) ?_
  refine own_go (U' := T1.setTop (mkF m 8 #[.val (.ref a), .val (.int (0 : Int32)), .val (.int (1 : Int32)), .val (.ref b1), .unset, .unset] [(.int (0 : Int32)), (.ref b1), (.int (0 : Int32)), (.ref a)])) (fun t k => XS.iconst X1.here hx rfl (hb hby duc1_7) k) ?_
  refine own_go (U' := T1.setTop (mkF m 9 #[.val (.ref a), .val (.int (0 : Int32)), .val (.int (1 : Int32)), .val (.ref b1), .unset, .unset] [(.int (1 : Int32)), (.int (0 : Int32)), (.ref b1), (.int (0 : Int32)), (.ref a)])) (fun t k => XS.iloadN X1.here hx rfl (hb hby duc1_8) rfl k) ?_
  obtain ⟨v2, T2, h2, L2, e2, X2, hQ2, st2⟩ := own_callS X1 hx hZ (y := (⟨"java/lang/StringUTF16", "compress", "([CI[BII)I"⟩ : MethodName)) hown (hw _ (List.mem_of_getElem? (i := 68) rfl)) (hw _ (List.mem_of_getElem? (i := 69) rfl)) (hw _ (List.mem_of_getElem? (i := 66) rfl)) (hw _ (List.mem_of_getElem? (i := 70) rfl)) (by decide) (own_rmuz1 l Z a0 hw a b1 h1 n0 g_b1 u0 hu0 _ _ ne_a_b1 V_a V_b1) (W := 0) (by decide) (by decide) (g := (mkF m 9 #[.val (.ref a), .val (.int (0 : Int32)), .val (.int (1 : Int32)), .val (.ref b1), .unset, .unset] [(.int (1 : Int32)), (.int (0 : Int32)), (.ref b1), (.int (0 : Int32)), (.ref a)])) rfl (by rw [hml]; rfl) (argsL := [(.ref a), (.int (0 : Int32)), (.ref b1), (.int (0 : Int32)), (.int (1 : Int32))]) (rest := []) (lenOf own_pd0 rfl) rfl rfl (by show 2 * 0 + _ ≤ _; exact Nat.le_of_eq rfl) (hb hby duc1_9) e1 (by decide) (by decide)
  obtain ⟨rfl, Nq, Kq, V_b1⟩ := hQ2
  have K := K.trans Kq (allS (Or.inr sz_b1) all0)
  have O := O.keep Kq (allS g_b1 all0)
  have V_a := V_a.keep Kq (ninS ne_a_b1 nin0)
  have E_b1 := E_b1.keep Kq
  have N2 := Fr.app N0 Nq
  refine own_go (U' := T2.setTop (mkF m 12 #[.val (.ref a), .val (.int (0 : Int32)), .val (.int (1 : Int32)), .val (.ref b1), .unset, .unset] [(.int (1 : Int32))])) st2 ?_
  refine own_go (U' := T2.setTop (mkF m 14 #[.val (.ref a), .val (.int (0 : Int32)), .val (.int (1 : Int32)), .val (.ref b1), .val (.int (1 : Int32)), .unset] [])) (fun t k => XS.istore X2.here hx rfl (hb hby duc1_12) rfl (l' := #[.val (.ref a), .val (.int (0 : Int32)), .val (.int (1 : Int32)), .val (.ref b1), .val (.int (1 : Int32)), .unset]) rfl k) ?_
  refine own_go (U' := T2.setTop (mkF m 16 #[.val (.ref a), .val (.int (0 : Int32)), .val (.int (1 : Int32)), .val (.ref b1), .val (.int (1 : Int32)), .unset] [(.int (1 : Int32))])) (fun t k => XS.iload X2.here hx rfl (hb hby duc1_14) rfl k) ?_
  refine own_go (U' := T2.setTop (mkF m 17 #[.val (.ref a), .val (.int (0 : Int32)), .val (.int (1 : Int32)), .val (.ref b1), .val (.int (1 : Int32)), .unset] [(.int (1 : Int32)), (.int (1 : Int32))])) (fun t k => XS.iloadN X2.here hx rfl (hb hby duc1_16) rfl k) ?_
  refine own_go (U' := T2.setTop (mkF m 57 #[.val (.ref a), .val (.int (0 : Int32)), .val (.int (1 : Int32)), .val (.ref b1), .val (.int (1 : Int32)), .unset] [])) (fun t k => XS.icmpYes X2.here hx rfl (pc0 := 17) (pc' := 57) rfl (hb hby duc1_17) rfl (teq (by decide)).1 (by decide) (by decide) k) ?_
  refine own_go (U' := T2.setTop (mkF m 58 #[.val (.ref a), .val (.int (0 : Int32)), .val (.int (1 : Int32)), .val (.ref b1), .val (.int (1 : Int32)), .unset] [(.ref b1)])) (fun t k => XS.aloadN X2.here hx rfl (hb hby duc1_57) rfl rfl k) ?_
  refine own_retA X2 hx (t := (.array .byte)) hret rfl hlk rfl (hb hby duc1_58) ?_ (by decide) (by decide)
  rw [e2]
  exact ⟨_, _, rfl, N2, K, V_b1, sz_b1, g_b1⟩
theorem dcf1_0 : decode jdk_52_method_15_code 0 = .ok (.iload_n 1, 1) := by decide +kernel
theorem dcf1_1 : decode jdk_52_method_15_code 1 = .ok (.aload_n 0, 1) := by decide +kernel
theorem dcf1_2 : decode jdk_52_method_15_code 2 = .ok (.arraylength, 1) := by decide +kernel
theorem dcf1_3 : decode jdk_52_method_15_code 3 = .ok (.isub, 1) := by decide +kernel
theorem dcf1_4 : decode jdk_52_method_15_code 4 = .ok (.bipush 31, 2) := by decide +kernel
theorem dcf1_6 : decode jdk_52_method_15_code 6 = .ok (.iushr, 1) := by decide +kernel
theorem dcf1_7 : decode jdk_52_method_15_code 7 = .ok (.i2b, 1) := by decide +kernel
theorem dcf1_8 : decode jdk_52_method_15_code 8 = .ok (.ireturn, 1) := by decide +kernel
theorem own_efcf1 (m : MethodId) (b : Addr) : entryFrame m #[(.ref b), (.int (1 : Int32))] 2 = mkF m 0 #[.val (.ref b), .val (.int (1 : Int32))] [] := by first | (simp [entryFrame, mkF, argsToLocals, Value.category]; done) | rfl
set_option maxRecDepth 65536 in
set_option maxHeartbeats 40000000 in
theorem own_rmcf1 (l : Launch) (Z : State) (a0 : Array Value) (hw : ∀ d ∈ tables_1, d.before a0 Z = true) (b : Addr) (h0 : Heap) (vs : List Value) (hvs : vs.length = 1) (kb : ClassId) (V_b : own_Ar Z h0 b kb .byte vs) :
    own_C l Z (⟨"java/lang/StringUTF16", "coderFromArrayLen", "([BI)B"⟩ : MethodName) jdk_52_method_15_code 2 (some .byte) [] ({ frames := 0, cells := 0, slots := 0, locals := 0 } : Room) #[(.ref b), (.int (1 : Int32))] h0 (fun v h L => v = some (.int 0) ∧ L = [] ∧ h = h0) := by
  refine own_body (plainFor_of_name own_pn0) fun p e s m below meth c s₁ hx hby hml hret hlk hown hnm hZ X0 e0 => ?_
  rw [own_efcf1 m b]
  refine own_go (U' := s₁.setTop (mkF m 1 #[.val (.ref b), .val (.int (1 : Int32))] [(.int (1 : Int32))])) (fun t k => XS.iloadN X0.here hx rfl (hb hby dcf1_0) rfl k) ?_
  refine own_go (U' := s₁.setTop (mkF m 2 #[.val (.ref b), .val (.int (1 : Int32))] [(.ref b), (.int (1 : Int32))])) (fun t k => XS.aloadN X0.here hx rfl (hb hby dcf1_1) rfl rfl k) ?_
  refine own_go (U' := s₁.setTop (mkF m 3 #[.val (.ref b), .val (.int (1 : Int32))] [(.int (1 : Int32)), (.int (1 : Int32))])) (own_arrlen X0 hx hZ e0 V_b (n := (1 : Int32)) (by rw [hvs]; rfl) (g := (mkF m 2 #[.val (.ref b), .val (.int (1 : Int32))] [(.ref b), (.int (1 : Int32))])) rfl rfl (hb hby dcf1_2)) ?_
  refine own_go (U' := s₁.setTop (mkF m 4 #[.val (.ref b), .val (.int (1 : Int32))] [(.int (0 : Int32))])) (fun t k => XS.isub X0.here hx rfl (hb hby dcf1_3) rfl k) ?_
  refine own_go (U' := s₁.setTop (mkF m 6 #[.val (.ref b), .val (.int (1 : Int32))] [(.int (31 : Int32)), (.int (0 : Int32))])) (fun t k => XS.bipush X0.here hx rfl (hb hby dcf1_4) k) ?_
  refine own_go (U' := s₁.setTop (mkF m 7 #[.val (.ref b), .val (.int (1 : Int32))] [(.int (((0 : Int32).toUInt32 >>> ((31 : Int32) &&& 31).toUInt32).toInt32))])) (fun t k => XS.iushr X0.here hx rfl (hb hby dcf1_6) rfl k) ?_
  refine own_go (U' := s₁.setTop (mkF m 8 #[.val (.ref b), .val (.int (1 : Int32))] [(.int ((((0 : Int32).toUInt32 >>> ((31 : Int32) &&& 31).toUInt32).toInt32).toInt8.toInt32))])) (fun t k => XS.i2b X0.here hx rfl (hb hby dcf1_7) rfl k) ?_
  refine own_retN X0 hx (t := .byte) hret (by simp) hlk (hb hby dcf1_8) ?_ (by decide) (by decide)
  exact ⟨congrArg (fun z => some (Value.int z)) (by decide), rfl, e0⟩
theorem ds41_0 : decode jdk_42_method_149_code 0 = .ok (.aload_n 0, 1) := by decide +kernel
theorem ds41_1 : decode jdk_42_method_149_code 1 = .ok (.invokespecial 1, 3) := by decide +kernel
theorem ds41_4 : decode jdk_42_method_149_code 4 = .ok (.iload_n 3, 1) := by decide +kernel
theorem ds41_5 : decode jdk_42_method_149_code 5 = .ok (.ifCond .ne 22, 3) := by decide +kernel
theorem ds41_8 : decode jdk_42_method_149_code 8 = .ok (.aload_n 0, 1) := by decide +kernel
theorem ds41_9 : decode jdk_42_method_149_code 9 = .ok (.ldc 7, 2) := by decide +kernel
theorem ds41_11 : decode jdk_42_method_149_code 11 = .ok (.getfield 9, 3) := by decide +kernel
theorem ds41_14 : decode jdk_42_method_149_code 14 = .ok (.putfield 9, 3) := by decide +kernel
theorem ds41_17 : decode jdk_42_method_149_code 17 = .ok (.aload_n 0, 1) := by decide +kernel
theorem ds41_18 : decode jdk_42_method_149_code 18 = .ok (.ldc 7, 2) := by decide +kernel
theorem ds41_20 : decode jdk_42_method_149_code 20 = .ok (.getfield 15, 3) := by decide +kernel
theorem ds41_23 : decode jdk_42_method_149_code 23 = .ok (.putfield 15, 3) := by decide +kernel
theorem ds41_26 : decode jdk_42_method_149_code 26 = .ok (.return_, 1) := by decide +kernel
theorem ds41_27 : decode jdk_42_method_149_code 27 = .ok (.getstatic 38, 3) := by decide +kernel
theorem ds41_30 : decode jdk_42_method_149_code 30 = .ok (.ifCond .eq 28, 3) := by decide +kernel
theorem ds41_33 : decode jdk_42_method_149_code 33 = .ok (.aload_n 1, 1) := by decide +kernel
theorem ds41_34 : decode jdk_42_method_149_code 34 = .ok (.iload_n 2, 1) := by decide +kernel
theorem ds41_35 : decode jdk_42_method_149_code 35 = .ok (.iload_n 3, 1) := by decide +kernel
theorem ds41_36 : decode jdk_42_method_149_code 36 = .ok (.invokestatic 177, 3) := by decide +kernel
theorem ds41_39 : decode jdk_42_method_149_code 39 = .ok (.astore 5, 2) := by decide +kernel
theorem ds41_41 : decode jdk_42_method_149_code 41 = .ok (.aload_n 0, 1) := by decide +kernel
theorem ds41_42 : decode jdk_42_method_149_code 42 = .ok (.aload 5, 2) := by decide +kernel
theorem ds41_44 : decode jdk_42_method_149_code 44 = .ok (.iload_n 3, 1) := by decide +kernel
theorem ds41_45 : decode jdk_42_method_149_code 45 = .ok (.invokestatic 47, 3) := by decide +kernel
theorem ds41_48 : decode jdk_42_method_149_code 48 = .ok (.putfield 15, 3) := by decide +kernel
theorem ds41_51 : decode jdk_42_method_149_code 51 = .ok (.aload_n 0, 1) := by decide +kernel
theorem ds41_52 : decode jdk_42_method_149_code 52 = .ok (.aload 5, 2) := by decide +kernel
theorem ds41_54 : decode jdk_42_method_149_code 54 = .ok (.putfield 9, 3) := by decide +kernel
theorem ds41_57 : decode jdk_42_method_149_code 57 = .ok (.return_, 1) := by decide +kernel
theorem ds41_58 : decode jdk_42_method_149_code 58 = .ok (.aload_n 0, 1) := by decide +kernel
theorem ds41_59 : decode jdk_42_method_149_code 59 = .ok (.iconst 1, 1) := by decide +kernel
theorem ds41_60 : decode jdk_42_method_149_code 60 = .ok (.putfield 15, 3) := by decide +kernel
theorem ds41_63 : decode jdk_42_method_149_code 63 = .ok (.aload_n 0, 1) := by decide +kernel
theorem ds41_64 : decode jdk_42_method_149_code 64 = .ok (.aload_n 1, 1) := by decide +kernel
theorem ds41_65 : decode jdk_42_method_149_code 65 = .ok (.iload_n 2, 1) := by decide +kernel
theorem ds41_66 : decode jdk_42_method_149_code 66 = .ok (.iload_n 3, 1) := by decide +kernel
theorem ds41_67 : decode jdk_42_method_149_code 67 = .ok (.invokestatic 180, 3) := by decide +kernel
theorem ds41_70 : decode jdk_42_method_149_code 70 = .ok (.putfield 9, 3) := by decide +kernel
theorem ds41_73 : decode jdk_42_method_149_code 73 = .ok (.return_, 1) := by decide +kernel
theorem own_pn1 : plainName "java/lang/String" = true := by first | (simp [plainName, overriddenIn]; done) | decide +kernel
theorem own_efs41 (m : MethodId) (a b : Addr) : entryFrame m #[(.ref a), (.ref b), (.int (0 : Int32)), (.int (1 : Int32)), .null] 6 = mkF m 0 #[.val (.ref a), .val (.ref b), .val (.int (0 : Int32)), .val (.int (1 : Int32)), .val .null, .unset] [] := by first | (simp [entryFrame, mkF, argsToLocals, Value.category]; done) | rfl
set_option maxRecDepth 65536 in
set_option maxHeartbeats 40000000 in
theorem own_rms41 (l : Launch) (Z : State) (a0 : Array Value) (hw : ∀ d ∈ tables_1, d.before a0 Z = true) (a b : Addr) (h0 : Heap) (n0 : Nat) (g_a : n0 ≤ a) (O : Old Z n0 h0) (cs : Int32) (hcs : cs ≠ 0) (S_cs : Sta Z Z.heap "java/lang/String" "COMPACT_STRINGS" "Z" (.int cs)) (u0 : Int32) (hu0 : ¬ (255 : Int32) < u0) (w0 w1 : Value) (E_a : Exa Z h0 a "java/lang/String") (F_value_a : Fld Z h0 a "java/lang/String" "value" "[B" w0) (F_coder_a : Fld Z h0 a "java/lang/String" "coder" "B" w1) (kb : ClassId) (V_b : own_Ar Z h0 b kb .char [.int u0]) :
    own_C l Z (⟨"java/lang/String", "<init>", "([CIILjava/lang/Void;)V"⟩ : MethodName) jdk_42_method_149_code 6 none [] ({ frames := 2, cells := 1, slots := 1, locals := 35 } : Room) #[(.ref a), (.ref b), (.int (0 : Int32)), (.int (1 : Int32)), .null] h0 (fun v h L => v = none ∧ Fr n0 L ∧ Keep h0 h [a] ∧ ∃ c kc, Fld Z h a "java/lang/String" "value" "[B" (.ref c) ∧ Fld Z h a "java/lang/String" "coder" "B" (.int 0) ∧ own_Ar Z h c kc .byte [.int (own_bv u0)] ∧ h0.size ≤ c ∧ n0 ≤ c) := by
  refine own_body (plainFor_of_name own_pn1) fun p e s m below meth c s₁ hx hby hml hret hlk hown hnm hZ X0 e0 => ?_
  rw [own_efs41 m a b]
  have N0 := Fr.nil n0
  have K := Keep.refl h0 [a]
  have ne_a_b : a ≠ b := by
    obtain ⟨cb, Ab, -⟩ := V_b
    exact ne_arr E_a (hw _ (List.mem_of_getElem? (i := 6) rfl)) Ab
  refine own_go (U' := s₁.setTop (mkF m 1 #[.val (.ref a), .val (.ref b), .val (.int (0 : Int32)), .val (.int (1 : Int32)), .val .null, .unset] [(.ref a)])) (fun t k => XS.aloadN X0.here hx rfl (hb hby ds41_0) rfl rfl k) ?_
  obtain ⟨T1, X1, e1, st1⟩ := initO X0 hx hZ hown (hw _ (List.mem_of_getElem? (i := 15) rfl)) (hw _ (List.mem_of_getElem? (i := 16) rfl)) (hw _ (List.mem_of_getElem? (i := 17) rfl)) e0 (g := (mkF m 1 #[.val (.ref a), .val (.ref b), .val (.int (0 : Int32)), .val (.int (1 : Int32)), .val .null, .unset] [(.ref a)])) rfl (by rw [hml]; rfl) rfl (hb hby ds41_1) (by decide) (W := 0) (by show 2 * 0 + _ ≤ _; exact Nat.le_of_eq rfl) (by decide)
  refine own_go (U' := T1.setTop (mkF m 4 #[.val (.ref a), .val (.ref b), .val (.int (0 : Int32)), .val (.int (1 : Int32)), .val .null, .unset] [])) st1 ?_
  refine own_go (U' := T1.setTop (mkF m 5 #[.val (.ref a), .val (.ref b), .val (.int (0 : Int32)), .val (.int (1 : Int32)), .val .null, .unset] [(.int (1 : Int32))])) (fun t k => XS.iloadN X1.here hx rfl (hb hby ds41_4) rfl k) ?_
  refine own_go (U' := T1.setTop (mkF m 27 #[.val (.ref a), .val (.ref b), .val (.int (0 : Int32)), .val (.int (1 : Int32)), .val .null, .unset] [])) (fun t k => XS.ifYes X1.here hx rfl (pc0 := 5) (pc' := 27) rfl (hb hby ds41_5) rfl ((if0 _ _).trans (feq (by decide)).2) (by decide) (by decide) k) ?_
  obtain ⟨T2, X2, e2, st2⟩ := getS2 X1 hx hZ hown (host := "") (Or.inl (hw _ (List.mem_of_getElem? (i := 59) rfl))) Via.refl e1 (S_cs.ext O.2) (g := (mkF m 27 #[.val (.ref a), .val (.ref b), .val (.int (0 : Int32)), .val (.int (1 : Int32)), .val .null, .unset] [])) rfl (hb hby ds41_27)
  refine own_go (U' := T2.setTop (mkF m 30 #[.val (.ref a), .val (.ref b), .val (.int (0 : Int32)), .val (.int (1 : Int32)), .val .null, .unset] [(.int cs)])) st2 ?_
  refine own_go (U' := T2.setTop (mkF m 33 #[.val (.ref a), .val (.ref b), .val (.int (0 : Int32)), .val (.int (1 : Int32)), .val .null, .unset] [])) (fun t k => XS.ifNo X2.here hx rfl (hb hby ds41_30) rfl ((if0 _ _).trans (feq hcs).1) k) ?_
  refine own_go (U' := T2.setTop (mkF m 34 #[.val (.ref a), .val (.ref b), .val (.int (0 : Int32)), .val (.int (1 : Int32)), .val .null, .unset] [(.ref b)])) (fun t k => XS.aloadN X2.here hx rfl (hb hby ds41_33) rfl rfl k) ?_
  refine own_go (U' := T2.setTop (mkF m 35 #[.val (.ref a), .val (.ref b), .val (.int (0 : Int32)), .val (.int (1 : Int32)), .val .null, .unset] [(.int (0 : Int32)), (.ref b)])) (fun t k => XS.iloadN X2.here hx rfl (hb hby ds41_34) rfl k) ?_
  refine own_go (U' := T2.setTop (mkF m 36 #[.val (.ref a), .val (.ref b), .val (.int (0 : Int32)), .val (.int (1 : Int32)), .val .null, .unset] [(.int (1 : Int32)), (.int (0 : Int32)), (.ref b)])) (fun t k => XS.iloadN X2.here hx rfl (hb hby ds41_35) rfl k) ?_
  obtain ⟨v3, T3, h3, L3, e3, X3, hQ3, st3⟩ := own_callS X2 hx hZ (y := (⟨"java/lang/StringUTF16", "compress", "([CII)[B"⟩ : MethodName)) hown (hw _ (List.mem_of_getElem? (i := 64) rfl)) (hw _ (List.mem_of_getElem? (i := 65) rfl)) (hw _ (List.mem_of_getElem? (i := 66) rfl)) (hw _ (List.mem_of_getElem? (i := 67) rfl)) (by decide) (own_rmuc1 l Z a0 hw b h0 n0 O u0 hu0 _ V_b) (W := 0) (by decide) (by decide) (g := (mkF m 36 #[.val (.ref a), .val (.ref b), .val (.int (0 : Int32)), .val (.int (1 : Int32)), .val .null, .unset] [(.int (1 : Int32)), (.int (0 : Int32)), (.ref b)])) rfl (by rw [hml]; rfl) (argsL := [(.ref b), (.int (0 : Int32)), (.int (1 : Int32))]) (rest := []) (lenOf own_pd1 rfl) rfl rfl (by show 2 * 0 + _ ≤ _; exact Nat.le_of_eq rfl) (hb hby ds41_36) e2 (by decide) (by decide)
  obtain ⟨c', kc, rfl, Nq, Kq, V_c', sz_c', g_c'⟩ := hQ3
  have ne_a_c' : a ≠ c' := Nat.ne_of_lt (Nat.lt_of_lt_of_le E_a.lt sz_c')
  have sz_c' : h0.size ≤ c' := Nat.le_trans K.1 sz_c'
  have E_a := E_a.keep Kq
  have F_value_a := F_value_a.keep Kq nin0
  have F_coder_a := F_coder_a.keep Kq nin0
  have V_b := V_b.keep Kq nin0
  have K := K.trans Kq all0
  have O := O.keep Kq all0
  have N3 := Fr.app N0 Nq
  refine own_go (U' := T3.setTop (mkF m 39 #[.val (.ref a), .val (.ref b), .val (.int (0 : Int32)), .val (.int (1 : Int32)), .val .null, .unset] [(.ref c')])) st3 ?_
  refine own_go (U' := T3.setTop (mkF m 41 #[.val (.ref a), .val (.ref b), .val (.int (0 : Int32)), .val (.int (1 : Int32)), .val .null, .val (.ref c')] [])) (fun t k => XS.astore X3.here hx rfl (hb hby ds41_39) rfl rfl (l' := #[.val (.ref a), .val (.ref b), .val (.int (0 : Int32)), .val (.int (1 : Int32)), .val .null, .val (.ref c')]) rfl k) ?_
  refine own_go (U' := T3.setTop (mkF m 42 #[.val (.ref a), .val (.ref b), .val (.int (0 : Int32)), .val (.int (1 : Int32)), .val .null, .val (.ref c')] [(.ref a)])) (fun t k => XS.aloadN X3.here hx rfl (hb hby ds41_41) rfl rfl k) ?_
  refine own_go (U' := T3.setTop (mkF m 44 #[.val (.ref a), .val (.ref b), .val (.int (0 : Int32)), .val (.int (1 : Int32)), .val .null, .val (.ref c')] [(.ref c'), (.ref a)])) (fun t k => XS.aload X3.here hx rfl (hb hby ds41_42) rfl rfl k) ?_
  refine own_go (U' := T3.setTop (mkF m 45 #[.val (.ref a), .val (.ref b), .val (.int (0 : Int32)), .val (.int (1 : Int32)), .val .null, .val (.ref c')] [(.int (1 : Int32)), (.ref c'), (.ref a)])) (fun t k => XS.iloadN X3.here hx rfl (hb hby ds41_44) rfl k) ?_
  obtain ⟨v4, T4, h4, L4, e4, X4, hQ4, st4⟩ := own_callS X3 hx hZ (y := (⟨"java/lang/StringUTF16", "coderFromArrayLen", "([BI)B"⟩ : MethodName)) hown (hw _ (List.mem_of_getElem? (i := 71) rfl)) (hw _ (List.mem_of_getElem? (i := 72) rfl)) (hw _ (List.mem_of_getElem? (i := 66) rfl)) (hw _ (List.mem_of_getElem? (i := 73) rfl)) (by decide) (own_rmcf1 l Z a0 hw c' h3 _ rfl _ V_c') (W := 1) (by decide) (by decide) (g := (mkF m 45 #[.val (.ref a), .val (.ref b), .val (.int (0 : Int32)), .val (.int (1 : Int32)), .val .null, .val (.ref c')] [(.int (1 : Int32)), (.ref c'), (.ref a)])) rfl (by rw [hml]; rfl) (argsL := [(.ref c'), (.int (1 : Int32))]) (rest := [(.ref a)]) (lenOf own_pd2 rfl) rfl rfl (by show 2 * 0 + _ ≤ _; exact Nat.le_of_eq rfl) (hb hby ds41_45) e3 (by decide) (by decide)
  obtain ⟨rfl, rfl, eh4⟩ := hQ4
  have e4 := e4.trans eh4
  rw [List.append_nil] at X4
  refine own_go (U' := T4.setTop (mkF m 48 #[.val (.ref a), .val (.ref b), .val (.int (0 : Int32)), .val (.int (1 : Int32)), .val .null, .val (.ref c')] [(.int (0 : Int32)), (.ref a)])) st4 ?_
  obtain ⟨T5, h5, X5, e5, W5, st5⟩ := putFN X4 hx hZ hown (hw _ (List.mem_of_getElem? (i := 25) rfl)) Via.refl e4 F_coder_a E_a (Or.inr ⟨(hw _ (List.mem_of_getElem? (i := 21) rfl)), rfl, hnm⟩) (hw _ (List.mem_of_getElem? (i := 6) rfl)) (ty := .byte) (v' := (.int (0 : Int32).toInt8.toInt32)) (by decide) rfl (fits_nar_byte _) (g := (mkF m 48 #[.val (.ref a), .val (.ref b), .val (.int (0 : Int32)), .val (.int (1 : Int32)), .val .null, .val (.ref c')] [(.int (0 : Int32)), (.ref a)])) rfl rfl (hb hby ds41_48)
  have E_a := E_a.wr W5
  have F_value_a := F_value_a.other W5 (Or.inr (slot_ne (Or.inr (hw _ (List.mem_of_getElem? (i := 20) rfl))) (Or.inr (hw _ (List.mem_of_getElem? (i := 21) rfl))) (by decide) (t := (.array .byte)) (t' := .byte) (by decide) (by decide)))
  have V_b := V_b.other W5 (Ne.symm ne_a_b)
  have K := K.wr W5 (Or.inl (List.mem_of_getElem? (i := 0) rfl))
  have O := O.wr W5 g_a
  have V_c' := V_c'.other W5 (Ne.symm ne_a_c')
  have F_coder_a := F_coder_a.same W5
  have N5 := Fr.snoc X5 N3 g_a
  refine own_go (U' := T5.setTop (mkF m 51 #[.val (.ref a), .val (.ref b), .val (.int (0 : Int32)), .val (.int (1 : Int32)), .val .null, .val (.ref c')] [])) st5 ?_
  refine own_go (U' := T5.setTop (mkF m 52 #[.val (.ref a), .val (.ref b), .val (.int (0 : Int32)), .val (.int (1 : Int32)), .val .null, .val (.ref c')] [(.ref a)])) (fun t k => XS.aloadN X5.here hx rfl (hb hby ds41_51) rfl rfl k) ?_
  refine own_go (U' := T5.setTop (mkF m 54 #[.val (.ref a), .val (.ref b), .val (.int (0 : Int32)), .val (.int (1 : Int32)), .val .null, .val (.ref c')] [(.ref c'), (.ref a)])) (fun t k => XS.aload X5.here hx rfl (hb hby ds41_52) rfl rfl k) ?_
  obtain ⟨T6, h6, X6, e6, W6, st6⟩ := putF X5 hx hZ hown (host := "") (Or.inl (hw _ (List.mem_of_getElem? (i := 24) rfl))) Via.refl e5 F_value_a E_a (Or.inr ⟨(hw _ (List.mem_of_getElem? (i := 20) rfl)), rfl, hnm⟩) (hw _ (List.mem_of_getElem? (i := 6) rfl)) (ty := (.array .byte)) (by decide) rfl rfl (g := (mkF m 54 #[.val (.ref a), .val (.ref b), .val (.int (0 : Int32)), .val (.int (1 : Int32)), .val .null, .val (.ref c')] [(.ref c'), (.ref a)])) rfl rfl (hb hby ds41_54)
  have E_a := E_a.wr W6
  have F_coder_a := F_coder_a.other W6 (Or.inr (slot_ne (Or.inr (hw _ (List.mem_of_getElem? (i := 21) rfl))) (Or.inr (hw _ (List.mem_of_getElem? (i := 20) rfl))) (by decide) (t := .byte) (t' := (.array .byte)) (by decide) (by decide)))
  have V_b := V_b.other W6 (Ne.symm ne_a_b)
  have K := K.wr W6 (Or.inl (List.mem_of_getElem? (i := 0) rfl))
  have O := O.wr W6 g_a
  have V_c' := V_c'.other W6 (Ne.symm ne_a_c')
  have F_value_a := F_value_a.same W6
  have N6 := Fr.snoc X6 N5 g_a
  refine own_go (U' := T6.setTop (mkF m 57 #[.val (.ref a), .val (.ref b), .val (.int (0 : Int32)), .val (.int (1 : Int32)), .val .null, .val (.ref c')] [])) st6 ?_
  refine own_retV X6 hx hret hlk (hb hby ds41_57) ?_ (by decide) (by decide)
  rw [e6]
  rw [show (0 : Int32).toInt8.toInt32 = 0 from by decide] at F_coder_a
  exact ⟨rfl, N6, K, _, _, F_value_a, F_coder_a, V_c', sz_c', g_c'⟩
theorem ds11_0 : decode jdk_42_method_3_code 0 = .ok (.aload_n 0, 1) := by decide +kernel
theorem ds11_1 : decode jdk_42_method_3_code 1 = .ok (.aload_n 1, 1) := by decide +kernel
theorem ds11_2 : decode jdk_42_method_3_code 2 = .ok (.iconst 0, 1) := by decide +kernel
theorem ds11_3 : decode jdk_42_method_3_code 3 = .ok (.aload_n 1, 1) := by decide +kernel
theorem ds11_4 : decode jdk_42_method_3_code 4 = .ok (.arraylength, 1) := by decide +kernel
theorem ds11_5 : decode jdk_42_method_3_code 5 = .ok (.aconst_null, 1) := by decide +kernel
theorem ds11_6 : decode jdk_42_method_3_code 6 = .ok (.invokespecial 27, 3) := by decide +kernel
theorem ds11_9 : decode jdk_42_method_3_code 9 = .ok (.return_, 1) := by decide +kernel
theorem own_efs11 (m : MethodId) (a b : Addr) : entryFrame m #[(.ref a), (.ref b)] 2 = mkF m 0 #[.val (.ref a), .val (.ref b)] [] := by first | (simp [entryFrame, mkF, argsToLocals, Value.category]; done) | rfl
set_option maxRecDepth 65536 in
set_option maxHeartbeats 40000000 in
theorem own_rms11 (l : Launch) (Z : State) (a0 : Array Value) (hw : ∀ d ∈ tables_1, d.before a0 Z = true) (a b : Addr) (h0 : Heap) (n0 : Nat) (g_a : n0 ≤ a) (O : Old Z n0 h0) (cs : Int32) (hcs : cs ≠ 0) (S_cs : Sta Z Z.heap "java/lang/String" "COMPACT_STRINGS" "Z" (.int cs)) (u0 : Int32) (hu0 : ¬ (255 : Int32) < u0) (w0 w1 : Value) (E_a : Exa Z h0 a "java/lang/String") (F_value_a : Fld Z h0 a "java/lang/String" "value" "[B" w0) (F_coder_a : Fld Z h0 a "java/lang/String" "coder" "B" w1) (kb : ClassId) (V_b : own_Ar Z h0 b kb .char [.int u0]) :
    own_C l Z (⟨"java/lang/String", "<init>", "([C)V"⟩ : MethodName) jdk_42_method_3_code 2 none [] ({ frames := 3, cells := 1, slots := 1, locals := 52 } : Room) #[(.ref a), (.ref b)] h0 (fun v h L => v = none ∧ Fr n0 L ∧ Keep h0 h [a] ∧ ∃ c kc, Fld Z h a "java/lang/String" "value" "[B" (.ref c) ∧ Fld Z h a "java/lang/String" "coder" "B" (.int 0) ∧ own_Ar Z h c kc .byte [.int (own_bv u0)] ∧ h0.size ≤ c ∧ n0 ≤ c) := by
  refine own_body (plainFor_of_name own_pn1) fun p e s m below meth c s₁ hx hby hml hret hlk hown hnm hZ X0 e0 => ?_
  rw [own_efs11 m a b]
  have N0 := Fr.nil n0
  have K := Keep.refl h0 [a]
  have ne_a_b : a ≠ b := by
    obtain ⟨cb, Ab, -⟩ := V_b
    exact ne_arr E_a (hw _ (List.mem_of_getElem? (i := 6) rfl)) Ab
  refine own_go (U' := s₁.setTop (mkF m 1 #[.val (.ref a), .val (.ref b)] [(.ref a)])) (fun t k => XS.aloadN X0.here hx rfl (hb hby ds11_0) rfl rfl k) ?_
  refine own_go (U' := s₁.setTop (mkF m 2 #[.val (.ref a), .val (.ref b)] [(.ref b), (.ref a)])) (fun t k => XS.aloadN X0.here hx rfl (hb hby ds11_1) rfl rfl k) ?_
  refine own_go (U' := s₁.setTop (mkF m 3 #[.val (.ref a), .val (.ref b)] [(.int (0 : Int32)), (.ref b), (.ref a)])) (fun t k => XS.iconst X0.here hx rfl (hb hby ds11_2) k) ?_
  refine own_go (U' := s₁.setTop (mkF m 4 #[.val (.ref a), .val (.ref b)] [(.ref b), (.int (0 : Int32)), (.ref b), (.ref a)])) (fun t k => XS.aloadN X0.here hx rfl (hb hby ds11_3) rfl rfl k) ?_
  refine own_go (U' := s₁.setTop (mkF m 5 #[.val (.ref a), .val (.ref b)] [(.int (1 : Int32)), (.int (0 : Int32)), (.ref b), (.ref a)])) (own_arrlen X0 hx hZ e0 V_b (n := (1 : Int32)) rfl (g := (mkF m 4 #[.val (.ref a), .val (.ref b)] [(.ref b), (.int (0 : Int32)), (.ref b), (.ref a)])) rfl rfl (hb hby ds11_4)) ?_
  refine own_go (U' := s₁.setTop (mkF m 6 #[.val (.ref a), .val (.ref b)] [.null, (.int (1 : Int32)), (.int (0 : Int32)), (.ref b), (.ref a)])) (fun t k => XS.aconstNull X0.here hx rfl (hb hby ds11_5) k) ?_
  obtain ⟨v1, T1, h1, L1, e1, X1, hQ1, st1⟩ := own_callC X0 hx hZ (y := (⟨"java/lang/String", "<init>", "([CIILjava/lang/Void;)V"⟩ : MethodName)) rfl hown (hw _ (List.mem_of_getElem? (i := 11) rfl)) (hw _ (List.mem_of_getElem? (i := 12) rfl)) (hw _ (List.mem_of_getElem? (i := 7) rfl)) (hw _ (List.mem_of_getElem? (i := 14) rfl)) (by decide) (a := a) (own_rms41 l Z a0 hw a b h0 n0 g_a O cs hcs S_cs u0 hu0 _ _ E_a F_value_a F_coder_a _ V_b) (W := 0) (by decide) (by decide) (g := (mkF m 6 #[.val (.ref a), .val (.ref b)] [.null, (.int (1 : Int32)), (.int (0 : Int32)), (.ref b), (.ref a)])) rfl (by rw [hml]; rfl) (argsL := [(.ref b), (.int (0 : Int32)), (.int (1 : Int32)), .null]) (rest := []) (lenOf own_pd3 rfl) rfl rfl (by show 2 * 0 + _ ≤ _; exact Nat.le_of_eq rfl) (hb hby ds11_6) e0 (by decide) (by decide)
  obtain ⟨rfl, Nq, Kq, c', kc, Fv, Fc, V_c', sz_c', g_c'⟩ := hQ1
  have E_a := E_a.keep Kq
  have V_b := V_b.keep Kq (ninS (Ne.symm ne_a_b) nin0)
  have K := K.trans Kq (allS (Or.inl (List.mem_of_getElem? (i := 0) rfl)) all0)
  have O := O.keep Kq (allS g_a all0)
  have N1 := Fr.app N0 Nq
  refine own_go (U' := T1.setTop (mkF m 9 #[.val (.ref a), .val (.ref b)] [])) st1 ?_
  refine own_retV X1 hx hret hlk (hb hby ds11_9) ?_ (by decide) (by decide)
  rw [e1]
  exact ⟨rfl, N1, K, _, _, Fv, Fc, V_c', sz_c', g_c'⟩
theorem own_efuz2 (m : MethodId) (a b : Addr) : entryFrame m #[(.ref a), (.int (0 : Int32)), (.ref b), (.int (0 : Int32)), (.int (2 : Int32))] 7 = mkF m 0 #[.val (.ref a), .val (.int (0 : Int32)), .val (.ref b), .val (.int (0 : Int32)), .val (.int (2 : Int32)), .unset, .unset] [] := by first | (simp [entryFrame, mkF, argsToLocals, Value.category]; done) | rfl
set_option maxRecDepth 65536 in
set_option maxHeartbeats 40000000 in
theorem own_rmuz2 (l : Launch) (Z : State) (a0 : Array Value) (hw : ∀ d ∈ tables_1, d.before a0 Z = true) (a b : Addr) (h0 : Heap) (n0 : Nat) (g_b : n0 ≤ b) (u0 u1 : Int32) (hu0 : ¬ (255 : Int32) < u0) (hu1 : ¬ (255 : Int32) < u1) (ka kb : ClassId) (ne_a_b : a ≠ b) (V_a : own_Ar Z h0 a ka .char [.int u0, .int u1]) (V_b : own_Ar Z h0 b kb .byte [.int 0, .int 0]) :
    own_C l Z (⟨"java/lang/StringUTF16", "compress", "([CI[BII)I"⟩ : MethodName) jdk_52_method_21_code 7 (some .int) [] ({ frames := 0, cells := 0, slots := 0, locals := 0 } : Room) #[(.ref a), (.int (0 : Int32)), (.ref b), (.int (0 : Int32)), (.int (2 : Int32))] h0 (fun v h L => v = some (.int 2) ∧ Fr n0 L ∧ Keep h0 h [b] ∧ own_Ar Z h b kb .byte [.int (own_bv u0), .int (own_bv u1)]) := by
  refine own_body (plainFor_of_name own_pn0) fun p e s m below meth c s₁ hx hby hml hret hlk hown hnm hZ X0 e0 => ?_
  rw [own_efuz2 m a b]
  have N0 := Fr.nil n0
  have K := Keep.refl h0 [b]
  refine own_go (U' := s₁.setTop (mkF m 1 #[.val (.ref a), .val (.int (0 : Int32)), .val (.ref b), .val (.int (0 : Int32)), .val (.int (2 : Int32)), .unset, .unset] [(.int (0 : Int32))])) (fun t k => XS.iconst X0.here hx rfl (hb hby duz1_0) k) ?_
  refine own_go (U' := s₁.setTop (mkF m 3 #[.val (.ref a), .val (.int (0 : Int32)), .val (.ref b), .val (.int (0 : Int32)), .val (.int (2 : Int32)), .val (.int (0 : Int32)), .unset] [])) (fun t k => XS.istore X0.here hx rfl (hb hby duz1_1) rfl (l' := #[.val (.ref a), .val (.int (0 : Int32)), .val (.ref b), .val (.int (0 : Int32)), .val (.int (2 : Int32)), .val (.int (0 : Int32)), .unset]) rfl k) ?_
  refine own_go (U' := s₁.setTop (mkF m 5 #[.val (.ref a), .val (.int (0 : Int32)), .val (.ref b), .val (.int (0 : Int32)), .val (.int (2 : Int32)), .val (.int (0 : Int32)), .unset] [(.int (0 : Int32))])) (fun t k => XS.iload X0.here hx rfl (hb hby duz1_3) rfl k) ?_
  refine own_go (U' := s₁.setTop (mkF m 7 #[.val (.ref a), .val (.int (0 : Int32)), .val (.ref b), .val (.int (0 : Int32)), .val (.int (2 : Int32)), .val (.int (0 : Int32)), .unset] [(.int (2 : Int32)), (.int (0 : Int32))])) (fun t k => XS.iload X0.here hx rfl (hb hby duz1_5) rfl k) ?_
  refine own_go (U' := s₁.setTop (mkF m 10 #[.val (.ref a), .val (.int (0 : Int32)), .val (.ref b), .val (.int (0 : Int32)), .val (.int (2 : Int32)), .val (.int (0 : Int32)), .unset] [])) (fun t k => XS.icmpNo X0.here hx rfl (hb hby duz1_7) rfl (tlt (by decide)).2.1 k) ?_
  refine own_go (U' := s₁.setTop (mkF m 11 #[.val (.ref a), .val (.int (0 : Int32)), .val (.ref b), .val (.int (0 : Int32)), .val (.int (2 : Int32)), .val (.int (0 : Int32)), .unset] [(.ref a)])) (fun t k => XS.aloadN X0.here hx rfl (hb hby duz1_10) rfl rfl k) ?_
  refine own_go (U' := s₁.setTop (mkF m 12 #[.val (.ref a), .val (.int (0 : Int32)), .val (.ref b), .val (.int (0 : Int32)), .val (.int (2 : Int32)), .val (.int (0 : Int32)), .unset] [(.int (0 : Int32)), (.ref a)])) (fun t k => XS.iloadN X0.here hx rfl (hb hby duz1_11) rfl k) ?_
  refine own_go (U' := s₁.setTop (mkF m 13 #[.val (.ref a), .val (.int (0 : Int32)), .val (.ref b), .val (.int (0 : Int32)), .val (.int (2 : Int32)), .val (.int (0 : Int32)), .unset] [(.int u0)])) (own_caload X0 hx hZ e0 V_a (j := (0 : Int32)) (by decide) (i := 0) rfl (v := (.int u0)) rfl (g := (mkF m 12 #[.val (.ref a), .val (.int (0 : Int32)), .val (.ref b), .val (.int (0 : Int32)), .val (.int (2 : Int32)), .val (.int (0 : Int32)), .unset] [(.int (0 : Int32)), (.ref a)])) rfl rfl (hb hby duz1_12)) ?_
  refine own_go (U' := s₁.setTop (mkF m 15 #[.val (.ref a), .val (.int (0 : Int32)), .val (.ref b), .val (.int (0 : Int32)), .val (.int (2 : Int32)), .val (.int (0 : Int32)), .val (.int u0)] [])) (fun t k => XS.istore X0.here hx rfl (hb hby duz1_13) rfl (l' := #[.val (.ref a), .val (.int (0 : Int32)), .val (.ref b), .val (.int (0 : Int32)), .val (.int (2 : Int32)), .val (.int (0 : Int32)), .val (.int u0)]) rfl k) ?_
  refine own_go (U' := s₁.setTop (mkF m 17 #[.val (.ref a), .val (.int (0 : Int32)), .val (.ref b), .val (.int (0 : Int32)), .val (.int (2 : Int32)), .val (.int (0 : Int32)), .val (.int u0)] [(.int u0)])) (fun t k => XS.iload X0.here hx rfl (hb hby duz1_15) rfl k) ?_
  refine own_go (U' := s₁.setTop (mkF m 20 #[.val (.ref a), .val (.int (0 : Int32)), .val (.ref b), .val (.int (0 : Int32)), .val (.int (2 : Int32)), .val (.int (0 : Int32)), .val (.int u0)] [(.int (255 : Int32)), (.int u0)])) (fun t k => XS.sipush X0.here hx rfl (hb hby duz1_17) k) ?_
  refine own_go (U' := s₁.setTop (mkF m 26 #[.val (.ref a), .val (.int (0 : Int32)), .val (.ref b), .val (.int (0 : Int32)), .val (.int (2 : Int32)), .val (.int (0 : Int32)), .val (.int u0)] [])) (fun t k => XS.icmpYes X0.here hx rfl (pc0 := 20) (pc' := 26) rfl (hb hby duz1_20) rfl (flt hu0).2.2.2 (by decide) (by decide) k) ?_
  refine own_go (U' := s₁.setTop (mkF m 27 #[.val (.ref a), .val (.int (0 : Int32)), .val (.ref b), .val (.int (0 : Int32)), .val (.int (2 : Int32)), .val (.int (0 : Int32)), .val (.int u0)] [(.ref b)])) (fun t k => XS.aloadN X0.here hx rfl (hb hby duz1_26) rfl rfl k) ?_
  refine own_go (U' := s₁.setTop (mkF m 28 #[.val (.ref a), .val (.int (0 : Int32)), .val (.ref b), .val (.int (0 : Int32)), .val (.int (2 : Int32)), .val (.int (0 : Int32)), .val (.int u0)] [(.int (0 : Int32)), (.ref b)])) (fun t k => XS.iloadN X0.here hx rfl (hb hby duz1_27) rfl k) ?_
  refine own_go (U' := s₁.setTop (mkF m 30 #[.val (.ref a), .val (.int (0 : Int32)), .val (.ref b), .val (.int (0 : Int32)), .val (.int (2 : Int32)), .val (.int (0 : Int32)), .val (.int u0)] [(.int u0), (.int (0 : Int32)), (.ref b)])) (fun t k => XS.iload X0.here hx rfl (hb hby duz1_28) rfl k) ?_
  refine own_go (U' := s₁.setTop (mkF m 31 #[.val (.ref a), .val (.int (0 : Int32)), .val (.ref b), .val (.int (0 : Int32)), .val (.int (2 : Int32)), .val (.int (0 : Int32)), .val (.int u0)] [(.int (u0.toInt8.toInt32)), (.int (0 : Int32)), (.ref b)])) (fun t k => XS.i2b X0.here hx rfl (hb hby duz1_30) rfl k) ?_
  obtain ⟨T1, h1, X1, e1, W1, A1, st1⟩ := own_bastore X0 hx hZ e0 V_b (j := (0 : Int32)) (by decide) (i := 0) rfl (Nat.le_of_ble_eq_true rfl) (g := (mkF m 31 #[.val (.ref a), .val (.int (0 : Int32)), .val (.ref b), .val (.int (0 : Int32)), .val (.int (2 : Int32)), .val (.int (0 : Int32)), .val (.int u0)] [(.int (u0.toInt8.toInt32)), (.int (0 : Int32)), (.ref b)])) rfl rfl (hb hby duz1_31)
  have K := K.wr W1 (Or.inl (List.mem_of_getElem? (i := 0) rfl))
  have V_a := V_a.other W1 ne_a_b
  have V_b : own_Ar Z h1 b kb .byte [(.int (u0.toInt8.toInt32).toInt8.toInt32), (.int (0 : Int32))] := A1
  have N1 := Fr.snoc X1 N0 g_b
  refine own_go (U' := T1.setTop (mkF m 32 #[.val (.ref a), .val (.int (0 : Int32)), .val (.ref b), .val (.int (0 : Int32)), .val (.int (2 : Int32)), .val (.int (0 : Int32)), .val (.int u0)] [])) st1 ?_
  refine own_go (U' := T1.setTop (mkF m 35 #[.val (.ref a), .val (.int (1 : Int32)), .val (.ref b), .val (.int (0 : Int32)), .val (.int (2 : Int32)), .val (.int (0 : Int32)), .val (.int u0)] [])) (fun t k => XS.iinc X1.here hx rfl (hb hby duz1_32) rfl (l' := #[.val (.ref a), .val (.int (1 : Int32)), .val (.ref b), .val (.int (0 : Int32)), .val (.int (2 : Int32)), .val (.int (0 : Int32)), .val (.int u0)]) rfl k) ?_
  refine own_go (U' := T1.setTop (mkF m 38 #[.val (.ref a), .val (.int (1 : Int32)), .val (.ref b), .val (.int (1 : Int32)), .val (.int (2 : Int32)), .val (.int (0 : Int32)), .val (.int u0)] [])) (fun t k => XS.iinc X1.here hx rfl (hb hby duz1_35) rfl (l' := #[.val (.ref a), .val (.int (1 : Int32)), .val (.ref b), .val (.int (1 : Int32)), .val (.int (2 : Int32)), .val (.int (0 : Int32)), .val (.int u0)]) rfl k) ?_
  refine own_go (U' := T1.setTop (mkF m 41 #[.val (.ref a), .val (.int (1 : Int32)), .val (.ref b), .val (.int (1 : Int32)), .val (.int (2 : Int32)), .val (.int (1 : Int32)), .val (.int u0)] [])) (fun t k => XS.iinc X1.here hx rfl (hb hby duz1_38) rfl (l' := #[.val (.ref a), .val (.int (1 : Int32)), .val (.ref b), .val (.int (1 : Int32)), .val (.int (2 : Int32)), .val (.int (1 : Int32)), .val (.int u0)]) rfl k) ?_
  refine own_go (U' := T1.setTop (mkF m 3 #[.val (.ref a), .val (.int (1 : Int32)), .val (.ref b), .val (.int (1 : Int32)), .val (.int (2 : Int32)), .val (.int (1 : Int32)), .val (.int u0)] [])) (fun t k => XS.goto X1.here hx rfl (pc0 := 41) (pc' := 3) rfl (hb hby duz1_41) (by decide) (by decide) k) ?_
  refine own_go (U' := T1.setTop (mkF m 5 #[.val (.ref a), .val (.int (1 : Int32)), .val (.ref b), .val (.int (1 : Int32)), .val (.int (2 : Int32)), .val (.int (1 : Int32)), .val (.int u0)] [(.int (1 : Int32))])) (fun t k => XS.iload X1.here hx rfl (hb hby duz1_3) rfl k) ?_
  refine own_go (U' := T1.setTop (mkF m 7 #[.val (.ref a), .val (.int (1 : Int32)), .val (.ref b), .val (.int (1 : Int32)), .val (.int (2 : Int32)), .val (.int (1 : Int32)), .val (.int u0)] [(.int (2 : Int32)), (.int (1 : Int32))])) (fun t k => XS.iload X1.here hx rfl (hb hby duz1_5) rfl k) ?_
  refine own_go (U' := T1.setTop (mkF m 10 #[.val (.ref a), .val (.int (1 : Int32)), .val (.ref b), .val (.int (1 : Int32)), .val (.int (2 : Int32)), .val (.int (1 : Int32)), .val (.int u0)] [])) (fun t k => XS.icmpNo X1.here hx rfl (hb hby duz1_7) rfl (tlt (by decide)).2.1 k) ?_
  refine own_go (U' := T1.setTop (mkF m 11 #[.val (.ref a), .val (.int (1 : Int32)), .val (.ref b), .val (.int (1 : Int32)), .val (.int (2 : Int32)), .val (.int (1 : Int32)), .val (.int u0)] [(.ref a)])) (fun t k => XS.aloadN X1.here hx rfl (hb hby duz1_10) rfl rfl k) ?_
  refine own_go (U' := T1.setTop (mkF m 12 #[.val (.ref a), .val (.int (1 : Int32)), .val (.ref b), .val (.int (1 : Int32)), .val (.int (2 : Int32)), .val (.int (1 : Int32)), .val (.int u0)] [(.int (1 : Int32)), (.ref a)])) (fun t k => XS.iloadN X1.here hx rfl (hb hby duz1_11) rfl k) ?_
  refine own_go (U' := T1.setTop (mkF m 13 #[.val (.ref a), .val (.int (1 : Int32)), .val (.ref b), .val (.int (1 : Int32)), .val (.int (2 : Int32)), .val (.int (1 : Int32)), .val (.int u0)] [(.int u1)])) (own_caload X1 hx hZ e1 V_a (j := (1 : Int32)) (by decide) (i := 1) rfl (v := (.int u1)) rfl (g := (mkF m 12 #[.val (.ref a), .val (.int (1 : Int32)), .val (.ref b), .val (.int (1 : Int32)), .val (.int (2 : Int32)), .val (.int (1 : Int32)), .val (.int u0)] [(.int (1 : Int32)), (.ref a)])) rfl rfl (hb hby duz1_12)) ?_
  refine own_go (U' := T1.setTop (mkF m 15 #[.val (.ref a), .val (.int (1 : Int32)), .val (.ref b), .val (.int (1 : Int32)), .val (.int (2 : Int32)), .val (.int (1 : Int32)), .val (.int u1)] [])) (fun t k => XS.istore X1.here hx rfl (hb hby duz1_13) rfl (l' := #[.val (.ref a), .val (.int (1 : Int32)), .val (.ref b), .val (.int (1 : Int32)), .val (.int (2 : Int32)), .val (.int (1 : Int32)), .val (.int u1)]) rfl k) ?_
  refine own_go (U' := T1.setTop (mkF m 17 #[.val (.ref a), .val (.int (1 : Int32)), .val (.ref b), .val (.int (1 : Int32)), .val (.int (2 : Int32)), .val (.int (1 : Int32)), .val (.int u1)] [(.int u1)])) (fun t k => XS.iload X1.here hx rfl (hb hby duz1_15) rfl k) ?_
  refine own_go (U' := T1.setTop (mkF m 20 #[.val (.ref a), .val (.int (1 : Int32)), .val (.ref b), .val (.int (1 : Int32)), .val (.int (2 : Int32)), .val (.int (1 : Int32)), .val (.int u1)] [(.int (255 : Int32)), (.int u1)])) (fun t k => XS.sipush X1.here hx rfl (hb hby duz1_17) k) ?_
  refine own_go (U' := T1.setTop (mkF m 26 #[.val (.ref a), .val (.int (1 : Int32)), .val (.ref b), .val (.int (1 : Int32)), .val (.int (2 : Int32)), .val (.int (1 : Int32)), .val (.int u1)] [])) (fun t k => XS.icmpYes X1.here hx rfl (pc0 := 20) (pc' := 26) rfl (hb hby duz1_20) rfl (flt hu1).2.2.2 (by decide) (by decide) k) ?_
  refine own_go (U' := T1.setTop (mkF m 27 #[.val (.ref a), .val (.int (1 : Int32)), .val (.ref b), .val (.int (1 : Int32)), .val (.int (2 : Int32)), .val (.int (1 : Int32)), .val (.int u1)] [(.ref b)])) (fun t k => XS.aloadN X1.here hx rfl (hb hby duz1_26) rfl rfl k) ?_
  refine own_go (U' := T1.setTop (mkF m 28 #[.val (.ref a), .val (.int (1 : Int32)), .val (.ref b), .val (.int (1 : Int32)), .val (.int (2 : Int32)), .val (.int (1 : Int32)), .val (.int u1)] [(.int (1 : Int32)), (.ref b)])) (fun t k => XS.iloadN X1.here hx rfl (hb hby duz1_27) rfl k) ?_
  refine own_go (U' := T1.setTop (mkF m 30 #[.val (.ref a), .val (.int (1 : Int32)), .val (.ref b), .val (.int (1 : Int32)), .val (.int (2 : Int32)), .val (.int (1 : Int32)), .val (.int u1)] [(.int u1), (.int (1 : Int32)), (.ref b)])) (fun t k => XS.iload X1.here hx rfl (hb hby duz1_28) rfl k) ?_
  refine own_go (U' := T1.setTop (mkF m 31 #[.val (.ref a), .val (.int (1 : Int32)), .val (.ref b), .val (.int (1 : Int32)), .val (.int (2 : Int32)), .val (.int (1 : Int32)), .val (.int u1)] [(.int (u1.toInt8.toInt32)), (.int (1 : Int32)), (.ref b)])) (fun t k => XS.i2b X1.here hx rfl (hb hby duz1_30) rfl k) ?_
  obtain ⟨T2, h2, X2, e2, W2, A2, st2⟩ := own_bastore X1 hx hZ e1 V_b (j := (1 : Int32)) (by decide) (i := 1) rfl (Nat.le_of_ble_eq_true rfl) (g := (mkF m 31 #[.val (.ref a), .val (.int (1 : Int32)), .val (.ref b), .val (.int (1 : Int32)), .val (.int (2 : Int32)), .val (.int (1 : Int32)), .val (.int u1)] [(.int (u1.toInt8.toInt32)), (.int (1 : Int32)), (.ref b)])) rfl rfl (hb hby duz1_31)
  have K := K.wr W2 (Or.inl (List.mem_of_getElem? (i := 0) rfl))
  have V_a := V_a.other W2 ne_a_b
  have V_b : own_Ar Z h2 b kb .byte [(.int (u0.toInt8.toInt32).toInt8.toInt32), (.int (u1.toInt8.toInt32).toInt8.toInt32)] := A2
  have N2 := Fr.snoc X2 N1 g_b
  refine own_go (U' := T2.setTop (mkF m 32 #[.val (.ref a), .val (.int (1 : Int32)), .val (.ref b), .val (.int (1 : Int32)), .val (.int (2 : Int32)), .val (.int (1 : Int32)), .val (.int u1)] [])) st2 ?_
  refine own_go (U' := T2.setTop (mkF m 35 #[.val (.ref a), .val (.int (2 : Int32)), .val (.ref b), .val (.int (1 : Int32)), .val (.int (2 : Int32)), .val (.int (1 : Int32)), .val (.int u1)] [])) (fun t k => XS.iinc X2.here hx rfl (hb hby duz1_32) rfl (l' := #[.val (.ref a), .val (.int (2 : Int32)), .val (.ref b), .val (.int (1 : Int32)), .val (.int (2 : Int32)), .val (.int (1 : Int32)), .val (.int u1)]) rfl k) ?_
  refine own_go (U' := T2.setTop (mkF m 38 #[.val (.ref a), .val (.int (2 : Int32)), .val (.ref b), .val (.int (2 : Int32)), .val (.int (2 : Int32)), .val (.int (1 : Int32)), .val (.int u1)] [])) (fun t k => XS.iinc X2.here hx rfl (hb hby duz1_35) rfl (l' := #[.val (.ref a), .val (.int (2 : Int32)), .val (.ref b), .val (.int (2 : Int32)), .val (.int (2 : Int32)), .val (.int (1 : Int32)), .val (.int u1)]) rfl k) ?_
  refine own_go (U' := T2.setTop (mkF m 41 #[.val (.ref a), .val (.int (2 : Int32)), .val (.ref b), .val (.int (2 : Int32)), .val (.int (2 : Int32)), .val (.int (2 : Int32)), .val (.int u1)] [])) (fun t k => XS.iinc X2.here hx rfl (hb hby duz1_38) rfl (l' := #[.val (.ref a), .val (.int (2 : Int32)), .val (.ref b), .val (.int (2 : Int32)), .val (.int (2 : Int32)), .val (.int (2 : Int32)), .val (.int u1)]) rfl k) ?_
  refine own_go (U' := T2.setTop (mkF m 3 #[.val (.ref a), .val (.int (2 : Int32)), .val (.ref b), .val (.int (2 : Int32)), .val (.int (2 : Int32)), .val (.int (2 : Int32)), .val (.int u1)] [])) (fun t k => XS.goto X2.here hx rfl (pc0 := 41) (pc' := 3) rfl (hb hby duz1_41) (by decide) (by decide) k) ?_
  refine own_go (U' := T2.setTop (mkF m 5 #[.val (.ref a), .val (.int (2 : Int32)), .val (.ref b), .val (.int (2 : Int32)), .val (.int (2 : Int32)), .val (.int (2 : Int32)), .val (.int u1)] [(.int (2 : Int32))])) (fun t k => XS.iload X2.here hx rfl (hb hby duz1_3) rfl k) ?_
  refine own_go (U' := T2.setTop (mkF m 7 #[.val (.ref a), .val (.int (2 : Int32)), .val (.ref b), .val (.int (2 : Int32)), .val (.int (2 : Int32)), .val (.int (2 : Int32)), .val (.int u1)] [(.int (2 : Int32)), (.int (2 : Int32))])) (fun t k => XS.iload X2.here hx rfl (hb hby duz1_5) rfl k) ?_
  refine own_go (U' := T2.setTop (mkF m 44 #[.val (.ref a), .val (.int (2 : Int32)), .val (.ref b), .val (.int (2 : Int32)), .val (.int (2 : Int32)), .val (.int (2 : Int32)), .val (.int u1)] [])) (fun t k => XS.icmpYes X2.here hx rfl (pc0 := 7) (pc' := 44) rfl (hb hby duz1_7) rfl (flt (by decide)).2.1 (by decide) (by decide) k) ?_
  refine own_go (U' := T2.setTop (mkF m 46 #[.val (.ref a), .val (.int (2 : Int32)), .val (.ref b), .val (.int (2 : Int32)), .val (.int (2 : Int32)), .val (.int (2 : Int32)), .val (.int u1)] [(.int (2 : Int32))])) (fun t k => XS.iload X2.here hx rfl (hb hby duz1_44) rfl k) ?_
  refine own_retI X2 hx hret hlk (hb hby duz1_46) ?_ (by decide) (by decide)
  rw [e2]
  exact ⟨rfl, N2, K, V_b⟩
theorem own_efuc2 (m : MethodId) (a : Addr) : entryFrame m #[(.ref a), (.int (0 : Int32)), (.int (2 : Int32))] 6 = mkF m 0 #[.val (.ref a), .val (.int (0 : Int32)), .val (.int (2 : Int32)), .unset, .unset, .unset] [] := by first | (simp [entryFrame, mkF, argsToLocals, Value.category]; done) | rfl
set_option maxRecDepth 65536 in
set_option maxHeartbeats 40000000 in
theorem own_rmuc2 (l : Launch) (Z : State) (a0 : Array Value) (hw : ∀ d ∈ tables_1, d.before a0 Z = true) (a : Addr) (h0 : Heap) (n0 : Nat) (O : Old Z n0 h0) (u0 u1 : Int32) (hu0 : ¬ (255 : Int32) < u0) (hu1 : ¬ (255 : Int32) < u1) (ka : ClassId) (V_a : own_Ar Z h0 a ka .char [.int u0, .int u1]) :
    own_C l Z (⟨"java/lang/StringUTF16", "compress", "([CII)[B"⟩ : MethodName) jdk_52_method_16_code 6 (some (.array .byte)) [] ({ frames := 1, cells := 1, slots := 2, locals := 18 } : Room) #[(.ref a), (.int (0 : Int32)), (.int (2 : Int32))] h0 (fun v h L => ∃ b kb, v = some (.ref b) ∧ Fr n0 L ∧ Keep h0 h [] ∧ own_Ar Z h b kb .byte [.int (own_bv u0), .int (own_bv u1)] ∧ h0.size ≤ b ∧ n0 ≤ b) := by
  refine own_body (plainFor_of_name own_pn0) fun p e s m below meth c s₁ hx hby hml hret hlk hown hnm hZ X0 e0 => ?_
  rw [own_efuc2 m a]
  have N0 := Fr.nil n0
  have K := Keep.refl h0 []
  refine own_go (U' := s₁.setTop (mkF m 1 #[.val (.ref a), .val (.int (0 : Int32)), .val (.int (2 : Int32)), .unset, .unset, .unset] [(.int (2 : Int32))])) (fun t k => XS.iloadN X0.here hx rfl (hb hby duc1_0) rfl k) ?_
  obtain ⟨T1, h1, k1, X1, e1, E1, A1, Y1, st1⟩ := own_newarr X0 hx hZ (hw _ (List.mem_of_getElem? (i := 19) rfl)) e0 (g := (mkF m 1 #[.val (.ref a), .val (.int (0 : Int32)), .val (.int (2 : Int32)), .unset, .unset, .unset] [(.int (2 : Int32))])) rfl (hb hby duc1_1) rfl (by decide) (cap := 2) (by decide) (by decide) (by decide) (by decide) (ad := "[B") (by decide) rfl (vs := [(.int (0 : Int32)), (.int (0 : Int32))]) rfl
  obtain ⟨b1, g1⟩ : ∃ z, z = h0.size := ⟨_, rfl⟩
  rw [← g1] at A1 Y1 st1
  have ne_a_b1 : a ≠ b1 := Nat.ne_of_lt (Nat.lt_of_lt_of_eq V_a.lt g1.symm)
  have g_b1 : n0 ≤ b1 := Nat.le_trans (Nat.le_trans (Nat.le_of_eq O.1.symm) O.2.1) (Nat.le_of_eq g1.symm)
  have sz_b1 : h0.size ≤ b1 := Nat.le_trans K.1 (Nat.le_of_eq g1.symm)
  have K := K.ext E1
  have O := O.ext E1
  have V_a := V_a.ext E1
  have V_b1 : own_Ar Z h1 b1 k1 .byte [(.int (0 : Int32)), (.int (0 : Int32))] := A1
  have E_b1 := Y1
  refine own_go (U' := T1.setTop (mkF m 3 #[.val (.ref a), .val (.int (0 : Int32)), .val (.int (2 : Int32)), .unset, .unset, .unset] [(.ref b1)])) st1 ?_
  refine own_go (U' := T1.setTop (mkF m 4 #[.val (.ref a), .val (.int (0 : Int32)), .val (.int (2 : Int32)), .val (.ref b1), .unset, .unset] [])) (fun t k => XS.astoreN X1.here hx rfl (hb hby duc1_3) rfl rfl (l' := #[.val (.ref a), .val (.int (0 : Int32)), .val (.int (2 : Int32)), .val (.ref b1), .unset, .unset]) rfl k) ?_
  refine own_go (U' := T1.setTop (mkF m 5 #[.val (.ref a), .val (.int (0 : Int32)), .val (.int (2 : Int32)), .val (.ref b1), .unset, .unset] [(.ref a)])) (fun t k => XS.aloadN X1.here hx rfl (hb hby duc1_4) rfl rfl k) ?_
  refine own_go (U' := T1.setTop (mkF m 6 #[.val (.ref a), .val (.int (0 : Int32)), .val (.int (2 : Int32)), .val (.ref b1), .unset, .unset] [(.int (0 : Int32)), (.ref a)])) (fun t k => XS.iloadN X1.here hx rfl (hb hby duc1_5) rfl k) ?_
  refine own_go (U' := T1.setTop (mkF m 7 #[.val (.ref a), .val (.int (0 : Int32)), .val (.int (2 : Int32)), .val (.ref b1), .unset, .unset] [(.ref b1), (.int (0 : Int32)), (.ref a)])) (fun t k => XS.aloadN X1.here hx rfl (hb hby duc1_6) rfl rfl k) ?_
  refine own_go (U' := T1.setTop (mkF m 8 #[.val (.ref a), .val (.int (0 : Int32)), .val (.int (2 : Int32)), .val (.ref b1), .unset, .unset] [(.int (0 : Int32)), (.ref b1), (.int (0 : Int32)), (.ref a)])) (fun t k => XS.iconst X1.here hx rfl (hb hby duc1_7) k) ?_
  refine own_go (U' := T1.setTop (mkF m 9 #[.val (.ref a), .val (.int (0 : Int32)), .val (.int (2 : Int32)), .val (.ref b1), .unset, .unset] [(.int (2 : Int32)), (.int (0 : Int32)), (.ref b1), (.int (0 : Int32)), (.ref a)])) (fun t k => XS.iloadN X1.here hx rfl (hb hby duc1_8) rfl k) ?_
  obtain ⟨v2, T2, h2, L2, e2, X2, hQ2, st2⟩ := own_callS X1 hx hZ (y := (⟨"java/lang/StringUTF16", "compress", "([CI[BII)I"⟩ : MethodName)) hown (hw _ (List.mem_of_getElem? (i := 68) rfl)) (hw _ (List.mem_of_getElem? (i := 69) rfl)) (hw _ (List.mem_of_getElem? (i := 66) rfl)) (hw _ (List.mem_of_getElem? (i := 70) rfl)) (by decide) (own_rmuz2 l Z a0 hw a b1 h1 n0 g_b1 u0 u1 hu0 hu1 _ _ ne_a_b1 V_a V_b1) (W := 0) (by decide) (by decide) (g := (mkF m 9 #[.val (.ref a), .val (.int (0 : Int32)), .val (.int (2 : Int32)), .val (.ref b1), .unset, .unset] [(.int (2 : Int32)), (.int (0 : Int32)), (.ref b1), (.int (0 : Int32)), (.ref a)])) rfl (by rw [hml]; rfl) (argsL := [(.ref a), (.int (0 : Int32)), (.ref b1), (.int (0 : Int32)), (.int (2 : Int32))]) (rest := []) (lenOf own_pd0 rfl) rfl rfl (by show 2 * 0 + _ ≤ _; exact Nat.le_of_eq rfl) (hb hby duc1_9) e1 (by decide) (by decide)
  obtain ⟨rfl, Nq, Kq, V_b1⟩ := hQ2
  have K := K.trans Kq (allS (Or.inr sz_b1) all0)
  have O := O.keep Kq (allS g_b1 all0)
  have V_a := V_a.keep Kq (ninS ne_a_b1 nin0)
  have E_b1 := E_b1.keep Kq
  have N2 := Fr.app N0 Nq
  refine own_go (U' := T2.setTop (mkF m 12 #[.val (.ref a), .val (.int (0 : Int32)), .val (.int (2 : Int32)), .val (.ref b1), .unset, .unset] [(.int (2 : Int32))])) st2 ?_
  refine own_go (U' := T2.setTop (mkF m 14 #[.val (.ref a), .val (.int (0 : Int32)), .val (.int (2 : Int32)), .val (.ref b1), .val (.int (2 : Int32)), .unset] [])) (fun t k => XS.istore X2.here hx rfl (hb hby duc1_12) rfl (l' := #[.val (.ref a), .val (.int (0 : Int32)), .val (.int (2 : Int32)), .val (.ref b1), .val (.int (2 : Int32)), .unset]) rfl k) ?_
  refine own_go (U' := T2.setTop (mkF m 16 #[.val (.ref a), .val (.int (0 : Int32)), .val (.int (2 : Int32)), .val (.ref b1), .val (.int (2 : Int32)), .unset] [(.int (2 : Int32))])) (fun t k => XS.iload X2.here hx rfl (hb hby duc1_14) rfl k) ?_
  refine own_go (U' := T2.setTop (mkF m 17 #[.val (.ref a), .val (.int (0 : Int32)), .val (.int (2 : Int32)), .val (.ref b1), .val (.int (2 : Int32)), .unset] [(.int (2 : Int32)), (.int (2 : Int32))])) (fun t k => XS.iloadN X2.here hx rfl (hb hby duc1_16) rfl k) ?_
  refine own_go (U' := T2.setTop (mkF m 57 #[.val (.ref a), .val (.int (0 : Int32)), .val (.int (2 : Int32)), .val (.ref b1), .val (.int (2 : Int32)), .unset] [])) (fun t k => XS.icmpYes X2.here hx rfl (pc0 := 17) (pc' := 57) rfl (hb hby duc1_17) rfl (teq (by decide)).1 (by decide) (by decide) k) ?_
  refine own_go (U' := T2.setTop (mkF m 58 #[.val (.ref a), .val (.int (0 : Int32)), .val (.int (2 : Int32)), .val (.ref b1), .val (.int (2 : Int32)), .unset] [(.ref b1)])) (fun t k => XS.aloadN X2.here hx rfl (hb hby duc1_57) rfl rfl k) ?_
  refine own_retA X2 hx (t := (.array .byte)) hret rfl hlk rfl (hb hby duc1_58) ?_ (by decide) (by decide)
  rw [e2]
  exact ⟨_, _, rfl, N2, K, V_b1, sz_b1, g_b1⟩
theorem own_efcf2 (m : MethodId) (b : Addr) : entryFrame m #[(.ref b), (.int (2 : Int32))] 2 = mkF m 0 #[.val (.ref b), .val (.int (2 : Int32))] [] := by first | (simp [entryFrame, mkF, argsToLocals, Value.category]; done) | rfl
set_option maxRecDepth 65536 in
set_option maxHeartbeats 40000000 in
theorem own_rmcf2 (l : Launch) (Z : State) (a0 : Array Value) (hw : ∀ d ∈ tables_1, d.before a0 Z = true) (b : Addr) (h0 : Heap) (vs : List Value) (hvs : vs.length = 2) (kb : ClassId) (V_b : own_Ar Z h0 b kb .byte vs) :
    own_C l Z (⟨"java/lang/StringUTF16", "coderFromArrayLen", "([BI)B"⟩ : MethodName) jdk_52_method_15_code 2 (some .byte) [] ({ frames := 0, cells := 0, slots := 0, locals := 0 } : Room) #[(.ref b), (.int (2 : Int32))] h0 (fun v h L => v = some (.int 0) ∧ L = [] ∧ h = h0) := by
  refine own_body (plainFor_of_name own_pn0) fun p e s m below meth c s₁ hx hby hml hret hlk hown hnm hZ X0 e0 => ?_
  rw [own_efcf2 m b]
  refine own_go (U' := s₁.setTop (mkF m 1 #[.val (.ref b), .val (.int (2 : Int32))] [(.int (2 : Int32))])) (fun t k => XS.iloadN X0.here hx rfl (hb hby dcf1_0) rfl k) ?_
  refine own_go (U' := s₁.setTop (mkF m 2 #[.val (.ref b), .val (.int (2 : Int32))] [(.ref b), (.int (2 : Int32))])) (fun t k => XS.aloadN X0.here hx rfl (hb hby dcf1_1) rfl rfl k) ?_
  refine own_go (U' := s₁.setTop (mkF m 3 #[.val (.ref b), .val (.int (2 : Int32))] [(.int (2 : Int32)), (.int (2 : Int32))])) (own_arrlen X0 hx hZ e0 V_b (n := (2 : Int32)) (by rw [hvs]; rfl) (g := (mkF m 2 #[.val (.ref b), .val (.int (2 : Int32))] [(.ref b), (.int (2 : Int32))])) rfl rfl (hb hby dcf1_2)) ?_
  refine own_go (U' := s₁.setTop (mkF m 4 #[.val (.ref b), .val (.int (2 : Int32))] [(.int (0 : Int32))])) (fun t k => XS.isub X0.here hx rfl (hb hby dcf1_3) rfl k) ?_
  refine own_go (U' := s₁.setTop (mkF m 6 #[.val (.ref b), .val (.int (2 : Int32))] [(.int (31 : Int32)), (.int (0 : Int32))])) (fun t k => XS.bipush X0.here hx rfl (hb hby dcf1_4) k) ?_
  refine own_go (U' := s₁.setTop (mkF m 7 #[.val (.ref b), .val (.int (2 : Int32))] [(.int (((0 : Int32).toUInt32 >>> ((31 : Int32) &&& 31).toUInt32).toInt32))])) (fun t k => XS.iushr X0.here hx rfl (hb hby dcf1_6) rfl k) ?_
  refine own_go (U' := s₁.setTop (mkF m 8 #[.val (.ref b), .val (.int (2 : Int32))] [(.int ((((0 : Int32).toUInt32 >>> ((31 : Int32) &&& 31).toUInt32).toInt32).toInt8.toInt32))])) (fun t k => XS.i2b X0.here hx rfl (hb hby dcf1_7) rfl k) ?_
  refine own_retN X0 hx (t := .byte) hret (by simp) hlk (hb hby dcf1_8) ?_ (by decide) (by decide)
  exact ⟨congrArg (fun z => some (Value.int z)) (by decide), rfl, e0⟩
theorem own_efs42 (m : MethodId) (a b : Addr) : entryFrame m #[(.ref a), (.ref b), (.int (0 : Int32)), (.int (2 : Int32)), .null] 6 = mkF m 0 #[.val (.ref a), .val (.ref b), .val (.int (0 : Int32)), .val (.int (2 : Int32)), .val .null, .unset] [] := by first | (simp [entryFrame, mkF, argsToLocals, Value.category]; done) | rfl
set_option maxRecDepth 65536 in
set_option maxHeartbeats 40000000 in
theorem own_rms42 (l : Launch) (Z : State) (a0 : Array Value) (hw : ∀ d ∈ tables_1, d.before a0 Z = true) (a b : Addr) (h0 : Heap) (n0 : Nat) (g_a : n0 ≤ a) (O : Old Z n0 h0) (cs : Int32) (hcs : cs ≠ 0) (S_cs : Sta Z Z.heap "java/lang/String" "COMPACT_STRINGS" "Z" (.int cs)) (u0 u1 : Int32) (hu0 : ¬ (255 : Int32) < u0) (hu1 : ¬ (255 : Int32) < u1) (w0 w1 : Value) (E_a : Exa Z h0 a "java/lang/String") (F_value_a : Fld Z h0 a "java/lang/String" "value" "[B" w0) (F_coder_a : Fld Z h0 a "java/lang/String" "coder" "B" w1) (kb : ClassId) (V_b : own_Ar Z h0 b kb .char [.int u0, .int u1]) :
    own_C l Z (⟨"java/lang/String", "<init>", "([CIILjava/lang/Void;)V"⟩ : MethodName) jdk_42_method_149_code 6 none [] ({ frames := 2, cells := 1, slots := 2, locals := 35 } : Room) #[(.ref a), (.ref b), (.int (0 : Int32)), (.int (2 : Int32)), .null] h0 (fun v h L => v = none ∧ Fr n0 L ∧ Keep h0 h [a] ∧ ∃ c kc, Fld Z h a "java/lang/String" "value" "[B" (.ref c) ∧ Fld Z h a "java/lang/String" "coder" "B" (.int 0) ∧ own_Ar Z h c kc .byte [.int (own_bv u0), .int (own_bv u1)] ∧ h0.size ≤ c ∧ n0 ≤ c) := by
  refine own_body (plainFor_of_name own_pn1) fun p e s m below meth c s₁ hx hby hml hret hlk hown hnm hZ X0 e0 => ?_
  rw [own_efs42 m a b]
  have N0 := Fr.nil n0
  have K := Keep.refl h0 [a]
  have ne_a_b : a ≠ b := by
    obtain ⟨cb, Ab, -⟩ := V_b
    exact ne_arr E_a (hw _ (List.mem_of_getElem? (i := 6) rfl)) Ab
  refine own_go (U' := s₁.setTop (mkF m 1 #[.val (.ref a), .val (.ref b), .val (.int (0 : Int32)), .val (.int (2 : Int32)), .val .null, .unset] [(.ref a)])) (fun t k => XS.aloadN X0.here hx rfl (hb hby ds41_0) rfl rfl k) ?_
  obtain ⟨T1, X1, e1, st1⟩ := initO X0 hx hZ hown (hw _ (List.mem_of_getElem? (i := 15) rfl)) (hw _ (List.mem_of_getElem? (i := 16) rfl)) (hw _ (List.mem_of_getElem? (i := 17) rfl)) e0 (g := (mkF m 1 #[.val (.ref a), .val (.ref b), .val (.int (0 : Int32)), .val (.int (2 : Int32)), .val .null, .unset] [(.ref a)])) rfl (by rw [hml]; rfl) rfl (hb hby ds41_1) (by decide) (W := 0) (by show 2 * 0 + _ ≤ _; exact Nat.le_of_eq rfl) (by decide)
  refine own_go (U' := T1.setTop (mkF m 4 #[.val (.ref a), .val (.ref b), .val (.int (0 : Int32)), .val (.int (2 : Int32)), .val .null, .unset] [])) st1 ?_
  refine own_go (U' := T1.setTop (mkF m 5 #[.val (.ref a), .val (.ref b), .val (.int (0 : Int32)), .val (.int (2 : Int32)), .val .null, .unset] [(.int (2 : Int32))])) (fun t k => XS.iloadN X1.here hx rfl (hb hby ds41_4) rfl k) ?_
  refine own_go (U' := T1.setTop (mkF m 27 #[.val (.ref a), .val (.ref b), .val (.int (0 : Int32)), .val (.int (2 : Int32)), .val .null, .unset] [])) (fun t k => XS.ifYes X1.here hx rfl (pc0 := 5) (pc' := 27) rfl (hb hby ds41_5) rfl ((if0 _ _).trans (feq (by decide)).2) (by decide) (by decide) k) ?_
  obtain ⟨T2, X2, e2, st2⟩ := getS2 X1 hx hZ hown (host := "") (Or.inl (hw _ (List.mem_of_getElem? (i := 59) rfl))) Via.refl e1 (S_cs.ext O.2) (g := (mkF m 27 #[.val (.ref a), .val (.ref b), .val (.int (0 : Int32)), .val (.int (2 : Int32)), .val .null, .unset] [])) rfl (hb hby ds41_27)
  refine own_go (U' := T2.setTop (mkF m 30 #[.val (.ref a), .val (.ref b), .val (.int (0 : Int32)), .val (.int (2 : Int32)), .val .null, .unset] [(.int cs)])) st2 ?_
  refine own_go (U' := T2.setTop (mkF m 33 #[.val (.ref a), .val (.ref b), .val (.int (0 : Int32)), .val (.int (2 : Int32)), .val .null, .unset] [])) (fun t k => XS.ifNo X2.here hx rfl (hb hby ds41_30) rfl ((if0 _ _).trans (feq hcs).1) k) ?_
  refine own_go (U' := T2.setTop (mkF m 34 #[.val (.ref a), .val (.ref b), .val (.int (0 : Int32)), .val (.int (2 : Int32)), .val .null, .unset] [(.ref b)])) (fun t k => XS.aloadN X2.here hx rfl (hb hby ds41_33) rfl rfl k) ?_
  refine own_go (U' := T2.setTop (mkF m 35 #[.val (.ref a), .val (.ref b), .val (.int (0 : Int32)), .val (.int (2 : Int32)), .val .null, .unset] [(.int (0 : Int32)), (.ref b)])) (fun t k => XS.iloadN X2.here hx rfl (hb hby ds41_34) rfl k) ?_
  refine own_go (U' := T2.setTop (mkF m 36 #[.val (.ref a), .val (.ref b), .val (.int (0 : Int32)), .val (.int (2 : Int32)), .val .null, .unset] [(.int (2 : Int32)), (.int (0 : Int32)), (.ref b)])) (fun t k => XS.iloadN X2.here hx rfl (hb hby ds41_35) rfl k) ?_
  obtain ⟨v3, T3, h3, L3, e3, X3, hQ3, st3⟩ := own_callS X2 hx hZ (y := (⟨"java/lang/StringUTF16", "compress", "([CII)[B"⟩ : MethodName)) hown (hw _ (List.mem_of_getElem? (i := 64) rfl)) (hw _ (List.mem_of_getElem? (i := 65) rfl)) (hw _ (List.mem_of_getElem? (i := 66) rfl)) (hw _ (List.mem_of_getElem? (i := 67) rfl)) (by decide) (own_rmuc2 l Z a0 hw b h0 n0 O u0 u1 hu0 hu1 _ V_b) (W := 0) (by decide) (by decide) (g := (mkF m 36 #[.val (.ref a), .val (.ref b), .val (.int (0 : Int32)), .val (.int (2 : Int32)), .val .null, .unset] [(.int (2 : Int32)), (.int (0 : Int32)), (.ref b)])) rfl (by rw [hml]; rfl) (argsL := [(.ref b), (.int (0 : Int32)), (.int (2 : Int32))]) (rest := []) (lenOf own_pd1 rfl) rfl rfl (by show 2 * 0 + _ ≤ _; exact Nat.le_of_eq rfl) (hb hby ds41_36) e2 (by decide) (by decide)
  obtain ⟨c', kc, rfl, Nq, Kq, V_c', sz_c', g_c'⟩ := hQ3
  have ne_a_c' : a ≠ c' := Nat.ne_of_lt (Nat.lt_of_lt_of_le E_a.lt sz_c')
  have sz_c' : h0.size ≤ c' := Nat.le_trans K.1 sz_c'
  have E_a := E_a.keep Kq
  have F_value_a := F_value_a.keep Kq nin0
  have F_coder_a := F_coder_a.keep Kq nin0
  have V_b := V_b.keep Kq nin0
  have K := K.trans Kq all0
  have O := O.keep Kq all0
  have N3 := Fr.app N0 Nq
  refine own_go (U' := T3.setTop (mkF m 39 #[.val (.ref a), .val (.ref b), .val (.int (0 : Int32)), .val (.int (2 : Int32)), .val .null, .unset] [(.ref c')])) st3 ?_
  refine own_go (U' := T3.setTop (mkF m 41 #[.val (.ref a), .val (.ref b), .val (.int (0 : Int32)), .val (.int (2 : Int32)), .val .null, .val (.ref c')] [])) (fun t k => XS.astore X3.here hx rfl (hb hby ds41_39) rfl rfl (l' := #[.val (.ref a), .val (.ref b), .val (.int (0 : Int32)), .val (.int (2 : Int32)), .val .null, .val (.ref c')]) rfl k) ?_
  refine own_go (U' := T3.setTop (mkF m 42 #[.val (.ref a), .val (.ref b), .val (.int (0 : Int32)), .val (.int (2 : Int32)), .val .null, .val (.ref c')] [(.ref a)])) (fun t k => XS.aloadN X3.here hx rfl (hb hby ds41_41) rfl rfl k) ?_
  refine own_go (U' := T3.setTop (mkF m 44 #[.val (.ref a), .val (.ref b), .val (.int (0 : Int32)), .val (.int (2 : Int32)), .val .null, .val (.ref c')] [(.ref c'), (.ref a)])) (fun t k => XS.aload X3.here hx rfl (hb hby ds41_42) rfl rfl k) ?_
  refine own_go (U' := T3.setTop (mkF m 45 #[.val (.ref a), .val (.ref b), .val (.int (0 : Int32)), .val (.int (2 : Int32)), .val .null, .val (.ref c')] [(.int (2 : Int32)), (.ref c'), (.ref a)])) (fun t k => XS.iloadN X3.here hx rfl (hb hby ds41_44) rfl k) ?_
  obtain ⟨v4, T4, h4, L4, e4, X4, hQ4, st4⟩ := own_callS X3 hx hZ (y := (⟨"java/lang/StringUTF16", "coderFromArrayLen", "([BI)B"⟩ : MethodName)) hown (hw _ (List.mem_of_getElem? (i := 71) rfl)) (hw _ (List.mem_of_getElem? (i := 72) rfl)) (hw _ (List.mem_of_getElem? (i := 66) rfl)) (hw _ (List.mem_of_getElem? (i := 73) rfl)) (by decide) (own_rmcf2 l Z a0 hw c' h3 _ rfl _ V_c') (W := 1) (by decide) (by decide) (g := (mkF m 45 #[.val (.ref a), .val (.ref b), .val (.int (0 : Int32)), .val (.int (2 : Int32)), .val .null, .val (.ref c')] [(.int (2 : Int32)), (.ref c'), (.ref a)])) rfl (by rw [hml]; rfl) (argsL := [(.ref c'), (.int (2 : Int32))]) (rest := [(.ref a)]) (lenOf own_pd2 rfl) rfl rfl (by show 2 * 0 + _ ≤ _; exact Nat.le_of_eq rfl) (hb hby ds41_45) e3 (by decide) (by decide)
  obtain ⟨rfl, rfl, eh4⟩ := hQ4
  have e4 := e4.trans eh4
  rw [List.append_nil] at X4
  refine own_go (U' := T4.setTop (mkF m 48 #[.val (.ref a), .val (.ref b), .val (.int (0 : Int32)), .val (.int (2 : Int32)), .val .null, .val (.ref c')] [(.int (0 : Int32)), (.ref a)])) st4 ?_
  obtain ⟨T5, h5, X5, e5, W5, st5⟩ := putFN X4 hx hZ hown (hw _ (List.mem_of_getElem? (i := 25) rfl)) Via.refl e4 F_coder_a E_a (Or.inr ⟨(hw _ (List.mem_of_getElem? (i := 21) rfl)), rfl, hnm⟩) (hw _ (List.mem_of_getElem? (i := 6) rfl)) (ty := .byte) (v' := (.int (0 : Int32).toInt8.toInt32)) (by decide) rfl (fits_nar_byte _) (g := (mkF m 48 #[.val (.ref a), .val (.ref b), .val (.int (0 : Int32)), .val (.int (2 : Int32)), .val .null, .val (.ref c')] [(.int (0 : Int32)), (.ref a)])) rfl rfl (hb hby ds41_48)
  have E_a := E_a.wr W5
  have F_value_a := F_value_a.other W5 (Or.inr (slot_ne (Or.inr (hw _ (List.mem_of_getElem? (i := 20) rfl))) (Or.inr (hw _ (List.mem_of_getElem? (i := 21) rfl))) (by decide) (t := (.array .byte)) (t' := .byte) (by decide) (by decide)))
  have V_b := V_b.other W5 (Ne.symm ne_a_b)
  have K := K.wr W5 (Or.inl (List.mem_of_getElem? (i := 0) rfl))
  have O := O.wr W5 g_a
  have V_c' := V_c'.other W5 (Ne.symm ne_a_c')
  have F_coder_a := F_coder_a.same W5
  have N5 := Fr.snoc X5 N3 g_a
  refine own_go (U' := T5.setTop (mkF m 51 #[.val (.ref a), .val (.ref b), .val (.int (0 : Int32)), .val (.int (2 : Int32)), .val .null, .val (.ref c')] [])) st5 ?_
  refine own_go (U' := T5.setTop (mkF m 52 #[.val (.ref a), .val (.ref b), .val (.int (0 : Int32)), .val (.int (2 : Int32)), .val .null, .val (.ref c')] [(.ref a)])) (fun t k => XS.aloadN X5.here hx rfl (hb hby ds41_51) rfl rfl k) ?_
  refine own_go (U' := T5.setTop (mkF m 54 #[.val (.ref a), .val (.ref b), .val (.int (0 : Int32)), .val (.int (2 : Int32)), .val .null, .val (.ref c')] [(.ref c'), (.ref a)])) (fun t k => XS.aload X5.here hx rfl (hb hby ds41_52) rfl rfl k) ?_
  obtain ⟨T6, h6, X6, e6, W6, st6⟩ := putF X5 hx hZ hown (host := "") (Or.inl (hw _ (List.mem_of_getElem? (i := 24) rfl))) Via.refl e5 F_value_a E_a (Or.inr ⟨(hw _ (List.mem_of_getElem? (i := 20) rfl)), rfl, hnm⟩) (hw _ (List.mem_of_getElem? (i := 6) rfl)) (ty := (.array .byte)) (by decide) rfl rfl (g := (mkF m 54 #[.val (.ref a), .val (.ref b), .val (.int (0 : Int32)), .val (.int (2 : Int32)), .val .null, .val (.ref c')] [(.ref c'), (.ref a)])) rfl rfl (hb hby ds41_54)
  have E_a := E_a.wr W6
  have F_coder_a := F_coder_a.other W6 (Or.inr (slot_ne (Or.inr (hw _ (List.mem_of_getElem? (i := 21) rfl))) (Or.inr (hw _ (List.mem_of_getElem? (i := 20) rfl))) (by decide) (t := .byte) (t' := (.array .byte)) (by decide) (by decide)))
  have V_b := V_b.other W6 (Ne.symm ne_a_b)
  have K := K.wr W6 (Or.inl (List.mem_of_getElem? (i := 0) rfl))
  have O := O.wr W6 g_a
  have V_c' := V_c'.other W6 (Ne.symm ne_a_c')
  have F_value_a := F_value_a.same W6
  have N6 := Fr.snoc X6 N5 g_a
  refine own_go (U' := T6.setTop (mkF m 57 #[.val (.ref a), .val (.ref b), .val (.int (0 : Int32)), .val (.int (2 : Int32)), .val .null, .val (.ref c')] [])) st6 ?_
  refine own_retV X6 hx hret hlk (hb hby ds41_57) ?_ (by decide) (by decide)
  rw [e6]
  rw [show (0 : Int32).toInt8.toInt32 = 0 from by decide] at F_coder_a
  exact ⟨rfl, N6, K, _, _, F_value_a, F_coder_a, V_c', sz_c', g_c'⟩
theorem own_efs12 (m : MethodId) (a b : Addr) : entryFrame m #[(.ref a), (.ref b)] 2 = mkF m 0 #[.val (.ref a), .val (.ref b)] [] := by first | (simp [entryFrame, mkF, argsToLocals, Value.category]; done) | rfl
set_option maxRecDepth 65536 in
set_option maxHeartbeats 40000000 in
theorem own_rms12 (l : Launch) (Z : State) (a0 : Array Value) (hw : ∀ d ∈ tables_1, d.before a0 Z = true) (a b : Addr) (h0 : Heap) (n0 : Nat) (g_a : n0 ≤ a) (O : Old Z n0 h0) (cs : Int32) (hcs : cs ≠ 0) (S_cs : Sta Z Z.heap "java/lang/String" "COMPACT_STRINGS" "Z" (.int cs)) (u0 u1 : Int32) (hu0 : ¬ (255 : Int32) < u0) (hu1 : ¬ (255 : Int32) < u1) (w0 w1 : Value) (E_a : Exa Z h0 a "java/lang/String") (F_value_a : Fld Z h0 a "java/lang/String" "value" "[B" w0) (F_coder_a : Fld Z h0 a "java/lang/String" "coder" "B" w1) (kb : ClassId) (V_b : own_Ar Z h0 b kb .char [.int u0, .int u1]) :
    own_C l Z (⟨"java/lang/String", "<init>", "([C)V"⟩ : MethodName) jdk_42_method_3_code 2 none [] ({ frames := 3, cells := 1, slots := 2, locals := 52 } : Room) #[(.ref a), (.ref b)] h0 (fun v h L => v = none ∧ Fr n0 L ∧ Keep h0 h [a] ∧ ∃ c kc, Fld Z h a "java/lang/String" "value" "[B" (.ref c) ∧ Fld Z h a "java/lang/String" "coder" "B" (.int 0) ∧ own_Ar Z h c kc .byte [.int (own_bv u0), .int (own_bv u1)] ∧ h0.size ≤ c ∧ n0 ≤ c) := by
  refine own_body (plainFor_of_name own_pn1) fun p e s m below meth c s₁ hx hby hml hret hlk hown hnm hZ X0 e0 => ?_
  rw [own_efs12 m a b]
  have N0 := Fr.nil n0
  have K := Keep.refl h0 [a]
  have ne_a_b : a ≠ b := by
    obtain ⟨cb, Ab, -⟩ := V_b
    exact ne_arr E_a (hw _ (List.mem_of_getElem? (i := 6) rfl)) Ab
  refine own_go (U' := s₁.setTop (mkF m 1 #[.val (.ref a), .val (.ref b)] [(.ref a)])) (fun t k => XS.aloadN X0.here hx rfl (hb hby ds11_0) rfl rfl k) ?_
  refine own_go (U' := s₁.setTop (mkF m 2 #[.val (.ref a), .val (.ref b)] [(.ref b), (.ref a)])) (fun t k => XS.aloadN X0.here hx rfl (hb hby ds11_1) rfl rfl k) ?_
  refine own_go (U' := s₁.setTop (mkF m 3 #[.val (.ref a), .val (.ref b)] [(.int (0 : Int32)), (.ref b), (.ref a)])) (fun t k => XS.iconst X0.here hx rfl (hb hby ds11_2) k) ?_
  refine own_go (U' := s₁.setTop (mkF m 4 #[.val (.ref a), .val (.ref b)] [(.ref b), (.int (0 : Int32)), (.ref b), (.ref a)])) (fun t k => XS.aloadN X0.here hx rfl (hb hby ds11_3) rfl rfl k) ?_
  refine own_go (U' := s₁.setTop (mkF m 5 #[.val (.ref a), .val (.ref b)] [(.int (2 : Int32)), (.int (0 : Int32)), (.ref b), (.ref a)])) (own_arrlen X0 hx hZ e0 V_b (n := (2 : Int32)) rfl (g := (mkF m 4 #[.val (.ref a), .val (.ref b)] [(.ref b), (.int (0 : Int32)), (.ref b), (.ref a)])) rfl rfl (hb hby ds11_4)) ?_
  refine own_go (U' := s₁.setTop (mkF m 6 #[.val (.ref a), .val (.ref b)] [.null, (.int (2 : Int32)), (.int (0 : Int32)), (.ref b), (.ref a)])) (fun t k => XS.aconstNull X0.here hx rfl (hb hby ds11_5) k) ?_
  obtain ⟨v1, T1, h1, L1, e1, X1, hQ1, st1⟩ := own_callC X0 hx hZ (y := (⟨"java/lang/String", "<init>", "([CIILjava/lang/Void;)V"⟩ : MethodName)) rfl hown (hw _ (List.mem_of_getElem? (i := 11) rfl)) (hw _ (List.mem_of_getElem? (i := 12) rfl)) (hw _ (List.mem_of_getElem? (i := 7) rfl)) (hw _ (List.mem_of_getElem? (i := 14) rfl)) (by decide) (a := a) (own_rms42 l Z a0 hw a b h0 n0 g_a O cs hcs S_cs u0 u1 hu0 hu1 _ _ E_a F_value_a F_coder_a _ V_b) (W := 0) (by decide) (by decide) (g := (mkF m 6 #[.val (.ref a), .val (.ref b)] [.null, (.int (2 : Int32)), (.int (0 : Int32)), (.ref b), (.ref a)])) rfl (by rw [hml]; rfl) (argsL := [(.ref b), (.int (0 : Int32)), (.int (2 : Int32)), .null]) (rest := []) (lenOf own_pd3 rfl) rfl rfl (by show 2 * 0 + _ ≤ _; exact Nat.le_of_eq rfl) (hb hby ds11_6) e0 (by decide) (by decide)
  obtain ⟨rfl, Nq, Kq, c', kc, Fv, Fc, V_c', sz_c', g_c'⟩ := hQ1
  have E_a := E_a.keep Kq
  have V_b := V_b.keep Kq (ninS (Ne.symm ne_a_b) nin0)
  have K := K.trans Kq (allS (Or.inl (List.mem_of_getElem? (i := 0) rfl)) all0)
  have O := O.keep Kq (allS g_a all0)
  have N1 := Fr.app N0 Nq
  refine own_go (U' := T1.setTop (mkF m 9 #[.val (.ref a), .val (.ref b)] [])) st1 ?_
  refine own_retV X1 hx hret hlk (hb hby ds11_9) ?_ (by decide) (by decide)
  rw [e1]
  exact ⟨rfl, N1, K, _, _, Fv, Fc, V_c', sz_c', g_c'⟩
theorem own_efuz3 (m : MethodId) (a b : Addr) : entryFrame m #[(.ref a), (.int (0 : Int32)), (.ref b), (.int (0 : Int32)), (.int (3 : Int32))] 7 = mkF m 0 #[.val (.ref a), .val (.int (0 : Int32)), .val (.ref b), .val (.int (0 : Int32)), .val (.int (3 : Int32)), .unset, .unset] [] := by first | (simp [entryFrame, mkF, argsToLocals, Value.category]; done) | rfl
set_option maxRecDepth 65536 in
set_option maxHeartbeats 40000000 in
theorem own_rmuz3 (l : Launch) (Z : State) (a0 : Array Value) (hw : ∀ d ∈ tables_1, d.before a0 Z = true) (a b : Addr) (h0 : Heap) (n0 : Nat) (g_b : n0 ≤ b) (u0 u1 u2 : Int32) (hu0 : ¬ (255 : Int32) < u0) (hu1 : ¬ (255 : Int32) < u1) (hu2 : ¬ (255 : Int32) < u2) (ka kb : ClassId) (ne_a_b : a ≠ b) (V_a : own_Ar Z h0 a ka .char [.int u0, .int u1, .int u2]) (V_b : own_Ar Z h0 b kb .byte [.int 0, .int 0, .int 0]) :
    own_C l Z (⟨"java/lang/StringUTF16", "compress", "([CI[BII)I"⟩ : MethodName) jdk_52_method_21_code 7 (some .int) [] ({ frames := 0, cells := 0, slots := 0, locals := 0 } : Room) #[(.ref a), (.int (0 : Int32)), (.ref b), (.int (0 : Int32)), (.int (3 : Int32))] h0 (fun v h L => v = some (.int 3) ∧ Fr n0 L ∧ Keep h0 h [b] ∧ own_Ar Z h b kb .byte [.int (own_bv u0), .int (own_bv u1), .int (own_bv u2)]) := by
  refine own_body (plainFor_of_name own_pn0) fun p e s m below meth c s₁ hx hby hml hret hlk hown hnm hZ X0 e0 => ?_
  rw [own_efuz3 m a b]
  have N0 := Fr.nil n0
  have K := Keep.refl h0 [b]
  refine own_go (U' := s₁.setTop (mkF m 1 #[.val (.ref a), .val (.int (0 : Int32)), .val (.ref b), .val (.int (0 : Int32)), .val (.int (3 : Int32)), .unset, .unset] [(.int (0 : Int32))])) (fun t k => XS.iconst X0.here hx rfl (hb hby duz1_0) k) ?_
  refine own_go (U' := s₁.setTop (mkF m 3 #[.val (.ref a), .val (.int (0 : Int32)), .val (.ref b), .val (.int (0 : Int32)), .val (.int (3 : Int32)), .val (.int (0 : Int32)), .unset] [])) (fun t k => XS.istore X0.here hx rfl (hb hby duz1_1) rfl (l' := #[.val (.ref a), .val (.int (0 : Int32)), .val (.ref b), .val (.int (0 : Int32)), .val (.int (3 : Int32)), .val (.int (0 : Int32)), .unset]) rfl k) ?_
  refine own_go (U' := s₁.setTop (mkF m 5 #[.val (.ref a), .val (.int (0 : Int32)), .val (.ref b), .val (.int (0 : Int32)), .val (.int (3 : Int32)), .val (.int (0 : Int32)), .unset] [(.int (0 : Int32))])) (fun t k => XS.iload X0.here hx rfl (hb hby duz1_3) rfl k) ?_
  refine own_go (U' := s₁.setTop (mkF m 7 #[.val (.ref a), .val (.int (0 : Int32)), .val (.ref b), .val (.int (0 : Int32)), .val (.int (3 : Int32)), .val (.int (0 : Int32)), .unset] [(.int (3 : Int32)), (.int (0 : Int32))])) (fun t k => XS.iload X0.here hx rfl (hb hby duz1_5) rfl k) ?_
  refine own_go (U' := s₁.setTop (mkF m 10 #[.val (.ref a), .val (.int (0 : Int32)), .val (.ref b), .val (.int (0 : Int32)), .val (.int (3 : Int32)), .val (.int (0 : Int32)), .unset] [])) (fun t k => XS.icmpNo X0.here hx rfl (hb hby duz1_7) rfl (tlt (by decide)).2.1 k) ?_
  refine own_go (U' := s₁.setTop (mkF m 11 #[.val (.ref a), .val (.int (0 : Int32)), .val (.ref b), .val (.int (0 : Int32)), .val (.int (3 : Int32)), .val (.int (0 : Int32)), .unset] [(.ref a)])) (fun t k => XS.aloadN X0.here hx rfl (hb hby duz1_10) rfl rfl k) ?_
  refine own_go (U' := s₁.setTop (mkF m 12 #[.val (.ref a), .val (.int (0 : Int32)), .val (.ref b), .val (.int (0 : Int32)), .val (.int (3 : Int32)), .val (.int (0 : Int32)), .unset] [(.int (0 : Int32)), (.ref a)])) (fun t k => XS.iloadN X0.here hx rfl (hb hby duz1_11) rfl k) ?_
  refine own_go (U' := s₁.setTop (mkF m 13 #[.val (.ref a), .val (.int (0 : Int32)), .val (.ref b), .val (.int (0 : Int32)), .val (.int (3 : Int32)), .val (.int (0 : Int32)), .unset] [(.int u0)])) (own_caload X0 hx hZ e0 V_a (j := (0 : Int32)) (by decide) (i := 0) rfl (v := (.int u0)) rfl (g := (mkF m 12 #[.val (.ref a), .val (.int (0 : Int32)), .val (.ref b), .val (.int (0 : Int32)), .val (.int (3 : Int32)), .val (.int (0 : Int32)), .unset] [(.int (0 : Int32)), (.ref a)])) rfl rfl (hb hby duz1_12)) ?_
  refine own_go (U' := s₁.setTop (mkF m 15 #[.val (.ref a), .val (.int (0 : Int32)), .val (.ref b), .val (.int (0 : Int32)), .val (.int (3 : Int32)), .val (.int (0 : Int32)), .val (.int u0)] [])) (fun t k => XS.istore X0.here hx rfl (hb hby duz1_13) rfl (l' := #[.val (.ref a), .val (.int (0 : Int32)), .val (.ref b), .val (.int (0 : Int32)), .val (.int (3 : Int32)), .val (.int (0 : Int32)), .val (.int u0)]) rfl k) ?_
  refine own_go (U' := s₁.setTop (mkF m 17 #[.val (.ref a), .val (.int (0 : Int32)), .val (.ref b), .val (.int (0 : Int32)), .val (.int (3 : Int32)), .val (.int (0 : Int32)), .val (.int u0)] [(.int u0)])) (fun t k => XS.iload X0.here hx rfl (hb hby duz1_15) rfl k) ?_
  refine own_go (U' := s₁.setTop (mkF m 20 #[.val (.ref a), .val (.int (0 : Int32)), .val (.ref b), .val (.int (0 : Int32)), .val (.int (3 : Int32)), .val (.int (0 : Int32)), .val (.int u0)] [(.int (255 : Int32)), (.int u0)])) (fun t k => XS.sipush X0.here hx rfl (hb hby duz1_17) k) ?_
  refine own_go (U' := s₁.setTop (mkF m 26 #[.val (.ref a), .val (.int (0 : Int32)), .val (.ref b), .val (.int (0 : Int32)), .val (.int (3 : Int32)), .val (.int (0 : Int32)), .val (.int u0)] [])) (fun t k => XS.icmpYes X0.here hx rfl (pc0 := 20) (pc' := 26) rfl (hb hby duz1_20) rfl (flt hu0).2.2.2 (by decide) (by decide) k) ?_
  refine own_go (U' := s₁.setTop (mkF m 27 #[.val (.ref a), .val (.int (0 : Int32)), .val (.ref b), .val (.int (0 : Int32)), .val (.int (3 : Int32)), .val (.int (0 : Int32)), .val (.int u0)] [(.ref b)])) (fun t k => XS.aloadN X0.here hx rfl (hb hby duz1_26) rfl rfl k) ?_
  refine own_go (U' := s₁.setTop (mkF m 28 #[.val (.ref a), .val (.int (0 : Int32)), .val (.ref b), .val (.int (0 : Int32)), .val (.int (3 : Int32)), .val (.int (0 : Int32)), .val (.int u0)] [(.int (0 : Int32)), (.ref b)])) (fun t k => XS.iloadN X0.here hx rfl (hb hby duz1_27) rfl k) ?_
  refine own_go (U' := s₁.setTop (mkF m 30 #[.val (.ref a), .val (.int (0 : Int32)), .val (.ref b), .val (.int (0 : Int32)), .val (.int (3 : Int32)), .val (.int (0 : Int32)), .val (.int u0)] [(.int u0), (.int (0 : Int32)), (.ref b)])) (fun t k => XS.iload X0.here hx rfl (hb hby duz1_28) rfl k) ?_
  refine own_go (U' := s₁.setTop (mkF m 31 #[.val (.ref a), .val (.int (0 : Int32)), .val (.ref b), .val (.int (0 : Int32)), .val (.int (3 : Int32)), .val (.int (0 : Int32)), .val (.int u0)] [(.int (u0.toInt8.toInt32)), (.int (0 : Int32)), (.ref b)])) (fun t k => XS.i2b X0.here hx rfl (hb hby duz1_30) rfl k) ?_
  obtain ⟨T1, h1, X1, e1, W1, A1, st1⟩ := own_bastore X0 hx hZ e0 V_b (j := (0 : Int32)) (by decide) (i := 0) rfl (Nat.le_of_ble_eq_true rfl) (g := (mkF m 31 #[.val (.ref a), .val (.int (0 : Int32)), .val (.ref b), .val (.int (0 : Int32)), .val (.int (3 : Int32)), .val (.int (0 : Int32)), .val (.int u0)] [(.int (u0.toInt8.toInt32)), (.int (0 : Int32)), (.ref b)])) rfl rfl (hb hby duz1_31)
  have K := K.wr W1 (Or.inl (List.mem_of_getElem? (i := 0) rfl))
  have V_a := V_a.other W1 ne_a_b
  have V_b : own_Ar Z h1 b kb .byte [(.int (u0.toInt8.toInt32).toInt8.toInt32), (.int (0 : Int32)), (.int (0 : Int32))] := A1
  have N1 := Fr.snoc X1 N0 g_b
  refine own_go (U' := T1.setTop (mkF m 32 #[.val (.ref a), .val (.int (0 : Int32)), .val (.ref b), .val (.int (0 : Int32)), .val (.int (3 : Int32)), .val (.int (0 : Int32)), .val (.int u0)] [])) st1 ?_
  refine own_go (U' := T1.setTop (mkF m 35 #[.val (.ref a), .val (.int (1 : Int32)), .val (.ref b), .val (.int (0 : Int32)), .val (.int (3 : Int32)), .val (.int (0 : Int32)), .val (.int u0)] [])) (fun t k => XS.iinc X1.here hx rfl (hb hby duz1_32) rfl (l' := #[.val (.ref a), .val (.int (1 : Int32)), .val (.ref b), .val (.int (0 : Int32)), .val (.int (3 : Int32)), .val (.int (0 : Int32)), .val (.int u0)]) rfl k) ?_
  refine own_go (U' := T1.setTop (mkF m 38 #[.val (.ref a), .val (.int (1 : Int32)), .val (.ref b), .val (.int (1 : Int32)), .val (.int (3 : Int32)), .val (.int (0 : Int32)), .val (.int u0)] [])) (fun t k => XS.iinc X1.here hx rfl (hb hby duz1_35) rfl (l' := #[.val (.ref a), .val (.int (1 : Int32)), .val (.ref b), .val (.int (1 : Int32)), .val (.int (3 : Int32)), .val (.int (0 : Int32)), .val (.int u0)]) rfl k) ?_
  refine own_go (U' := T1.setTop (mkF m 41 #[.val (.ref a), .val (.int (1 : Int32)), .val (.ref b), .val (.int (1 : Int32)), .val (.int (3 : Int32)), .val (.int (1 : Int32)), .val (.int u0)] [])) (fun t k => XS.iinc X1.here hx rfl (hb hby duz1_38) rfl (l' := #[.val (.ref a), .val (.int (1 : Int32)), .val (.ref b), .val (.int (1 : Int32)), .val (.int (3 : Int32)), .val (.int (1 : Int32)), .val (.int u0)]) rfl k) ?_
  refine own_go (U' := T1.setTop (mkF m 3 #[.val (.ref a), .val (.int (1 : Int32)), .val (.ref b), .val (.int (1 : Int32)), .val (.int (3 : Int32)), .val (.int (1 : Int32)), .val (.int u0)] [])) (fun t k => XS.goto X1.here hx rfl (pc0 := 41) (pc' := 3) rfl (hb hby duz1_41) (by decide) (by decide) k) ?_
  refine own_go (U' := T1.setTop (mkF m 5 #[.val (.ref a), .val (.int (1 : Int32)), .val (.ref b), .val (.int (1 : Int32)), .val (.int (3 : Int32)), .val (.int (1 : Int32)), .val (.int u0)] [(.int (1 : Int32))])) (fun t k => XS.iload X1.here hx rfl (hb hby duz1_3) rfl k) ?_
  refine own_go (U' := T1.setTop (mkF m 7 #[.val (.ref a), .val (.int (1 : Int32)), .val (.ref b), .val (.int (1 : Int32)), .val (.int (3 : Int32)), .val (.int (1 : Int32)), .val (.int u0)] [(.int (3 : Int32)), (.int (1 : Int32))])) (fun t k => XS.iload X1.here hx rfl (hb hby duz1_5) rfl k) ?_
  refine own_go (U' := T1.setTop (mkF m 10 #[.val (.ref a), .val (.int (1 : Int32)), .val (.ref b), .val (.int (1 : Int32)), .val (.int (3 : Int32)), .val (.int (1 : Int32)), .val (.int u0)] [])) (fun t k => XS.icmpNo X1.here hx rfl (hb hby duz1_7) rfl (tlt (by decide)).2.1 k) ?_
  refine own_go (U' := T1.setTop (mkF m 11 #[.val (.ref a), .val (.int (1 : Int32)), .val (.ref b), .val (.int (1 : Int32)), .val (.int (3 : Int32)), .val (.int (1 : Int32)), .val (.int u0)] [(.ref a)])) (fun t k => XS.aloadN X1.here hx rfl (hb hby duz1_10) rfl rfl k) ?_
  refine own_go (U' := T1.setTop (mkF m 12 #[.val (.ref a), .val (.int (1 : Int32)), .val (.ref b), .val (.int (1 : Int32)), .val (.int (3 : Int32)), .val (.int (1 : Int32)), .val (.int u0)] [(.int (1 : Int32)), (.ref a)])) (fun t k => XS.iloadN X1.here hx rfl (hb hby duz1_11) rfl k) ?_
  refine own_go (U' := T1.setTop (mkF m 13 #[.val (.ref a), .val (.int (1 : Int32)), .val (.ref b), .val (.int (1 : Int32)), .val (.int (3 : Int32)), .val (.int (1 : Int32)), .val (.int u0)] [(.int u1)])) (own_caload X1 hx hZ e1 V_a (j := (1 : Int32)) (by decide) (i := 1) rfl (v := (.int u1)) rfl (g := (mkF m 12 #[.val (.ref a), .val (.int (1 : Int32)), .val (.ref b), .val (.int (1 : Int32)), .val (.int (3 : Int32)), .val (.int (1 : Int32)), .val (.int u0)] [(.int (1 : Int32)), (.ref a)])) rfl rfl (hb hby duz1_12)) ?_
  refine own_go (U' := T1.setTop (mkF m 15 #[.val (.ref a), .val (.int (1 : Int32)), .val (.ref b), .val (.int (1 : Int32)), .val (.int (3 : Int32)), .val (.int (1 : Int32)), .val (.int u1)] [])) (fun t k => XS.istore X1.here hx rfl (hb hby duz1_13) rfl (l' := #[.val (.ref a), .val (.int (1 : Int32)), .val (.ref b), .val (.int (1 : Int32)), .val (.int (3 : Int32)), .val (.int (1 : Int32)), .val (.int u1)]) rfl k) ?_
  refine own_go (U' := T1.setTop (mkF m 17 #[.val (.ref a), .val (.int (1 : Int32)), .val (.ref b), .val (.int (1 : Int32)), .val (.int (3 : Int32)), .val (.int (1 : Int32)), .val (.int u1)] [(.int u1)])) (fun t k => XS.iload X1.here hx rfl (hb hby duz1_15) rfl k) ?_
  refine own_go (U' := T1.setTop (mkF m 20 #[.val (.ref a), .val (.int (1 : Int32)), .val (.ref b), .val (.int (1 : Int32)), .val (.int (3 : Int32)), .val (.int (1 : Int32)), .val (.int u1)] [(.int (255 : Int32)), (.int u1)])) (fun t k => XS.sipush X1.here hx rfl (hb hby duz1_17) k) ?_
  refine own_go (U' := T1.setTop (mkF m 26 #[.val (.ref a), .val (.int (1 : Int32)), .val (.ref b), .val (.int (1 : Int32)), .val (.int (3 : Int32)), .val (.int (1 : Int32)), .val (.int u1)] [])) (fun t k => XS.icmpYes X1.here hx rfl (pc0 := 20) (pc' := 26) rfl (hb hby duz1_20) rfl (flt hu1).2.2.2 (by decide) (by decide) k) ?_
  refine own_go (U' := T1.setTop (mkF m 27 #[.val (.ref a), .val (.int (1 : Int32)), .val (.ref b), .val (.int (1 : Int32)), .val (.int (3 : Int32)), .val (.int (1 : Int32)), .val (.int u1)] [(.ref b)])) (fun t k => XS.aloadN X1.here hx rfl (hb hby duz1_26) rfl rfl k) ?_
  refine own_go (U' := T1.setTop (mkF m 28 #[.val (.ref a), .val (.int (1 : Int32)), .val (.ref b), .val (.int (1 : Int32)), .val (.int (3 : Int32)), .val (.int (1 : Int32)), .val (.int u1)] [(.int (1 : Int32)), (.ref b)])) (fun t k => XS.iloadN X1.here hx rfl (hb hby duz1_27) rfl k) ?_
  refine own_go (U' := T1.setTop (mkF m 30 #[.val (.ref a), .val (.int (1 : Int32)), .val (.ref b), .val (.int (1 : Int32)), .val (.int (3 : Int32)), .val (.int (1 : Int32)), .val (.int u1)] [(.int u1), (.int (1 : Int32)), (.ref b)])) (fun t k => XS.iload X1.here hx rfl (hb hby duz1_28) rfl k) ?_
  refine own_go (U' := T1.setTop (mkF m 31 #[.val (.ref a), .val (.int (1 : Int32)), .val (.ref b), .val (.int (1 : Int32)), .val (.int (3 : Int32)), .val (.int (1 : Int32)), .val (.int u1)] [(.int (u1.toInt8.toInt32)), (.int (1 : Int32)), (.ref b)])) (fun t k => XS.i2b X1.here hx rfl (hb hby duz1_30) rfl k) ?_
  obtain ⟨T2, h2, X2, e2, W2, A2, st2⟩ := own_bastore X1 hx hZ e1 V_b (j := (1 : Int32)) (by decide) (i := 1) rfl (Nat.le_of_ble_eq_true rfl) (g := (mkF m 31 #[.val (.ref a), .val (.int (1 : Int32)), .val (.ref b), .val (.int (1 : Int32)), .val (.int (3 : Int32)), .val (.int (1 : Int32)), .val (.int u1)] [(.int (u1.toInt8.toInt32)), (.int (1 : Int32)), (.ref b)])) rfl rfl (hb hby duz1_31)
  have K := K.wr W2 (Or.inl (List.mem_of_getElem? (i := 0) rfl))
  have V_a := V_a.other W2 ne_a_b
  have V_b : own_Ar Z h2 b kb .byte [(.int (u0.toInt8.toInt32).toInt8.toInt32), (.int (u1.toInt8.toInt32).toInt8.toInt32), (.int (0 : Int32))] := A2
  have N2 := Fr.snoc X2 N1 g_b
  refine own_go (U' := T2.setTop (mkF m 32 #[.val (.ref a), .val (.int (1 : Int32)), .val (.ref b), .val (.int (1 : Int32)), .val (.int (3 : Int32)), .val (.int (1 : Int32)), .val (.int u1)] [])) st2 ?_
  refine own_go (U' := T2.setTop (mkF m 35 #[.val (.ref a), .val (.int (2 : Int32)), .val (.ref b), .val (.int (1 : Int32)), .val (.int (3 : Int32)), .val (.int (1 : Int32)), .val (.int u1)] [])) (fun t k => XS.iinc X2.here hx rfl (hb hby duz1_32) rfl (l' := #[.val (.ref a), .val (.int (2 : Int32)), .val (.ref b), .val (.int (1 : Int32)), .val (.int (3 : Int32)), .val (.int (1 : Int32)), .val (.int u1)]) rfl k) ?_
  refine own_go (U' := T2.setTop (mkF m 38 #[.val (.ref a), .val (.int (2 : Int32)), .val (.ref b), .val (.int (2 : Int32)), .val (.int (3 : Int32)), .val (.int (1 : Int32)), .val (.int u1)] [])) (fun t k => XS.iinc X2.here hx rfl (hb hby duz1_35) rfl (l' := #[.val (.ref a), .val (.int (2 : Int32)), .val (.ref b), .val (.int (2 : Int32)), .val (.int (3 : Int32)), .val (.int (1 : Int32)), .val (.int u1)]) rfl k) ?_
  refine own_go (U' := T2.setTop (mkF m 41 #[.val (.ref a), .val (.int (2 : Int32)), .val (.ref b), .val (.int (2 : Int32)), .val (.int (3 : Int32)), .val (.int (2 : Int32)), .val (.int u1)] [])) (fun t k => XS.iinc X2.here hx rfl (hb hby duz1_38) rfl (l' := #[.val (.ref a), .val (.int (2 : Int32)), .val (.ref b), .val (.int (2 : Int32)), .val (.int (3 : Int32)), .val (.int (2 : Int32)), .val (.int u1)]) rfl k) ?_
  refine own_go (U' := T2.setTop (mkF m 3 #[.val (.ref a), .val (.int (2 : Int32)), .val (.ref b), .val (.int (2 : Int32)), .val (.int (3 : Int32)), .val (.int (2 : Int32)), .val (.int u1)] [])) (fun t k => XS.goto X2.here hx rfl (pc0 := 41) (pc' := 3) rfl (hb hby duz1_41) (by decide) (by decide) k) ?_
  refine own_go (U' := T2.setTop (mkF m 5 #[.val (.ref a), .val (.int (2 : Int32)), .val (.ref b), .val (.int (2 : Int32)), .val (.int (3 : Int32)), .val (.int (2 : Int32)), .val (.int u1)] [(.int (2 : Int32))])) (fun t k => XS.iload X2.here hx rfl (hb hby duz1_3) rfl k) ?_
  refine own_go (U' := T2.setTop (mkF m 7 #[.val (.ref a), .val (.int (2 : Int32)), .val (.ref b), .val (.int (2 : Int32)), .val (.int (3 : Int32)), .val (.int (2 : Int32)), .val (.int u1)] [(.int (3 : Int32)), (.int (2 : Int32))])) (fun t k => XS.iload X2.here hx rfl (hb hby duz1_5) rfl k) ?_
  refine own_go (U' := T2.setTop (mkF m 10 #[.val (.ref a), .val (.int (2 : Int32)), .val (.ref b), .val (.int (2 : Int32)), .val (.int (3 : Int32)), .val (.int (2 : Int32)), .val (.int u1)] [])) (fun t k => XS.icmpNo X2.here hx rfl (hb hby duz1_7) rfl (tlt (by decide)).2.1 k) ?_
  refine own_go (U' := T2.setTop (mkF m 11 #[.val (.ref a), .val (.int (2 : Int32)), .val (.ref b), .val (.int (2 : Int32)), .val (.int (3 : Int32)), .val (.int (2 : Int32)), .val (.int u1)] [(.ref a)])) (fun t k => XS.aloadN X2.here hx rfl (hb hby duz1_10) rfl rfl k) ?_
  refine own_go (U' := T2.setTop (mkF m 12 #[.val (.ref a), .val (.int (2 : Int32)), .val (.ref b), .val (.int (2 : Int32)), .val (.int (3 : Int32)), .val (.int (2 : Int32)), .val (.int u1)] [(.int (2 : Int32)), (.ref a)])) (fun t k => XS.iloadN X2.here hx rfl (hb hby duz1_11) rfl k) ?_
  refine own_go (U' := T2.setTop (mkF m 13 #[.val (.ref a), .val (.int (2 : Int32)), .val (.ref b), .val (.int (2 : Int32)), .val (.int (3 : Int32)), .val (.int (2 : Int32)), .val (.int u1)] [(.int u2)])) (own_caload X2 hx hZ e2 V_a (j := (2 : Int32)) (by decide) (i := 2) rfl (v := (.int u2)) rfl (g := (mkF m 12 #[.val (.ref a), .val (.int (2 : Int32)), .val (.ref b), .val (.int (2 : Int32)), .val (.int (3 : Int32)), .val (.int (2 : Int32)), .val (.int u1)] [(.int (2 : Int32)), (.ref a)])) rfl rfl (hb hby duz1_12)) ?_
  refine own_go (U' := T2.setTop (mkF m 15 #[.val (.ref a), .val (.int (2 : Int32)), .val (.ref b), .val (.int (2 : Int32)), .val (.int (3 : Int32)), .val (.int (2 : Int32)), .val (.int u2)] [])) (fun t k => XS.istore X2.here hx rfl (hb hby duz1_13) rfl (l' := #[.val (.ref a), .val (.int (2 : Int32)), .val (.ref b), .val (.int (2 : Int32)), .val (.int (3 : Int32)), .val (.int (2 : Int32)), .val (.int u2)]) rfl k) ?_
  refine own_go (U' := T2.setTop (mkF m 17 #[.val (.ref a), .val (.int (2 : Int32)), .val (.ref b), .val (.int (2 : Int32)), .val (.int (3 : Int32)), .val (.int (2 : Int32)), .val (.int u2)] [(.int u2)])) (fun t k => XS.iload X2.here hx rfl (hb hby duz1_15) rfl k) ?_
  refine own_go (U' := T2.setTop (mkF m 20 #[.val (.ref a), .val (.int (2 : Int32)), .val (.ref b), .val (.int (2 : Int32)), .val (.int (3 : Int32)), .val (.int (2 : Int32)), .val (.int u2)] [(.int (255 : Int32)), (.int u2)])) (fun t k => XS.sipush X2.here hx rfl (hb hby duz1_17) k) ?_
  refine own_go (U' := T2.setTop (mkF m 26 #[.val (.ref a), .val (.int (2 : Int32)), .val (.ref b), .val (.int (2 : Int32)), .val (.int (3 : Int32)), .val (.int (2 : Int32)), .val (.int u2)] [])) (fun t k => XS.icmpYes X2.here hx rfl (pc0 := 20) (pc' := 26) rfl (hb hby duz1_20) rfl (flt hu2).2.2.2 (by decide) (by decide) k) ?_
  refine own_go (U' := T2.setTop (mkF m 27 #[.val (.ref a), .val (.int (2 : Int32)), .val (.ref b), .val (.int (2 : Int32)), .val (.int (3 : Int32)), .val (.int (2 : Int32)), .val (.int u2)] [(.ref b)])) (fun t k => XS.aloadN X2.here hx rfl (hb hby duz1_26) rfl rfl k) ?_
  refine own_go (U' := T2.setTop (mkF m 28 #[.val (.ref a), .val (.int (2 : Int32)), .val (.ref b), .val (.int (2 : Int32)), .val (.int (3 : Int32)), .val (.int (2 : Int32)), .val (.int u2)] [(.int (2 : Int32)), (.ref b)])) (fun t k => XS.iloadN X2.here hx rfl (hb hby duz1_27) rfl k) ?_
  refine own_go (U' := T2.setTop (mkF m 30 #[.val (.ref a), .val (.int (2 : Int32)), .val (.ref b), .val (.int (2 : Int32)), .val (.int (3 : Int32)), .val (.int (2 : Int32)), .val (.int u2)] [(.int u2), (.int (2 : Int32)), (.ref b)])) (fun t k => XS.iload X2.here hx rfl (hb hby duz1_28) rfl k) ?_
  refine own_go (U' := T2.setTop (mkF m 31 #[.val (.ref a), .val (.int (2 : Int32)), .val (.ref b), .val (.int (2 : Int32)), .val (.int (3 : Int32)), .val (.int (2 : Int32)), .val (.int u2)] [(.int (u2.toInt8.toInt32)), (.int (2 : Int32)), (.ref b)])) (fun t k => XS.i2b X2.here hx rfl (hb hby duz1_30) rfl k) ?_
  obtain ⟨T3, h3, X3, e3, W3, A3, st3⟩ := own_bastore X2 hx hZ e2 V_b (j := (2 : Int32)) (by decide) (i := 2) rfl (Nat.le_of_ble_eq_true rfl) (g := (mkF m 31 #[.val (.ref a), .val (.int (2 : Int32)), .val (.ref b), .val (.int (2 : Int32)), .val (.int (3 : Int32)), .val (.int (2 : Int32)), .val (.int u2)] [(.int (u2.toInt8.toInt32)), (.int (2 : Int32)), (.ref b)])) rfl rfl (hb hby duz1_31)
  have K := K.wr W3 (Or.inl (List.mem_of_getElem? (i := 0) rfl))
  have V_a := V_a.other W3 ne_a_b
  have V_b : own_Ar Z h3 b kb .byte [(.int (u0.toInt8.toInt32).toInt8.toInt32), (.int (u1.toInt8.toInt32).toInt8.toInt32), (.int (u2.toInt8.toInt32).toInt8.toInt32)] := A3
  have N3 := Fr.snoc X3 N2 g_b
  refine own_go (U' := T3.setTop (mkF m 32 #[.val (.ref a), .val (.int (2 : Int32)), .val (.ref b), .val (.int (2 : Int32)), .val (.int (3 : Int32)), .val (.int (2 : Int32)), .val (.int u2)] [])) st3 ?_
  refine own_go (U' := T3.setTop (mkF m 35 #[.val (.ref a), .val (.int (3 : Int32)), .val (.ref b), .val (.int (2 : Int32)), .val (.int (3 : Int32)), .val (.int (2 : Int32)), .val (.int u2)] [])) (fun t k => XS.iinc X3.here hx rfl (hb hby duz1_32) rfl (l' := #[.val (.ref a), .val (.int (3 : Int32)), .val (.ref b), .val (.int (2 : Int32)), .val (.int (3 : Int32)), .val (.int (2 : Int32)), .val (.int u2)]) rfl k) ?_
  refine own_go (U' := T3.setTop (mkF m 38 #[.val (.ref a), .val (.int (3 : Int32)), .val (.ref b), .val (.int (3 : Int32)), .val (.int (3 : Int32)), .val (.int (2 : Int32)), .val (.int u2)] [])) (fun t k => XS.iinc X3.here hx rfl (hb hby duz1_35) rfl (l' := #[.val (.ref a), .val (.int (3 : Int32)), .val (.ref b), .val (.int (3 : Int32)), .val (.int (3 : Int32)), .val (.int (2 : Int32)), .val (.int u2)]) rfl k) ?_
  refine own_go (U' := T3.setTop (mkF m 41 #[.val (.ref a), .val (.int (3 : Int32)), .val (.ref b), .val (.int (3 : Int32)), .val (.int (3 : Int32)), .val (.int (3 : Int32)), .val (.int u2)] [])) (fun t k => XS.iinc X3.here hx rfl (hb hby duz1_38) rfl (l' := #[.val (.ref a), .val (.int (3 : Int32)), .val (.ref b), .val (.int (3 : Int32)), .val (.int (3 : Int32)), .val (.int (3 : Int32)), .val (.int u2)]) rfl k) ?_
  refine own_go (U' := T3.setTop (mkF m 3 #[.val (.ref a), .val (.int (3 : Int32)), .val (.ref b), .val (.int (3 : Int32)), .val (.int (3 : Int32)), .val (.int (3 : Int32)), .val (.int u2)] [])) (fun t k => XS.goto X3.here hx rfl (pc0 := 41) (pc' := 3) rfl (hb hby duz1_41) (by decide) (by decide) k) ?_
  refine own_go (U' := T3.setTop (mkF m 5 #[.val (.ref a), .val (.int (3 : Int32)), .val (.ref b), .val (.int (3 : Int32)), .val (.int (3 : Int32)), .val (.int (3 : Int32)), .val (.int u2)] [(.int (3 : Int32))])) (fun t k => XS.iload X3.here hx rfl (hb hby duz1_3) rfl k) ?_
  refine own_go (U' := T3.setTop (mkF m 7 #[.val (.ref a), .val (.int (3 : Int32)), .val (.ref b), .val (.int (3 : Int32)), .val (.int (3 : Int32)), .val (.int (3 : Int32)), .val (.int u2)] [(.int (3 : Int32)), (.int (3 : Int32))])) (fun t k => XS.iload X3.here hx rfl (hb hby duz1_5) rfl k) ?_
  refine own_go (U' := T3.setTop (mkF m 44 #[.val (.ref a), .val (.int (3 : Int32)), .val (.ref b), .val (.int (3 : Int32)), .val (.int (3 : Int32)), .val (.int (3 : Int32)), .val (.int u2)] [])) (fun t k => XS.icmpYes X3.here hx rfl (pc0 := 7) (pc' := 44) rfl (hb hby duz1_7) rfl (flt (by decide)).2.1 (by decide) (by decide) k) ?_
  refine own_go (U' := T3.setTop (mkF m 46 #[.val (.ref a), .val (.int (3 : Int32)), .val (.ref b), .val (.int (3 : Int32)), .val (.int (3 : Int32)), .val (.int (3 : Int32)), .val (.int u2)] [(.int (3 : Int32))])) (fun t k => XS.iload X3.here hx rfl (hb hby duz1_44) rfl k) ?_
  refine own_retI X3 hx hret hlk (hb hby duz1_46) ?_ (by decide) (by decide)
  rw [e3]
  exact ⟨rfl, N3, K, V_b⟩
theorem own_efuc3 (m : MethodId) (a : Addr) : entryFrame m #[(.ref a), (.int (0 : Int32)), (.int (3 : Int32))] 6 = mkF m 0 #[.val (.ref a), .val (.int (0 : Int32)), .val (.int (3 : Int32)), .unset, .unset, .unset] [] := by first | (simp [entryFrame, mkF, argsToLocals, Value.category]; done) | rfl
set_option maxRecDepth 65536 in
set_option maxHeartbeats 40000000 in
theorem own_rmuc3 (l : Launch) (Z : State) (a0 : Array Value) (hw : ∀ d ∈ tables_1, d.before a0 Z = true) (a : Addr) (h0 : Heap) (n0 : Nat) (O : Old Z n0 h0) (u0 u1 u2 : Int32) (hu0 : ¬ (255 : Int32) < u0) (hu1 : ¬ (255 : Int32) < u1) (hu2 : ¬ (255 : Int32) < u2) (ka : ClassId) (V_a : own_Ar Z h0 a ka .char [.int u0, .int u1, .int u2]) :
    own_C l Z (⟨"java/lang/StringUTF16", "compress", "([CII)[B"⟩ : MethodName) jdk_52_method_16_code 6 (some (.array .byte)) [] ({ frames := 1, cells := 1, slots := 3, locals := 18 } : Room) #[(.ref a), (.int (0 : Int32)), (.int (3 : Int32))] h0 (fun v h L => ∃ b kb, v = some (.ref b) ∧ Fr n0 L ∧ Keep h0 h [] ∧ own_Ar Z h b kb .byte [.int (own_bv u0), .int (own_bv u1), .int (own_bv u2)] ∧ h0.size ≤ b ∧ n0 ≤ b) := by
  refine own_body (plainFor_of_name own_pn0) fun p e s m below meth c s₁ hx hby hml hret hlk hown hnm hZ X0 e0 => ?_
  rw [own_efuc3 m a]
  have N0 := Fr.nil n0
  have K := Keep.refl h0 []
  refine own_go (U' := s₁.setTop (mkF m 1 #[.val (.ref a), .val (.int (0 : Int32)), .val (.int (3 : Int32)), .unset, .unset, .unset] [(.int (3 : Int32))])) (fun t k => XS.iloadN X0.here hx rfl (hb hby duc1_0) rfl k) ?_
  obtain ⟨T1, h1, k1, X1, e1, E1, A1, Y1, st1⟩ := own_newarr X0 hx hZ (hw _ (List.mem_of_getElem? (i := 19) rfl)) e0 (g := (mkF m 1 #[.val (.ref a), .val (.int (0 : Int32)), .val (.int (3 : Int32)), .unset, .unset, .unset] [(.int (3 : Int32))])) rfl (hb hby duc1_1) rfl (by decide) (cap := 3) (by decide) (by decide) (by decide) (by decide) (ad := "[B") (by decide) rfl (vs := [(.int (0 : Int32)), (.int (0 : Int32)), (.int (0 : Int32))]) rfl
  obtain ⟨b1, g1⟩ : ∃ z, z = h0.size := ⟨_, rfl⟩
  rw [← g1] at A1 Y1 st1
  have ne_a_b1 : a ≠ b1 := Nat.ne_of_lt (Nat.lt_of_lt_of_eq V_a.lt g1.symm)
  have g_b1 : n0 ≤ b1 := Nat.le_trans (Nat.le_trans (Nat.le_of_eq O.1.symm) O.2.1) (Nat.le_of_eq g1.symm)
  have sz_b1 : h0.size ≤ b1 := Nat.le_trans K.1 (Nat.le_of_eq g1.symm)
  have K := K.ext E1
  have O := O.ext E1
  have V_a := V_a.ext E1
  have V_b1 : own_Ar Z h1 b1 k1 .byte [(.int (0 : Int32)), (.int (0 : Int32)), (.int (0 : Int32))] := A1
  have E_b1 := Y1
  refine own_go (U' := T1.setTop (mkF m 3 #[.val (.ref a), .val (.int (0 : Int32)), .val (.int (3 : Int32)), .unset, .unset, .unset] [(.ref b1)])) st1 ?_
  refine own_go (U' := T1.setTop (mkF m 4 #[.val (.ref a), .val (.int (0 : Int32)), .val (.int (3 : Int32)), .val (.ref b1), .unset, .unset] [])) (fun t k => XS.astoreN X1.here hx rfl (hb hby duc1_3) rfl rfl (l' := #[.val (.ref a), .val (.int (0 : Int32)), .val (.int (3 : Int32)), .val (.ref b1), .unset, .unset]) rfl k) ?_
  refine own_go (U' := T1.setTop (mkF m 5 #[.val (.ref a), .val (.int (0 : Int32)), .val (.int (3 : Int32)), .val (.ref b1), .unset, .unset] [(.ref a)])) (fun t k => XS.aloadN X1.here hx rfl (hb hby duc1_4) rfl rfl k) ?_
  refine own_go (U' := T1.setTop (mkF m 6 #[.val (.ref a), .val (.int (0 : Int32)), .val (.int (3 : Int32)), .val (.ref b1), .unset, .unset] [(.int (0 : Int32)), (.ref a)])) (fun t k => XS.iloadN X1.here hx rfl (hb hby duc1_5) rfl k) ?_
  refine own_go (U' := T1.setTop (mkF m 7 #[.val (.ref a), .val (.int (0 : Int32)), .val (.int (3 : Int32)), .val (.ref b1), .unset, .unset] [(.ref b1), (.int (0 : Int32)), (.ref a)])) (fun t k => XS.aloadN X1.here hx rfl (hb hby duc1_6) rfl rfl k) ?_
  refine own_go (U' := T1.setTop (mkF m 8 #[.val (.ref a), .val (.int (0 : Int32)), .val (.int (3 : Int32)), .val (.ref b1), .unset, .unset] [(.int (0 : Int32)), (.ref b1), (.int (0 : Int32)), (.ref a)])) (fun t k => XS.iconst X1.here hx rfl (hb hby duc1_7) k) ?_
  refine own_go (U' := T1.setTop (mkF m 9 #[.val (.ref a), .val (.int (0 : Int32)), .val (.int (3 : Int32)), .val (.ref b1), .unset, .unset] [(.int (3 : Int32)), (.int (0 : Int32)), (.ref b1), (.int (0 : Int32)), (.ref a)])) (fun t k => XS.iloadN X1.here hx rfl (hb hby duc1_8) rfl k) ?_
  obtain ⟨v2, T2, h2, L2, e2, X2, hQ2, st2⟩ := own_callS X1 hx hZ (y := (⟨"java/lang/StringUTF16", "compress", "([CI[BII)I"⟩ : MethodName)) hown (hw _ (List.mem_of_getElem? (i := 68) rfl)) (hw _ (List.mem_of_getElem? (i := 69) rfl)) (hw _ (List.mem_of_getElem? (i := 66) rfl)) (hw _ (List.mem_of_getElem? (i := 70) rfl)) (by decide) (own_rmuz3 l Z a0 hw a b1 h1 n0 g_b1 u0 u1 u2 hu0 hu1 hu2 _ _ ne_a_b1 V_a V_b1) (W := 0) (by decide) (by decide) (g := (mkF m 9 #[.val (.ref a), .val (.int (0 : Int32)), .val (.int (3 : Int32)), .val (.ref b1), .unset, .unset] [(.int (3 : Int32)), (.int (0 : Int32)), (.ref b1), (.int (0 : Int32)), (.ref a)])) rfl (by rw [hml]; rfl) (argsL := [(.ref a), (.int (0 : Int32)), (.ref b1), (.int (0 : Int32)), (.int (3 : Int32))]) (rest := []) (lenOf own_pd0 rfl) rfl rfl (by show 2 * 0 + _ ≤ _; exact Nat.le_of_eq rfl) (hb hby duc1_9) e1 (by decide) (by decide)
  obtain ⟨rfl, Nq, Kq, V_b1⟩ := hQ2
  have K := K.trans Kq (allS (Or.inr sz_b1) all0)
  have O := O.keep Kq (allS g_b1 all0)
  have V_a := V_a.keep Kq (ninS ne_a_b1 nin0)
  have E_b1 := E_b1.keep Kq
  have N2 := Fr.app N0 Nq
  refine own_go (U' := T2.setTop (mkF m 12 #[.val (.ref a), .val (.int (0 : Int32)), .val (.int (3 : Int32)), .val (.ref b1), .unset, .unset] [(.int (3 : Int32))])) st2 ?_
  refine own_go (U' := T2.setTop (mkF m 14 #[.val (.ref a), .val (.int (0 : Int32)), .val (.int (3 : Int32)), .val (.ref b1), .val (.int (3 : Int32)), .unset] [])) (fun t k => XS.istore X2.here hx rfl (hb hby duc1_12) rfl (l' := #[.val (.ref a), .val (.int (0 : Int32)), .val (.int (3 : Int32)), .val (.ref b1), .val (.int (3 : Int32)), .unset]) rfl k) ?_
  refine own_go (U' := T2.setTop (mkF m 16 #[.val (.ref a), .val (.int (0 : Int32)), .val (.int (3 : Int32)), .val (.ref b1), .val (.int (3 : Int32)), .unset] [(.int (3 : Int32))])) (fun t k => XS.iload X2.here hx rfl (hb hby duc1_14) rfl k) ?_
  refine own_go (U' := T2.setTop (mkF m 17 #[.val (.ref a), .val (.int (0 : Int32)), .val (.int (3 : Int32)), .val (.ref b1), .val (.int (3 : Int32)), .unset] [(.int (3 : Int32)), (.int (3 : Int32))])) (fun t k => XS.iloadN X2.here hx rfl (hb hby duc1_16) rfl k) ?_
  refine own_go (U' := T2.setTop (mkF m 57 #[.val (.ref a), .val (.int (0 : Int32)), .val (.int (3 : Int32)), .val (.ref b1), .val (.int (3 : Int32)), .unset] [])) (fun t k => XS.icmpYes X2.here hx rfl (pc0 := 17) (pc' := 57) rfl (hb hby duc1_17) rfl (teq (by decide)).1 (by decide) (by decide) k) ?_
  refine own_go (U' := T2.setTop (mkF m 58 #[.val (.ref a), .val (.int (0 : Int32)), .val (.int (3 : Int32)), .val (.ref b1), .val (.int (3 : Int32)), .unset] [(.ref b1)])) (fun t k => XS.aloadN X2.here hx rfl (hb hby duc1_57) rfl rfl k) ?_
  refine own_retA X2 hx (t := (.array .byte)) hret rfl hlk rfl (hb hby duc1_58) ?_ (by decide) (by decide)
  rw [e2]
  exact ⟨_, _, rfl, N2, K, V_b1, sz_b1, g_b1⟩
theorem own_efcf3 (m : MethodId) (b : Addr) : entryFrame m #[(.ref b), (.int (3 : Int32))] 2 = mkF m 0 #[.val (.ref b), .val (.int (3 : Int32))] [] := by first | (simp [entryFrame, mkF, argsToLocals, Value.category]; done) | rfl
set_option maxRecDepth 65536 in
set_option maxHeartbeats 40000000 in
theorem own_rmcf3 (l : Launch) (Z : State) (a0 : Array Value) (hw : ∀ d ∈ tables_1, d.before a0 Z = true) (b : Addr) (h0 : Heap) (vs : List Value) (hvs : vs.length = 3) (kb : ClassId) (V_b : own_Ar Z h0 b kb .byte vs) :
    own_C l Z (⟨"java/lang/StringUTF16", "coderFromArrayLen", "([BI)B"⟩ : MethodName) jdk_52_method_15_code 2 (some .byte) [] ({ frames := 0, cells := 0, slots := 0, locals := 0 } : Room) #[(.ref b), (.int (3 : Int32))] h0 (fun v h L => v = some (.int 0) ∧ L = [] ∧ h = h0) := by
  refine own_body (plainFor_of_name own_pn0) fun p e s m below meth c s₁ hx hby hml hret hlk hown hnm hZ X0 e0 => ?_
  rw [own_efcf3 m b]
  refine own_go (U' := s₁.setTop (mkF m 1 #[.val (.ref b), .val (.int (3 : Int32))] [(.int (3 : Int32))])) (fun t k => XS.iloadN X0.here hx rfl (hb hby dcf1_0) rfl k) ?_
  refine own_go (U' := s₁.setTop (mkF m 2 #[.val (.ref b), .val (.int (3 : Int32))] [(.ref b), (.int (3 : Int32))])) (fun t k => XS.aloadN X0.here hx rfl (hb hby dcf1_1) rfl rfl k) ?_
  refine own_go (U' := s₁.setTop (mkF m 3 #[.val (.ref b), .val (.int (3 : Int32))] [(.int (3 : Int32)), (.int (3 : Int32))])) (own_arrlen X0 hx hZ e0 V_b (n := (3 : Int32)) (by rw [hvs]; rfl) (g := (mkF m 2 #[.val (.ref b), .val (.int (3 : Int32))] [(.ref b), (.int (3 : Int32))])) rfl rfl (hb hby dcf1_2)) ?_
  refine own_go (U' := s₁.setTop (mkF m 4 #[.val (.ref b), .val (.int (3 : Int32))] [(.int (0 : Int32))])) (fun t k => XS.isub X0.here hx rfl (hb hby dcf1_3) rfl k) ?_
  refine own_go (U' := s₁.setTop (mkF m 6 #[.val (.ref b), .val (.int (3 : Int32))] [(.int (31 : Int32)), (.int (0 : Int32))])) (fun t k => XS.bipush X0.here hx rfl (hb hby dcf1_4) k) ?_
  refine own_go (U' := s₁.setTop (mkF m 7 #[.val (.ref b), .val (.int (3 : Int32))] [(.int (((0 : Int32).toUInt32 >>> ((31 : Int32) &&& 31).toUInt32).toInt32))])) (fun t k => XS.iushr X0.here hx rfl (hb hby dcf1_6) rfl k) ?_
  refine own_go (U' := s₁.setTop (mkF m 8 #[.val (.ref b), .val (.int (3 : Int32))] [(.int ((((0 : Int32).toUInt32 >>> ((31 : Int32) &&& 31).toUInt32).toInt32).toInt8.toInt32))])) (fun t k => XS.i2b X0.here hx rfl (hb hby dcf1_7) rfl k) ?_
  refine own_retN X0 hx (t := .byte) hret (by simp) hlk (hb hby dcf1_8) ?_ (by decide) (by decide)
  exact ⟨congrArg (fun z => some (Value.int z)) (by decide), rfl, e0⟩
theorem own_efs43 (m : MethodId) (a b : Addr) : entryFrame m #[(.ref a), (.ref b), (.int (0 : Int32)), (.int (3 : Int32)), .null] 6 = mkF m 0 #[.val (.ref a), .val (.ref b), .val (.int (0 : Int32)), .val (.int (3 : Int32)), .val .null, .unset] [] := by first | (simp [entryFrame, mkF, argsToLocals, Value.category]; done) | rfl
set_option maxRecDepth 65536 in
set_option maxHeartbeats 40000000 in
theorem own_rms43 (l : Launch) (Z : State) (a0 : Array Value) (hw : ∀ d ∈ tables_1, d.before a0 Z = true) (a b : Addr) (h0 : Heap) (n0 : Nat) (g_a : n0 ≤ a) (O : Old Z n0 h0) (cs : Int32) (hcs : cs ≠ 0) (S_cs : Sta Z Z.heap "java/lang/String" "COMPACT_STRINGS" "Z" (.int cs)) (u0 u1 u2 : Int32) (hu0 : ¬ (255 : Int32) < u0) (hu1 : ¬ (255 : Int32) < u1) (hu2 : ¬ (255 : Int32) < u2) (w0 w1 : Value) (E_a : Exa Z h0 a "java/lang/String") (F_value_a : Fld Z h0 a "java/lang/String" "value" "[B" w0) (F_coder_a : Fld Z h0 a "java/lang/String" "coder" "B" w1) (kb : ClassId) (V_b : own_Ar Z h0 b kb .char [.int u0, .int u1, .int u2]) :
    own_C l Z (⟨"java/lang/String", "<init>", "([CIILjava/lang/Void;)V"⟩ : MethodName) jdk_42_method_149_code 6 none [] ({ frames := 2, cells := 1, slots := 3, locals := 35 } : Room) #[(.ref a), (.ref b), (.int (0 : Int32)), (.int (3 : Int32)), .null] h0 (fun v h L => v = none ∧ Fr n0 L ∧ Keep h0 h [a] ∧ ∃ c kc, Fld Z h a "java/lang/String" "value" "[B" (.ref c) ∧ Fld Z h a "java/lang/String" "coder" "B" (.int 0) ∧ own_Ar Z h c kc .byte [.int (own_bv u0), .int (own_bv u1), .int (own_bv u2)] ∧ h0.size ≤ c ∧ n0 ≤ c) := by
  refine own_body (plainFor_of_name own_pn1) fun p e s m below meth c s₁ hx hby hml hret hlk hown hnm hZ X0 e0 => ?_
  rw [own_efs43 m a b]
  have N0 := Fr.nil n0
  have K := Keep.refl h0 [a]
  have ne_a_b : a ≠ b := by
    obtain ⟨cb, Ab, -⟩ := V_b
    exact ne_arr E_a (hw _ (List.mem_of_getElem? (i := 6) rfl)) Ab
  refine own_go (U' := s₁.setTop (mkF m 1 #[.val (.ref a), .val (.ref b), .val (.int (0 : Int32)), .val (.int (3 : Int32)), .val .null, .unset] [(.ref a)])) (fun t k => XS.aloadN X0.here hx rfl (hb hby ds41_0) rfl rfl k) ?_
  obtain ⟨T1, X1, e1, st1⟩ := initO X0 hx hZ hown (hw _ (List.mem_of_getElem? (i := 15) rfl)) (hw _ (List.mem_of_getElem? (i := 16) rfl)) (hw _ (List.mem_of_getElem? (i := 17) rfl)) e0 (g := (mkF m 1 #[.val (.ref a), .val (.ref b), .val (.int (0 : Int32)), .val (.int (3 : Int32)), .val .null, .unset] [(.ref a)])) rfl (by rw [hml]; rfl) rfl (hb hby ds41_1) (by decide) (W := 0) (by show 2 * 0 + _ ≤ _; exact Nat.le_of_eq rfl) (by decide)
  refine own_go (U' := T1.setTop (mkF m 4 #[.val (.ref a), .val (.ref b), .val (.int (0 : Int32)), .val (.int (3 : Int32)), .val .null, .unset] [])) st1 ?_
  refine own_go (U' := T1.setTop (mkF m 5 #[.val (.ref a), .val (.ref b), .val (.int (0 : Int32)), .val (.int (3 : Int32)), .val .null, .unset] [(.int (3 : Int32))])) (fun t k => XS.iloadN X1.here hx rfl (hb hby ds41_4) rfl k) ?_
  refine own_go (U' := T1.setTop (mkF m 27 #[.val (.ref a), .val (.ref b), .val (.int (0 : Int32)), .val (.int (3 : Int32)), .val .null, .unset] [])) (fun t k => XS.ifYes X1.here hx rfl (pc0 := 5) (pc' := 27) rfl (hb hby ds41_5) rfl ((if0 _ _).trans (feq (by decide)).2) (by decide) (by decide) k) ?_
  obtain ⟨T2, X2, e2, st2⟩ := getS2 X1 hx hZ hown (host := "") (Or.inl (hw _ (List.mem_of_getElem? (i := 59) rfl))) Via.refl e1 (S_cs.ext O.2) (g := (mkF m 27 #[.val (.ref a), .val (.ref b), .val (.int (0 : Int32)), .val (.int (3 : Int32)), .val .null, .unset] [])) rfl (hb hby ds41_27)
  refine own_go (U' := T2.setTop (mkF m 30 #[.val (.ref a), .val (.ref b), .val (.int (0 : Int32)), .val (.int (3 : Int32)), .val .null, .unset] [(.int cs)])) st2 ?_
  refine own_go (U' := T2.setTop (mkF m 33 #[.val (.ref a), .val (.ref b), .val (.int (0 : Int32)), .val (.int (3 : Int32)), .val .null, .unset] [])) (fun t k => XS.ifNo X2.here hx rfl (hb hby ds41_30) rfl ((if0 _ _).trans (feq hcs).1) k) ?_
  refine own_go (U' := T2.setTop (mkF m 34 #[.val (.ref a), .val (.ref b), .val (.int (0 : Int32)), .val (.int (3 : Int32)), .val .null, .unset] [(.ref b)])) (fun t k => XS.aloadN X2.here hx rfl (hb hby ds41_33) rfl rfl k) ?_
  refine own_go (U' := T2.setTop (mkF m 35 #[.val (.ref a), .val (.ref b), .val (.int (0 : Int32)), .val (.int (3 : Int32)), .val .null, .unset] [(.int (0 : Int32)), (.ref b)])) (fun t k => XS.iloadN X2.here hx rfl (hb hby ds41_34) rfl k) ?_
  refine own_go (U' := T2.setTop (mkF m 36 #[.val (.ref a), .val (.ref b), .val (.int (0 : Int32)), .val (.int (3 : Int32)), .val .null, .unset] [(.int (3 : Int32)), (.int (0 : Int32)), (.ref b)])) (fun t k => XS.iloadN X2.here hx rfl (hb hby ds41_35) rfl k) ?_
  obtain ⟨v3, T3, h3, L3, e3, X3, hQ3, st3⟩ := own_callS X2 hx hZ (y := (⟨"java/lang/StringUTF16", "compress", "([CII)[B"⟩ : MethodName)) hown (hw _ (List.mem_of_getElem? (i := 64) rfl)) (hw _ (List.mem_of_getElem? (i := 65) rfl)) (hw _ (List.mem_of_getElem? (i := 66) rfl)) (hw _ (List.mem_of_getElem? (i := 67) rfl)) (by decide) (own_rmuc3 l Z a0 hw b h0 n0 O u0 u1 u2 hu0 hu1 hu2 _ V_b) (W := 0) (by decide) (by decide) (g := (mkF m 36 #[.val (.ref a), .val (.ref b), .val (.int (0 : Int32)), .val (.int (3 : Int32)), .val .null, .unset] [(.int (3 : Int32)), (.int (0 : Int32)), (.ref b)])) rfl (by rw [hml]; rfl) (argsL := [(.ref b), (.int (0 : Int32)), (.int (3 : Int32))]) (rest := []) (lenOf own_pd1 rfl) rfl rfl (by show 2 * 0 + _ ≤ _; exact Nat.le_of_eq rfl) (hb hby ds41_36) e2 (by decide) (by decide)
  obtain ⟨c', kc, rfl, Nq, Kq, V_c', sz_c', g_c'⟩ := hQ3
  have ne_a_c' : a ≠ c' := Nat.ne_of_lt (Nat.lt_of_lt_of_le E_a.lt sz_c')
  have sz_c' : h0.size ≤ c' := Nat.le_trans K.1 sz_c'
  have E_a := E_a.keep Kq
  have F_value_a := F_value_a.keep Kq nin0
  have F_coder_a := F_coder_a.keep Kq nin0
  have V_b := V_b.keep Kq nin0
  have K := K.trans Kq all0
  have O := O.keep Kq all0
  have N3 := Fr.app N0 Nq
  refine own_go (U' := T3.setTop (mkF m 39 #[.val (.ref a), .val (.ref b), .val (.int (0 : Int32)), .val (.int (3 : Int32)), .val .null, .unset] [(.ref c')])) st3 ?_
  refine own_go (U' := T3.setTop (mkF m 41 #[.val (.ref a), .val (.ref b), .val (.int (0 : Int32)), .val (.int (3 : Int32)), .val .null, .val (.ref c')] [])) (fun t k => XS.astore X3.here hx rfl (hb hby ds41_39) rfl rfl (l' := #[.val (.ref a), .val (.ref b), .val (.int (0 : Int32)), .val (.int (3 : Int32)), .val .null, .val (.ref c')]) rfl k) ?_
  refine own_go (U' := T3.setTop (mkF m 42 #[.val (.ref a), .val (.ref b), .val (.int (0 : Int32)), .val (.int (3 : Int32)), .val .null, .val (.ref c')] [(.ref a)])) (fun t k => XS.aloadN X3.here hx rfl (hb hby ds41_41) rfl rfl k) ?_
  refine own_go (U' := T3.setTop (mkF m 44 #[.val (.ref a), .val (.ref b), .val (.int (0 : Int32)), .val (.int (3 : Int32)), .val .null, .val (.ref c')] [(.ref c'), (.ref a)])) (fun t k => XS.aload X3.here hx rfl (hb hby ds41_42) rfl rfl k) ?_
  refine own_go (U' := T3.setTop (mkF m 45 #[.val (.ref a), .val (.ref b), .val (.int (0 : Int32)), .val (.int (3 : Int32)), .val .null, .val (.ref c')] [(.int (3 : Int32)), (.ref c'), (.ref a)])) (fun t k => XS.iloadN X3.here hx rfl (hb hby ds41_44) rfl k) ?_
  obtain ⟨v4, T4, h4, L4, e4, X4, hQ4, st4⟩ := own_callS X3 hx hZ (y := (⟨"java/lang/StringUTF16", "coderFromArrayLen", "([BI)B"⟩ : MethodName)) hown (hw _ (List.mem_of_getElem? (i := 71) rfl)) (hw _ (List.mem_of_getElem? (i := 72) rfl)) (hw _ (List.mem_of_getElem? (i := 66) rfl)) (hw _ (List.mem_of_getElem? (i := 73) rfl)) (by decide) (own_rmcf3 l Z a0 hw c' h3 _ rfl _ V_c') (W := 1) (by decide) (by decide) (g := (mkF m 45 #[.val (.ref a), .val (.ref b), .val (.int (0 : Int32)), .val (.int (3 : Int32)), .val .null, .val (.ref c')] [(.int (3 : Int32)), (.ref c'), (.ref a)])) rfl (by rw [hml]; rfl) (argsL := [(.ref c'), (.int (3 : Int32))]) (rest := [(.ref a)]) (lenOf own_pd2 rfl) rfl rfl (by show 2 * 0 + _ ≤ _; exact Nat.le_of_eq rfl) (hb hby ds41_45) e3 (by decide) (by decide)
  obtain ⟨rfl, rfl, eh4⟩ := hQ4
  have e4 := e4.trans eh4
  rw [List.append_nil] at X4
  refine own_go (U' := T4.setTop (mkF m 48 #[.val (.ref a), .val (.ref b), .val (.int (0 : Int32)), .val (.int (3 : Int32)), .val .null, .val (.ref c')] [(.int (0 : Int32)), (.ref a)])) st4 ?_
  obtain ⟨T5, h5, X5, e5, W5, st5⟩ := putFN X4 hx hZ hown (hw _ (List.mem_of_getElem? (i := 25) rfl)) Via.refl e4 F_coder_a E_a (Or.inr ⟨(hw _ (List.mem_of_getElem? (i := 21) rfl)), rfl, hnm⟩) (hw _ (List.mem_of_getElem? (i := 6) rfl)) (ty := .byte) (v' := (.int (0 : Int32).toInt8.toInt32)) (by decide) rfl (fits_nar_byte _) (g := (mkF m 48 #[.val (.ref a), .val (.ref b), .val (.int (0 : Int32)), .val (.int (3 : Int32)), .val .null, .val (.ref c')] [(.int (0 : Int32)), (.ref a)])) rfl rfl (hb hby ds41_48)
  have E_a := E_a.wr W5
  have F_value_a := F_value_a.other W5 (Or.inr (slot_ne (Or.inr (hw _ (List.mem_of_getElem? (i := 20) rfl))) (Or.inr (hw _ (List.mem_of_getElem? (i := 21) rfl))) (by decide) (t := (.array .byte)) (t' := .byte) (by decide) (by decide)))
  have V_b := V_b.other W5 (Ne.symm ne_a_b)
  have K := K.wr W5 (Or.inl (List.mem_of_getElem? (i := 0) rfl))
  have O := O.wr W5 g_a
  have V_c' := V_c'.other W5 (Ne.symm ne_a_c')
  have F_coder_a := F_coder_a.same W5
  have N5 := Fr.snoc X5 N3 g_a
  refine own_go (U' := T5.setTop (mkF m 51 #[.val (.ref a), .val (.ref b), .val (.int (0 : Int32)), .val (.int (3 : Int32)), .val .null, .val (.ref c')] [])) st5 ?_
  refine own_go (U' := T5.setTop (mkF m 52 #[.val (.ref a), .val (.ref b), .val (.int (0 : Int32)), .val (.int (3 : Int32)), .val .null, .val (.ref c')] [(.ref a)])) (fun t k => XS.aloadN X5.here hx rfl (hb hby ds41_51) rfl rfl k) ?_
  refine own_go (U' := T5.setTop (mkF m 54 #[.val (.ref a), .val (.ref b), .val (.int (0 : Int32)), .val (.int (3 : Int32)), .val .null, .val (.ref c')] [(.ref c'), (.ref a)])) (fun t k => XS.aload X5.here hx rfl (hb hby ds41_52) rfl rfl k) ?_
  obtain ⟨T6, h6, X6, e6, W6, st6⟩ := putF X5 hx hZ hown (host := "") (Or.inl (hw _ (List.mem_of_getElem? (i := 24) rfl))) Via.refl e5 F_value_a E_a (Or.inr ⟨(hw _ (List.mem_of_getElem? (i := 20) rfl)), rfl, hnm⟩) (hw _ (List.mem_of_getElem? (i := 6) rfl)) (ty := (.array .byte)) (by decide) rfl rfl (g := (mkF m 54 #[.val (.ref a), .val (.ref b), .val (.int (0 : Int32)), .val (.int (3 : Int32)), .val .null, .val (.ref c')] [(.ref c'), (.ref a)])) rfl rfl (hb hby ds41_54)
  have E_a := E_a.wr W6
  have F_coder_a := F_coder_a.other W6 (Or.inr (slot_ne (Or.inr (hw _ (List.mem_of_getElem? (i := 21) rfl))) (Or.inr (hw _ (List.mem_of_getElem? (i := 20) rfl))) (by decide) (t := .byte) (t' := (.array .byte)) (by decide) (by decide)))
  have V_b := V_b.other W6 (Ne.symm ne_a_b)
  have K := K.wr W6 (Or.inl (List.mem_of_getElem? (i := 0) rfl))
  have O := O.wr W6 g_a
  have V_c' := V_c'.other W6 (Ne.symm ne_a_c')
  have F_value_a := F_value_a.same W6
  have N6 := Fr.snoc X6 N5 g_a
  refine own_go (U' := T6.setTop (mkF m 57 #[.val (.ref a), .val (.ref b), .val (.int (0 : Int32)), .val (.int (3 : Int32)), .val .null, .val (.ref c')] [])) st6 ?_
  refine own_retV X6 hx hret hlk (hb hby ds41_57) ?_ (by decide) (by decide)
  rw [e6]
  rw [show (0 : Int32).toInt8.toInt32 = 0 from by decide] at F_coder_a
  exact ⟨rfl, N6, K, _, _, F_value_a, F_coder_a, V_c', sz_c', g_c'⟩
theorem own_efs13 (m : MethodId) (a b : Addr) : entryFrame m #[(.ref a), (.ref b)] 2 = mkF m 0 #[.val (.ref a), .val (.ref b)] [] := by first | (simp [entryFrame, mkF, argsToLocals, Value.category]; done) | rfl
set_option maxRecDepth 65536 in
set_option maxHeartbeats 40000000 in
theorem own_rms13 (l : Launch) (Z : State) (a0 : Array Value) (hw : ∀ d ∈ tables_1, d.before a0 Z = true) (a b : Addr) (h0 : Heap) (n0 : Nat) (g_a : n0 ≤ a) (O : Old Z n0 h0) (cs : Int32) (hcs : cs ≠ 0) (S_cs : Sta Z Z.heap "java/lang/String" "COMPACT_STRINGS" "Z" (.int cs)) (u0 u1 u2 : Int32) (hu0 : ¬ (255 : Int32) < u0) (hu1 : ¬ (255 : Int32) < u1) (hu2 : ¬ (255 : Int32) < u2) (w0 w1 : Value) (E_a : Exa Z h0 a "java/lang/String") (F_value_a : Fld Z h0 a "java/lang/String" "value" "[B" w0) (F_coder_a : Fld Z h0 a "java/lang/String" "coder" "B" w1) (kb : ClassId) (V_b : own_Ar Z h0 b kb .char [.int u0, .int u1, .int u2]) :
    own_C l Z (⟨"java/lang/String", "<init>", "([C)V"⟩ : MethodName) jdk_42_method_3_code 2 none [] ({ frames := 3, cells := 1, slots := 3, locals := 52 } : Room) #[(.ref a), (.ref b)] h0 (fun v h L => v = none ∧ Fr n0 L ∧ Keep h0 h [a] ∧ ∃ c kc, Fld Z h a "java/lang/String" "value" "[B" (.ref c) ∧ Fld Z h a "java/lang/String" "coder" "B" (.int 0) ∧ own_Ar Z h c kc .byte [.int (own_bv u0), .int (own_bv u1), .int (own_bv u2)] ∧ h0.size ≤ c ∧ n0 ≤ c) := by
  refine own_body (plainFor_of_name own_pn1) fun p e s m below meth c s₁ hx hby hml hret hlk hown hnm hZ X0 e0 => ?_
  rw [own_efs13 m a b]
  have N0 := Fr.nil n0
  have K := Keep.refl h0 [a]
  have ne_a_b : a ≠ b := by
    obtain ⟨cb, Ab, -⟩ := V_b
    exact ne_arr E_a (hw _ (List.mem_of_getElem? (i := 6) rfl)) Ab
  refine own_go (U' := s₁.setTop (mkF m 1 #[.val (.ref a), .val (.ref b)] [(.ref a)])) (fun t k => XS.aloadN X0.here hx rfl (hb hby ds11_0) rfl rfl k) ?_
  refine own_go (U' := s₁.setTop (mkF m 2 #[.val (.ref a), .val (.ref b)] [(.ref b), (.ref a)])) (fun t k => XS.aloadN X0.here hx rfl (hb hby ds11_1) rfl rfl k) ?_
  refine own_go (U' := s₁.setTop (mkF m 3 #[.val (.ref a), .val (.ref b)] [(.int (0 : Int32)), (.ref b), (.ref a)])) (fun t k => XS.iconst X0.here hx rfl (hb hby ds11_2) k) ?_
  refine own_go (U' := s₁.setTop (mkF m 4 #[.val (.ref a), .val (.ref b)] [(.ref b), (.int (0 : Int32)), (.ref b), (.ref a)])) (fun t k => XS.aloadN X0.here hx rfl (hb hby ds11_3) rfl rfl k) ?_
  refine own_go (U' := s₁.setTop (mkF m 5 #[.val (.ref a), .val (.ref b)] [(.int (3 : Int32)), (.int (0 : Int32)), (.ref b), (.ref a)])) (own_arrlen X0 hx hZ e0 V_b (n := (3 : Int32)) rfl (g := (mkF m 4 #[.val (.ref a), .val (.ref b)] [(.ref b), (.int (0 : Int32)), (.ref b), (.ref a)])) rfl rfl (hb hby ds11_4)) ?_
  refine own_go (U' := s₁.setTop (mkF m 6 #[.val (.ref a), .val (.ref b)] [.null, (.int (3 : Int32)), (.int (0 : Int32)), (.ref b), (.ref a)])) (fun t k => XS.aconstNull X0.here hx rfl (hb hby ds11_5) k) ?_
  obtain ⟨v1, T1, h1, L1, e1, X1, hQ1, st1⟩ := own_callC X0 hx hZ (y := (⟨"java/lang/String", "<init>", "([CIILjava/lang/Void;)V"⟩ : MethodName)) rfl hown (hw _ (List.mem_of_getElem? (i := 11) rfl)) (hw _ (List.mem_of_getElem? (i := 12) rfl)) (hw _ (List.mem_of_getElem? (i := 7) rfl)) (hw _ (List.mem_of_getElem? (i := 14) rfl)) (by decide) (a := a) (own_rms43 l Z a0 hw a b h0 n0 g_a O cs hcs S_cs u0 u1 u2 hu0 hu1 hu2 _ _ E_a F_value_a F_coder_a _ V_b) (W := 0) (by decide) (by decide) (g := (mkF m 6 #[.val (.ref a), .val (.ref b)] [.null, (.int (3 : Int32)), (.int (0 : Int32)), (.ref b), (.ref a)])) rfl (by rw [hml]; rfl) (argsL := [(.ref b), (.int (0 : Int32)), (.int (3 : Int32)), .null]) (rest := []) (lenOf own_pd3 rfl) rfl rfl (by show 2 * 0 + _ ≤ _; exact Nat.le_of_eq rfl) (hb hby ds11_6) e0 (by decide) (by decide)
  obtain ⟨rfl, Nq, Kq, c', kc, Fv, Fc, V_c', sz_c', g_c'⟩ := hQ1
  have E_a := E_a.keep Kq
  have V_b := V_b.keep Kq (ninS (Ne.symm ne_a_b) nin0)
  have K := K.trans Kq (allS (Or.inl (List.mem_of_getElem? (i := 0) rfl)) all0)
  have O := O.keep Kq (allS g_a all0)
  have N1 := Fr.app N0 Nq
  refine own_go (U' := T1.setTop (mkF m 9 #[.val (.ref a), .val (.ref b)] [])) st1 ?_
  refine own_retV X1 hx hret hlk (hb hby ds11_9) ?_ (by decide) (by decide)
  rw [e1]
  exact ⟨rfl, N1, K, _, _, Fv, Fc, V_c', sz_c', g_c'⟩
theorem own_efs40 (m : MethodId) (a b : Addr) : entryFrame m #[(.ref a), (.ref b), (.int (0 : Int32)), (.int (0 : Int32)), .null] 6 = mkF m 0 #[.val (.ref a), .val (.ref b), .val (.int (0 : Int32)), .val (.int (0 : Int32)), .val .null, .unset] [] := by first | (simp [entryFrame, mkF, argsToLocals, Value.category]; done) | rfl
set_option maxRecDepth 65536 in
set_option maxHeartbeats 40000000 in
theorem own_rms40 (l : Launch) (Z : State) (a0 : Array Value) (hw : ∀ d ∈ tables_1, d.before a0 Z = true) (a b : Addr) (h0 : Heap) (n0 : Nat) (g_a : n0 ≤ a) (O : Old Z n0 h0) (Ts : List String) (hnot : "" ∉ Ts) (hhE : Jvm.Lit.constHeld Z "java/lang/String" 7) (hcw : Jvm.Lit.compactW.before a0 Z = true) (w0 w1 : Value) (E_a : Exa Z h0 a "java/lang/String") (F_value_a : Fld Z h0 a "java/lang/String" "value" "[B" w0) (F_coder_a : Fld Z h0 a "java/lang/String" "coder" "B" w1) (kb : ClassId) (V_b : own_Ar Z h0 b kb .char []) :
    own_CW l Z (⟨"java/lang/String", "<init>", "([CIILjava/lang/Void;)V"⟩ : MethodName) jdk_42_method_149_code 6 none [] ({ frames := 1, cells := 2, slots := 4, locals := 12 } : Room) #[(.ref a), (.ref b), (.int (0 : Int32)), (.int (0 : Int32)), .null] h0 Ts (fun v h L Ts' => v = none ∧ Fr n0 L ∧ Ts' = "" :: Ts ∧ Keep h0 h [a] ∧ ∃ c kc, Fld Z h a "java/lang/String" "value" "[B" (.ref c) ∧ Fld Z h a "java/lang/String" "coder" "B" (.int 0) ∧ own_Ar Z h c kc .byte []) := by
  refine own_bodyW (plainFor_of_name own_pn1) fun p e s m below meth c s₁ hx hby hml hret hlk hown hnm hZ X0 e0 hs0 Sn I => ?_
  rw [own_efs40 m a b]
  have N0 := Fr.nil n0
  have K := Keep.refl h0 [a]
  have ne_a_b : a ≠ b := by
    obtain ⟨cb, Ab, -⟩ := V_b
    exact ne_arr E_a (hw _ (List.mem_of_getElem? (i := 6) rfl)) Ab
  refine own_goW (U' := s₁.setTop (mkF m 1 #[.val (.ref a), .val (.ref b), .val (.int (0 : Int32)), .val (.int (0 : Int32)), .val .null, .unset] [(.ref a)])) (fun t k => XS.aloadN X0.here hx rfl (hb hby ds41_0) rfl rfl k) ?_
  obtain ⟨T1, X1, e1, st1⟩ := initO X0 hx hZ hown (hw _ (List.mem_of_getElem? (i := 15) rfl)) (hw _ (List.mem_of_getElem? (i := 16) rfl)) (hw _ (List.mem_of_getElem? (i := 17) rfl)) e0 (g := (mkF m 1 #[.val (.ref a), .val (.ref b), .val (.int (0 : Int32)), .val (.int (0 : Int32)), .val .null, .unset] [(.ref a)])) rfl (by rw [hml]; rfl) rfl (hb hby ds41_1) (by decide) (W := 0) (by show 2 * 0 + _ ≤ _; exact Nat.le_of_eq rfl) (by decide)
  refine own_goW (U' := T1.setTop (mkF m 4 #[.val (.ref a), .val (.ref b), .val (.int (0 : Int32)), .val (.int (0 : Int32)), .val .null, .unset] [])) st1 ?_
  refine own_goW (U' := T1.setTop (mkF m 5 #[.val (.ref a), .val (.ref b), .val (.int (0 : Int32)), .val (.int (0 : Int32)), .val .null, .unset] [(.int (0 : Int32))])) (fun t k => XS.iloadN X1.here hx rfl (hb hby ds41_4) rfl k) ?_
  refine own_goW (U' := T1.setTop (mkF m 8 #[.val (.ref a), .val (.ref b), .val (.int (0 : Int32)), .val (.int (0 : Int32)), .val .null, .unset] [])) (fun t k => XS.ifNo X1.here hx rfl (hb hby ds41_5) rfl ((if0 _ _).trans (teq (by decide)).2) k) ?_
  refine own_goW (U' := T1.setTop (mkF m 9 #[.val (.ref a), .val (.ref b), .val (.int (0 : Int32)), .val (.int (0 : Int32)), .val .null, .unset] [(.ref a)])) (fun t k => XS.aloadN X1.here hx rfl (hb hby ds41_8) rfl rfl k) ?_
  obtain ⟨x, T2, h2, vx, k2, vm2, X2, e2, E2, Sn, hZ, hown, E_x, F_coder_x, F_value_x, V_vx, I, Lt2, st2⟩ := own_ldcW X1 hx hZ hown (hw _ (List.mem_of_getElem? (i := 18) rfl)) (own_wS hw) e1 Sn (Fr.nil _) (fun b cl q => hs0 ▸ O.2.2 b cl q) I hnot hhE hcw (vs := []) (by decide +kernel) (by decide) (g := (mkF m 9 #[.val (.ref a), .val (.ref b), .val (.int (0 : Int32)), .val (.int (0 : Int32)), .val .null, .unset] [(.ref a)])) rfl (hb hby ds41_9) (n := 0) (by decide) (by decide) (by decide) (by decide)
  have E_a := E_a.ext E2
  have F_value_a := F_value_a.ext E2
  have F_coder_a := F_coder_a.ext E2
  have V_b := V_b.ext E2
  have K := K.ext E2
  have O := O.ext E2
  refine own_goW (U' := T2.setTop (mkF m 11 #[.val (.ref a), .val (.ref b), .val (.int (0 : Int32)), .val (.int (0 : Int32)), .val .null, .unset] [(.ref x), (.ref a)])) st2 ?_
  have ne_a_vx : a ≠ vx := by
    obtain ⟨cb, Ab, -⟩ := V_vx
    exact ne_arr E_a (hw _ (List.mem_of_getElem? (i := 6) rfl)) Ab
  obtain ⟨T3, X3, e3, st3⟩ := getF X2 hx hZ hown (host := "") (Or.inl (hw _ (List.mem_of_getElem? (i := 24) rfl))) Via.refl e2 F_value_x (g := (mkF m 11 #[.val (.ref a), .val (.ref b), .val (.int (0 : Int32)), .val (.int (0 : Int32)), .val .null, .unset] [(.ref x), (.ref a)])) rfl rfl (hb hby ds41_11)
  refine own_goW (U' := T3.setTop (mkF m 14 #[.val (.ref a), .val (.ref b), .val (.int (0 : Int32)), .val (.int (0 : Int32)), .val .null, .unset] [(.ref vx), (.ref a)])) st3 ?_
  obtain ⟨T4, h4, X4, e4, W4, st4⟩ := putF X3 hx hZ hown (host := "") (Or.inl (hw _ (List.mem_of_getElem? (i := 24) rfl))) Via.refl e3 F_value_a E_a (Or.inr ⟨(hw _ (List.mem_of_getElem? (i := 20) rfl)), rfl, hnm⟩) (hw _ (List.mem_of_getElem? (i := 6) rfl)) (ty := (.array .byte)) (by decide) rfl rfl (g := (mkF m 14 #[.val (.ref a), .val (.ref b), .val (.int (0 : Int32)), .val (.int (0 : Int32)), .val .null, .unset] [(.ref vx), (.ref a)])) rfl rfl (hb hby ds41_14)
  have Sn := Sn.wr W4
  have E_a := E_a.wr W4
  have F_coder_a := F_coder_a.other W4 (Or.inr (slot_ne (Or.inr (hw _ (List.mem_of_getElem? (i := 21) rfl))) (Or.inr (hw _ (List.mem_of_getElem? (i := 20) rfl))) (by decide) (t := .byte) (t' := (.array .byte)) (by decide) (by decide)))
  have V_b := V_b.other W4 (Ne.symm ne_a_b)
  have K := K.wr W4 (Or.inl (List.mem_of_getElem? (i := 0) rfl))
  have O := O.wr W4 g_a
  have E_x := E_x.wr W4
  have F_coder_x := F_coder_x.other W4 (Or.inr (slot_ne (Or.inr (hw _ (List.mem_of_getElem? (i := 21) rfl))) (Or.inr (hw _ (List.mem_of_getElem? (i := 20) rfl))) (by decide) (t := .byte) (t' := (.array .byte)) (by decide) (by decide)))
  have V_vx := V_vx.other W4 (Ne.symm ne_a_vx)
  have F_value_a := F_value_a.same W4
  have N4 := Fr.snoc X4 N0 g_a
  refine own_goW (U' := T4.setTop (mkF m 17 #[.val (.ref a), .val (.ref b), .val (.int (0 : Int32)), .val (.int (0 : Int32)), .val .null, .unset] [])) st4 ?_
  refine own_goW (U' := T4.setTop (mkF m 18 #[.val (.ref a), .val (.ref b), .val (.int (0 : Int32)), .val (.int (0 : Int32)), .val .null, .unset] [(.ref a)])) (fun t k => XS.aloadN X4.here hx rfl (hb hby ds41_17) rfl rfl k) ?_
  refine own_goW (U' := T4.setTop (mkF m 20 #[.val (.ref a), .val (.ref b), .val (.int (0 : Int32)), .val (.int (0 : Int32)), .val .null, .unset] [(.ref x), (.ref a)])) (own_ldcA X4 hx hZ hown (hw _ (List.mem_of_getElem? (i := 18) rfl)) Lt2 (g := (mkF m 18 #[.val (.ref a), .val (.ref b), .val (.int (0 : Int32)), .val (.int (0 : Int32)), .val .null, .unset] [(.ref a)])) rfl (hb hby ds41_18)) ?_
  obtain ⟨T5, X5, e5, st5⟩ := getF X4 hx hZ hown (host := "") (Or.inl (hw _ (List.mem_of_getElem? (i := 25) rfl))) Via.refl e4 F_coder_x (g := (mkF m 20 #[.val (.ref a), .val (.ref b), .val (.int (0 : Int32)), .val (.int (0 : Int32)), .val .null, .unset] [(.ref x), (.ref a)])) rfl rfl (hb hby ds41_20)
  refine own_goW (U' := T5.setTop (mkF m 23 #[.val (.ref a), .val (.ref b), .val (.int (0 : Int32)), .val (.int (0 : Int32)), .val .null, .unset] [(.int (0 : Int32)), (.ref a)])) st5 ?_
  obtain ⟨T6, h6, X6, e6, W6, st6⟩ := putFN X5 hx hZ hown (hw _ (List.mem_of_getElem? (i := 25) rfl)) Via.refl e5 F_coder_a E_a (Or.inr ⟨(hw _ (List.mem_of_getElem? (i := 21) rfl)), rfl, hnm⟩) (hw _ (List.mem_of_getElem? (i := 6) rfl)) (ty := .byte) (v' := (.int (0 : Int32).toInt8.toInt32)) (by decide) rfl (fits_nar_byte _) (g := (mkF m 23 #[.val (.ref a), .val (.ref b), .val (.int (0 : Int32)), .val (.int (0 : Int32)), .val .null, .unset] [(.int (0 : Int32)), (.ref a)])) rfl rfl (hb hby ds41_23)
  have Sn := Sn.wr W6
  have E_a := E_a.wr W6
  have F_value_a := F_value_a.other W6 (Or.inr (slot_ne (Or.inr (hw _ (List.mem_of_getElem? (i := 20) rfl))) (Or.inr (hw _ (List.mem_of_getElem? (i := 21) rfl))) (by decide) (t := (.array .byte)) (t' := .byte) (by decide) (by decide)))
  have V_b := V_b.other W6 (Ne.symm ne_a_b)
  have K := K.wr W6 (Or.inl (List.mem_of_getElem? (i := 0) rfl))
  have O := O.wr W6 g_a
  have E_x := E_x.wr W6
  have V_vx := V_vx.other W6 (Ne.symm ne_a_vx)
  have F_coder_a := F_coder_a.same W6
  have N6 := Fr.snoc X6 N4 g_a
  refine own_goW (U' := T6.setTop (mkF m 26 #[.val (.ref a), .val (.ref b), .val (.int (0 : Int32)), .val (.int (0 : Int32)), .val .null, .unset] [])) st6 ?_
  refine own_retWV X6 hx Sn e6 I hret hlk (hb hby ds41_26) ?_ (by decide) (by decide)
  rw [e6]
  rw [show (0 : Int32).toInt8.toInt32 = 0 from by decide] at F_coder_a
  exact ⟨rfl, N6, rfl, K, _, _, F_value_a, F_coder_a, V_vx⟩
theorem own_efs10 (m : MethodId) (a b : Addr) : entryFrame m #[(.ref a), (.ref b)] 2 = mkF m 0 #[.val (.ref a), .val (.ref b)] [] := by first | (simp [entryFrame, mkF, argsToLocals, Value.category]; done) | rfl
set_option maxRecDepth 65536 in
set_option maxHeartbeats 40000000 in
theorem own_rms10 (l : Launch) (Z : State) (a0 : Array Value) (hw : ∀ d ∈ tables_1, d.before a0 Z = true) (a b : Addr) (h0 : Heap) (n0 : Nat) (g_a : n0 ≤ a) (O : Old Z n0 h0) (Ts : List String) (hnot : "" ∉ Ts) (hhE : Jvm.Lit.constHeld Z "java/lang/String" 7) (hcw : Jvm.Lit.compactW.before a0 Z = true) (w0 w1 : Value) (E_a : Exa Z h0 a "java/lang/String") (F_value_a : Fld Z h0 a "java/lang/String" "value" "[B" w0) (F_coder_a : Fld Z h0 a "java/lang/String" "coder" "B" w1) (kb : ClassId) (V_b : own_Ar Z h0 b kb .char []) :
    own_CW l Z (⟨"java/lang/String", "<init>", "([C)V"⟩ : MethodName) jdk_42_method_3_code 2 none [] ({ frames := 2, cells := 2, slots := 4, locals := 29 } : Room) #[(.ref a), (.ref b)] h0 Ts (fun v h L Ts' => v = none ∧ Fr n0 L ∧ Ts' = "" :: Ts ∧ Keep h0 h [a] ∧ ∃ c kc, Fld Z h a "java/lang/String" "value" "[B" (.ref c) ∧ Fld Z h a "java/lang/String" "coder" "B" (.int 0) ∧ own_Ar Z h c kc .byte []) := by
  refine own_bodyW (plainFor_of_name own_pn1) fun p e s m below meth c s₁ hx hby hml hret hlk hown hnm hZ X0 e0 hs0 Sn I => ?_
  rw [own_efs10 m a b]
  have N0 := Fr.nil n0
  have K := Keep.refl h0 [a]
  have ne_a_b : a ≠ b := by
    obtain ⟨cb, Ab, -⟩ := V_b
    exact ne_arr E_a (hw _ (List.mem_of_getElem? (i := 6) rfl)) Ab
  refine own_goW (U' := s₁.setTop (mkF m 1 #[.val (.ref a), .val (.ref b)] [(.ref a)])) (fun t k => XS.aloadN X0.here hx rfl (hb hby ds11_0) rfl rfl k) ?_
  refine own_goW (U' := s₁.setTop (mkF m 2 #[.val (.ref a), .val (.ref b)] [(.ref b), (.ref a)])) (fun t k => XS.aloadN X0.here hx rfl (hb hby ds11_1) rfl rfl k) ?_
  refine own_goW (U' := s₁.setTop (mkF m 3 #[.val (.ref a), .val (.ref b)] [(.int (0 : Int32)), (.ref b), (.ref a)])) (fun t k => XS.iconst X0.here hx rfl (hb hby ds11_2) k) ?_
  refine own_goW (U' := s₁.setTop (mkF m 4 #[.val (.ref a), .val (.ref b)] [(.ref b), (.int (0 : Int32)), (.ref b), (.ref a)])) (fun t k => XS.aloadN X0.here hx rfl (hb hby ds11_3) rfl rfl k) ?_
  refine own_goW (U' := s₁.setTop (mkF m 5 #[.val (.ref a), .val (.ref b)] [(.int (0 : Int32)), (.int (0 : Int32)), (.ref b), (.ref a)])) (own_arrlen X0 hx hZ e0 V_b (n := (0 : Int32)) rfl (g := (mkF m 4 #[.val (.ref a), .val (.ref b)] [(.ref b), (.int (0 : Int32)), (.ref b), (.ref a)])) rfl rfl (hb hby ds11_4)) ?_
  refine own_goW (U' := s₁.setTop (mkF m 6 #[.val (.ref a), .val (.ref b)] [.null, (.int (0 : Int32)), (.int (0 : Int32)), (.ref b), (.ref a)])) (fun t k => XS.aconstNull X0.here hx rfl (hb hby ds11_5) k) ?_
  obtain ⟨v1, T1, h1, L1, Ts1, vm1, e1, X1, hQ1, Sn, I, hZ, hown, st1⟩ := own_callCW X0 hx hZ (y := (⟨"java/lang/String", "<init>", "([CIILjava/lang/Void;)V"⟩ : MethodName)) rfl hown (hw _ (List.mem_of_getElem? (i := 11) rfl)) (hw _ (List.mem_of_getElem? (i := 12) rfl)) (hw _ (List.mem_of_getElem? (i := 7) rfl)) (hw _ (List.mem_of_getElem? (i := 14) rfl)) (by decide) Sn I (a := a) (own_rms40 l Z a0 hw a b h0 n0 g_a O Ts hnot hhE hcw _ _ E_a F_value_a F_coder_a _ V_b) (W := 0) (by decide) (by decide) (g := (mkF m 6 #[.val (.ref a), .val (.ref b)] [.null, (.int (0 : Int32)), (.int (0 : Int32)), (.ref b), (.ref a)])) rfl (by rw [hml]; rfl) (argsL := [(.ref b), (.int (0 : Int32)), (.int (0 : Int32)), .null]) (rest := []) (lenOf own_pd3 rfl) rfl rfl (by show 2 * 0 + _ ≤ _; exact Nat.le_of_eq rfl) (hb hby ds11_6) e0 (by decide) (by decide)
  obtain ⟨rfl, Nq, rfl, Kq, c', kc, Fv, Fc, V_c'⟩ := hQ1
  have E_a := E_a.keep Kq
  have V_b := V_b.keep Kq (ninS (Ne.symm ne_a_b) nin0)
  have K := K.trans Kq (allS (Or.inl (List.mem_of_getElem? (i := 0) rfl)) all0)
  have O := O.keep Kq (allS g_a all0)
  have N1 := Fr.app N0 Nq
  refine own_goW (U' := T1.setTop (mkF m 9 #[.val (.ref a), .val (.ref b)] [])) st1 ?_
  refine own_retWV X1 hx Sn e1 I hret hlk (hb hby ds11_9) ?_ (by decide) (by decide)
  rw [e1]
  exact ⟨rfl, N1, rfl, K, _, _, Fv, Fc, V_c'⟩
theorem own_pd6 : parseMethodDescriptor "([B[B)Z" = some ⟨[(.array .byte), (.array .byte)], some .boolean⟩ := by decide +kernel
theorem own_pd7 : parseMethodDescriptor "(Ljava/lang/Object;)Z" = some ⟨[(.object "java/lang/Object")], some .boolean⟩ := by decide +kernel
theorem dlq10_0 : decode jdk_43_method_13_code 0 = .ok (.aload_n 0, 1) := by decide +kernel
theorem dlq10_1 : decode jdk_43_method_13_code 1 = .ok (.arraylength, 1) := by decide +kernel
theorem dlq10_2 : decode jdk_43_method_13_code 2 = .ok (.aload_n 1, 1) := by decide +kernel
theorem dlq10_3 : decode jdk_43_method_13_code 3 = .ok (.arraylength, 1) := by decide +kernel
theorem dlq10_4 : decode jdk_43_method_13_code 4 = .ok (.if_icmp .ne 30, 3) := by decide +kernel
theorem dlq10_7 : decode jdk_43_method_13_code 7 = .ok (.iconst 0, 1) := by decide +kernel
theorem dlq10_8 : decode jdk_43_method_13_code 8 = .ok (.istore_n 2, 1) := by decide +kernel
theorem dlq10_9 : decode jdk_43_method_13_code 9 = .ok (.iload_n 2, 1) := by decide +kernel
theorem dlq10_10 : decode jdk_43_method_13_code 10 = .ok (.aload_n 0, 1) := by decide +kernel
theorem dlq10_11 : decode jdk_43_method_13_code 11 = .ok (.arraylength, 1) := by decide +kernel
theorem dlq10_12 : decode jdk_43_method_13_code 12 = .ok (.if_icmp .ge 20, 3) := by decide +kernel
theorem dlq10_15 : decode jdk_43_method_13_code 15 = .ok (.aload_n 0, 1) := by decide +kernel
theorem dlq10_16 : decode jdk_43_method_13_code 16 = .ok (.iload_n 2, 1) := by decide +kernel
theorem dlq10_17 : decode jdk_43_method_13_code 17 = .ok (.baload, 1) := by decide +kernel
theorem dlq10_18 : decode jdk_43_method_13_code 18 = .ok (.aload_n 1, 1) := by decide +kernel
theorem dlq10_19 : decode jdk_43_method_13_code 19 = .ok (.iload_n 2, 1) := by decide +kernel
theorem dlq10_20 : decode jdk_43_method_13_code 20 = .ok (.baload, 1) := by decide +kernel
theorem dlq10_21 : decode jdk_43_method_13_code 21 = .ok (.if_icmp .eq 5, 3) := by decide +kernel
theorem dlq10_24 : decode jdk_43_method_13_code 24 = .ok (.iconst 0, 1) := by decide +kernel
theorem dlq10_25 : decode jdk_43_method_13_code 25 = .ok (.ireturn, 1) := by decide +kernel
theorem dlq10_26 : decode jdk_43_method_13_code 26 = .ok (.iinc 2 1, 3) := by decide +kernel
theorem dlq10_29 : decode jdk_43_method_13_code 29 = .ok (.goto (-20), 3) := by decide +kernel
theorem dlq10_32 : decode jdk_43_method_13_code 32 = .ok (.iconst 1, 1) := by decide +kernel
theorem dlq10_33 : decode jdk_43_method_13_code 33 = .ok (.ireturn, 1) := by decide +kernel
theorem dlq10_34 : decode jdk_43_method_13_code 34 = .ok (.iconst 0, 1) := by decide +kernel
theorem dlq10_35 : decode jdk_43_method_13_code 35 = .ok (.ireturn, 1) := by decide +kernel
theorem own_pn2 : plainName "java/lang/StringLatin1" = true := by first | (simp [plainName, overriddenIn]; done) | decide +kernel
theorem own_eflq10 (m : MethodId) (a b : Addr) : entryFrame m #[(.ref a), (.ref b)] 3 = mkF m 0 #[.val (.ref a), .val (.ref b), .unset] [] := by first | (simp [entryFrame, mkF, argsToLocals, Value.category]; done) | rfl
set_option maxRecDepth 65536 in
set_option maxHeartbeats 40000000 in
theorem own_rmlq10 (l : Launch) (Z : State) (a0 : Array Value) (hw : ∀ d ∈ tables_1, d.before a0 Z = true) (a b : Addr) (h0 : Heap) (x0 : Int32) (k k' : ClassId) (V_a : own_Ar Z h0 a k .byte [.int x0]) (V_b : own_Ar Z h0 b k' .byte []) :
    own_C l Z (⟨"java/lang/StringLatin1", "equals", "([B[B)Z"⟩ : MethodName) jdk_43_method_13_code 3 (some .boolean) [] ({ frames := 0, cells := 0, slots := 0, locals := 0 } : Room) #[(.ref a), (.ref b)] h0 (fun v h L => v = some (.int (0 : Int32)) ∧ L = [] ∧ h = h0) := by
  refine own_body (plainFor_of_name own_pn2) fun p e s m below meth c s₁ hx hby hml hret hlk hown hnm hZ X0 e0 => ?_
  rw [own_eflq10 m a b]
  refine own_go (U' := s₁.setTop (mkF m 1 #[.val (.ref a), .val (.ref b), .unset] [(.ref a)])) (fun t k => XS.aloadN X0.here hx rfl (hb hby dlq10_0) rfl rfl k) ?_
  refine own_go (U' := s₁.setTop (mkF m 2 #[.val (.ref a), .val (.ref b), .unset] [(.int (1 : Int32))])) (own_arrlen X0 hx hZ e0 V_a (n := (1 : Int32)) rfl (g := (mkF m 1 #[.val (.ref a), .val (.ref b), .unset] [(.ref a)])) rfl rfl (hb hby dlq10_1)) ?_
  refine own_go (U' := s₁.setTop (mkF m 3 #[.val (.ref a), .val (.ref b), .unset] [(.ref b), (.int (1 : Int32))])) (fun t k => XS.aloadN X0.here hx rfl (hb hby dlq10_2) rfl rfl k) ?_
  refine own_go (U' := s₁.setTop (mkF m 4 #[.val (.ref a), .val (.ref b), .unset] [(.int (0 : Int32)), (.int (1 : Int32))])) (own_arrlen X0 hx hZ e0 V_b (n := (0 : Int32)) rfl (g := (mkF m 3 #[.val (.ref a), .val (.ref b), .unset] [(.ref b), (.int (1 : Int32))])) rfl rfl (hb hby dlq10_3)) ?_
  refine own_go (U' := s₁.setTop (mkF m 34 #[.val (.ref a), .val (.ref b), .unset] [])) (fun t k => XS.icmpYes X0.here hx rfl (pc0 := 4) (pc' := 34) rfl (hb hby dlq10_4) rfl (feq (by decide)).2 (by decide) (by decide) k) ?_
  refine own_go (U' := s₁.setTop (mkF m 35 #[.val (.ref a), .val (.ref b), .unset] [(.int (0 : Int32))])) (fun t k => XS.iconst X0.here hx rfl (hb hby dlq10_34) k) ?_
  refine own_retN X0 hx (t := .boolean) hret (by simp) hlk (hb hby dlq10_35) ?_ (by decide) (by decide)
  exact ⟨rfl, rfl, e0⟩
theorem deq10_0 : decode jdk_42_method_66_code 0 = .ok (.aload_n 0, 1) := by decide +kernel
theorem deq10_1 : decode jdk_42_method_66_code 1 = .ok (.aload_n 1, 1) := by decide +kernel
theorem deq10_2 : decode jdk_42_method_66_code 2 = .ok (.if_acmp .ne 5, 3) := by decide +kernel
theorem deq10_5 : decode jdk_42_method_66_code 5 = .ok (.iconst 1, 1) := by decide +kernel
theorem deq10_6 : decode jdk_42_method_66_code 6 = .ok (.ireturn, 1) := by decide +kernel
theorem deq10_7 : decode jdk_42_method_66_code 7 = .ok (.aload_n 1, 1) := by decide +kernel
theorem deq10_8 : decode jdk_42_method_66_code 8 = .ok (.instanceof 10, 3) := by decide +kernel
theorem deq10_11 : decode jdk_42_method_66_code 11 = .ok (.ifCond .eq 43, 3) := by decide +kernel
theorem deq10_14 : decode jdk_42_method_66_code 14 = .ok (.aload_n 1, 1) := by decide +kernel
theorem deq10_15 : decode jdk_42_method_66_code 15 = .ok (.checkcast 10, 3) := by decide +kernel
theorem deq10_18 : decode jdk_42_method_66_code 18 = .ok (.astore_n 2, 1) := by decide +kernel
theorem deq10_19 : decode jdk_42_method_66_code 19 = .ok (.getstatic 38, 3) := by decide +kernel
theorem deq10_22 : decode jdk_42_method_66_code 22 = .ok (.ifCond .eq 14, 3) := by decide +kernel
theorem deq10_25 : decode jdk_42_method_66_code 25 = .ok (.aload_n 0, 1) := by decide +kernel
theorem deq10_26 : decode jdk_42_method_66_code 26 = .ok (.getfield 15, 3) := by decide +kernel
theorem deq10_29 : decode jdk_42_method_66_code 29 = .ok (.aload_n 2, 1) := by decide +kernel
theorem deq10_30 : decode jdk_42_method_66_code 30 = .ok (.getfield 15, 3) := by decide +kernel
theorem deq10_33 : decode jdk_42_method_66_code 33 = .ok (.if_icmp .ne 21, 3) := by decide +kernel
theorem deq10_36 : decode jdk_42_method_66_code 36 = .ok (.aload_n 0, 1) := by decide +kernel
theorem deq10_37 : decode jdk_42_method_66_code 37 = .ok (.getfield 9, 3) := by decide +kernel
theorem deq10_40 : decode jdk_42_method_66_code 40 = .ok (.aload_n 2, 1) := by decide +kernel
theorem deq10_41 : decode jdk_42_method_66_code 41 = .ok (.getfield 9, 3) := by decide +kernel
theorem deq10_44 : decode jdk_42_method_66_code 44 = .ok (.invokestatic 541, 3) := by decide +kernel
theorem deq10_47 : decode jdk_42_method_66_code 47 = .ok (.ifCond .eq 7, 3) := by decide +kernel
theorem deq10_50 : decode jdk_42_method_66_code 50 = .ok (.iconst 1, 1) := by decide +kernel
theorem deq10_51 : decode jdk_42_method_66_code 51 = .ok (.goto 4, 3) := by decide +kernel
theorem deq10_54 : decode jdk_42_method_66_code 54 = .ok (.iconst 0, 1) := by decide +kernel
theorem deq10_55 : decode jdk_42_method_66_code 55 = .ok (.ireturn, 1) := by decide +kernel
theorem own_efeq10 (m : MethodId) (a x : Addr) : entryFrame m #[(.ref a), (.ref x)] 3 = mkF m 0 #[.val (.ref a), .val (.ref x), .unset] [] := by first | (simp [entryFrame, mkF, argsToLocals, Value.category]; done) | rfl
set_option maxRecDepth 65536 in
set_option maxHeartbeats 40000000 in
theorem own_rmeq10 (l : Launch) (Z : State) (a0 : Array Value) (hw : ∀ d ∈ tables_1, d.before a0 Z = true) (a x : Addr) (h0 : Heap) (n0 : Nat) (O : Old Z n0 h0) (cs : Int32) (hcs : cs ≠ 0) (S_cs : Sta Z Z.heap "java/lang/String" "COMPACT_STRINGS" "Z" (.int cs)) (x0 : Int32) (b y : Addr) (k k' : ClassId) (E_a : Exa Z h0 a "java/lang/String") (F_coder_a : Fld Z h0 a "java/lang/String" "coder" "B" (.int 0)) (F_value_a : Fld Z h0 a "java/lang/String" "value" "[B" (.ref b)) (V_b : own_Ar Z h0 b k .byte [.int x0]) (E_x : Exa Z h0 x "java/lang/String") (F_coder_x : Fld Z h0 x "java/lang/String" "coder" "B" (.int 0)) (F_value_x : Fld Z h0 x "java/lang/String" "value" "[B" (.ref y)) (V_y : own_Ar Z h0 y k' .byte []) :
    own_C l Z (⟨"java/lang/String", "equals", "(Ljava/lang/Object;)Z"⟩ : MethodName) jdk_42_method_66_code 3 (some .boolean) [] ({ frames := 1, cells := 0, slots := 0, locals := 14 } : Room) #[(.ref a), (.ref x)] h0 (fun v h L => v = some (.int (0 : Int32)) ∧ L = [] ∧ h = h0) := by
  refine own_body (plainFor_of_name own_pn1) fun p e s m below meth c s₁ hx hby hml hret hlk hown hnm hZ X0 e0 => ?_
  rw [own_efeq10 m a x]
  refine own_go (U' := s₁.setTop (mkF m 1 #[.val (.ref a), .val (.ref x), .unset] [(.ref a)])) (fun t k => XS.aloadN X0.here hx rfl (hb hby deq10_0) rfl rfl k) ?_
  refine own_go (U' := s₁.setTop (mkF m 2 #[.val (.ref a), .val (.ref x), .unset] [(.ref x), (.ref a)])) (fun t k => XS.aloadN X0.here hx rfl (hb hby deq10_1) rfl rfl k) ?_
  by_cases hax : a = x
  · refine own_go (U' := s₁.setTop (mkF m 5 #[.val (.ref a), .val (.ref x), .unset] [])) (fun t k => Jvm.RoadKit.acmp (g := (mkF m 2 #[.val (.ref a), .val (.ref x), .unset] [(.ref x), (.ref a)])) X0 hx rfl rfl rfl (pc0 := 2) (pc' := 5) (same := true) rfl (hb hby deq10_2) rfl (decide_eq_true (congrArg Value.ref hax)) (by decide) (by decide) k) ?_
    subst hax
    obtain rfl : b = y := Value.ref.inj (own_fldInj F_value_a F_value_x)
    have hu := own_arInj V_b V_y
    exact absurd (congrArg List.length hu) (by simp)
  · refine own_go (U' := s₁.setTop (mkF m 7 #[.val (.ref a), .val (.ref x), .unset] [])) (fun t k => Jvm.RoadKit.acmp (g := (mkF m 2 #[.val (.ref a), .val (.ref x), .unset] [(.ref x), (.ref a)])) X0 hx rfl rfl rfl (pc0 := 2) (pc' := 7) (same := false) rfl (hb hby deq10_2) rfl (decide_eq_false fun q => hax (Value.ref.inj q)) (by decide) (by decide) k) ?_
    refine own_go (U' := s₁.setTop (mkF m 8 #[.val (.ref a), .val (.ref x), .unset] [(.ref x)])) (fun t k => XS.aloadN X0.here hx rfl (hb hby deq10_7) rfl rfl k) ?_
    obtain ⟨T1, X1, e1, st1⟩ := instY X0 hx hZ hown (hw _ (List.mem_of_getElem? (i := 58) rfl)) e0 (Ins.of_exa E_x (hw _ (List.mem_of_getElem? (i := 13) rfl))) (g := (mkF m 8 #[.val (.ref a), .val (.ref x), .unset] [(.ref x)])) rfl rfl (hb hby deq10_8)
    refine own_go (U' := T1.setTop (mkF m 11 #[.val (.ref a), .val (.ref x), .unset] [(.int (1 : Int32))])) st1 ?_
    refine own_go (U' := T1.setTop (mkF m 14 #[.val (.ref a), .val (.ref x), .unset] [])) (fun t k => XS.ifNo X1.here hx rfl (hb hby deq10_11) rfl ((if0 _ _).trans (feq (by decide)).1) k) ?_
    refine own_go (U' := T1.setTop (mkF m 15 #[.val (.ref a), .val (.ref x), .unset] [(.ref x)])) (fun t k => XS.aloadN X1.here hx rfl (hb hby deq10_14) rfl rfl k) ?_
    obtain ⟨T2, X2, e2, st2⟩ := castY X1 hx hZ hown (hw _ (List.mem_of_getElem? (i := 58) rfl)) e1 (Ins.of_exa E_x (hw _ (List.mem_of_getElem? (i := 13) rfl))) (g := (mkF m 15 #[.val (.ref a), .val (.ref x), .unset] [(.ref x)])) rfl rfl (hb hby deq10_15)
    refine own_go (U' := T2.setTop (mkF m 18 #[.val (.ref a), .val (.ref x), .unset] [(.ref x)])) st2 ?_
    refine own_go (U' := T2.setTop (mkF m 19 #[.val (.ref a), .val (.ref x), .val (.ref x)] [])) (fun t k => XS.astoreN X2.here hx rfl (hb hby deq10_18) rfl rfl (l' := #[.val (.ref a), .val (.ref x), .val (.ref x)]) rfl k) ?_
    obtain ⟨T3, X3, e3, st3⟩ := getS2 X2 hx hZ hown (host := "") (Or.inl (hw _ (List.mem_of_getElem? (i := 59) rfl))) Via.refl e2 (S_cs.ext O.2) (g := (mkF m 19 #[.val (.ref a), .val (.ref x), .val (.ref x)] [])) rfl (hb hby deq10_19)
    refine own_go (U' := T3.setTop (mkF m 22 #[.val (.ref a), .val (.ref x), .val (.ref x)] [(.int cs)])) st3 ?_
    refine own_go (U' := T3.setTop (mkF m 25 #[.val (.ref a), .val (.ref x), .val (.ref x)] [])) (fun t k => XS.ifNo X3.here hx rfl (hb hby deq10_22) rfl ((if0 _ _).trans (feq hcs).1) k) ?_
    refine own_go (U' := T3.setTop (mkF m 26 #[.val (.ref a), .val (.ref x), .val (.ref x)] [(.ref a)])) (fun t k => XS.aloadN X3.here hx rfl (hb hby deq10_25) rfl rfl k) ?_
    obtain ⟨T4, X4, e4, st4⟩ := getF X3 hx hZ hown (host := "") (Or.inl (hw _ (List.mem_of_getElem? (i := 25) rfl))) Via.refl e3 F_coder_a (g := (mkF m 26 #[.val (.ref a), .val (.ref x), .val (.ref x)] [(.ref a)])) rfl rfl (hb hby deq10_26)
    refine own_go (U' := T4.setTop (mkF m 29 #[.val (.ref a), .val (.ref x), .val (.ref x)] [(.int (0 : Int32))])) st4 ?_
    refine own_go (U' := T4.setTop (mkF m 30 #[.val (.ref a), .val (.ref x), .val (.ref x)] [(.ref x), (.int (0 : Int32))])) (fun t k => XS.aloadN X4.here hx rfl (hb hby deq10_29) rfl rfl k) ?_
    obtain ⟨T5, X5, e5, st5⟩ := getF X4 hx hZ hown (host := "") (Or.inl (hw _ (List.mem_of_getElem? (i := 25) rfl))) Via.refl e4 F_coder_x (g := (mkF m 30 #[.val (.ref a), .val (.ref x), .val (.ref x)] [(.ref x), (.int (0 : Int32))])) rfl rfl (hb hby deq10_30)
    refine own_go (U' := T5.setTop (mkF m 33 #[.val (.ref a), .val (.ref x), .val (.ref x)] [(.int (0 : Int32)), (.int (0 : Int32))])) st5 ?_
    refine own_go (U' := T5.setTop (mkF m 36 #[.val (.ref a), .val (.ref x), .val (.ref x)] [])) (fun t k => XS.icmpNo X5.here hx rfl (hb hby deq10_33) rfl (teq (by decide)).2 k) ?_
    refine own_go (U' := T5.setTop (mkF m 37 #[.val (.ref a), .val (.ref x), .val (.ref x)] [(.ref a)])) (fun t k => XS.aloadN X5.here hx rfl (hb hby deq10_36) rfl rfl k) ?_
    obtain ⟨T6, X6, e6, st6⟩ := getF X5 hx hZ hown (host := "") (Or.inl (hw _ (List.mem_of_getElem? (i := 24) rfl))) Via.refl e5 F_value_a (g := (mkF m 37 #[.val (.ref a), .val (.ref x), .val (.ref x)] [(.ref a)])) rfl rfl (hb hby deq10_37)
    refine own_go (U' := T6.setTop (mkF m 40 #[.val (.ref a), .val (.ref x), .val (.ref x)] [(.ref b)])) st6 ?_
    refine own_go (U' := T6.setTop (mkF m 41 #[.val (.ref a), .val (.ref x), .val (.ref x)] [(.ref x), (.ref b)])) (fun t k => XS.aloadN X6.here hx rfl (hb hby deq10_40) rfl rfl k) ?_
    obtain ⟨T7, X7, e7, st7⟩ := getF X6 hx hZ hown (host := "") (Or.inl (hw _ (List.mem_of_getElem? (i := 24) rfl))) Via.refl e6 F_value_x (g := (mkF m 41 #[.val (.ref a), .val (.ref x), .val (.ref x)] [(.ref x), (.ref b)])) rfl rfl (hb hby deq10_41)
    refine own_go (U' := T7.setTop (mkF m 44 #[.val (.ref a), .val (.ref x), .val (.ref x)] [(.ref y), (.ref b)])) st7 ?_
    obtain ⟨v8, T8, h8, L8, e8, X8, hQ8, st8⟩ := own_callS X7 hx hZ (y := (⟨"java/lang/StringLatin1", "equals", "([B[B)Z"⟩ : MethodName)) hown (hw _ (List.mem_of_getElem? (i := 60) rfl)) (hw _ (List.mem_of_getElem? (i := 61) rfl)) (hw _ (List.mem_of_getElem? (i := 62) rfl)) (hw _ (List.mem_of_getElem? (i := 63) rfl)) (by decide) (own_rmlq10 l Z a0 hw b y h0 x0 _ _ V_b V_y) (W := 0) (by decide) (by decide) (g := (mkF m 44 #[.val (.ref a), .val (.ref x), .val (.ref x)] [(.ref y), (.ref b)])) rfl (by rw [hml]; rfl) (argsL := [(.ref b), (.ref y)]) (rest := []) (lenOf own_pd6 rfl) rfl rfl (by show 2 * 0 + _ ≤ _; exact Nat.le_of_eq rfl) (hb hby deq10_44) e7 (by decide) (by decide)
    obtain ⟨rfl, rfl, eh8⟩ := hQ8
    have e8 := e8.trans eh8
    rw [List.append_nil] at X8
    refine own_go (U' := T8.setTop (mkF m 47 #[.val (.ref a), .val (.ref x), .val (.ref x)] [(.int (0 : Int32))])) st8 ?_
    refine own_go (U' := T8.setTop (mkF m 54 #[.val (.ref a), .val (.ref x), .val (.ref x)] [])) (fun t k => XS.ifYes X8.here hx rfl (pc0 := 47) (pc' := 54) rfl (hb hby deq10_47) rfl ((if0 _ _).trans (teq (by decide)).1) (by decide) (by decide) k) ?_
    refine own_go (U' := T8.setTop (mkF m 55 #[.val (.ref a), .val (.ref x), .val (.ref x)] [(.int (0 : Int32))])) (fun t k => XS.iconst X8.here hx rfl (hb hby deq10_54) k) ?_
    refine own_retN X8 hx (t := .boolean) hret (by simp) hlk (hb hby deq10_55) ?_ (by decide) (by decide)
    exact ⟨rfl, rfl, e8⟩
theorem own_eflq11 (m : MethodId) (a b : Addr) : entryFrame m #[(.ref a), (.ref b)] 3 = mkF m 0 #[.val (.ref a), .val (.ref b), .unset] [] := by first | (simp [entryFrame, mkF, argsToLocals, Value.category]; done) | rfl
set_option maxRecDepth 65536 in
set_option maxHeartbeats 40000000 in
theorem own_rmlq11 (l : Launch) (Z : State) (a0 : Array Value) (hw : ∀ d ∈ tables_1, d.before a0 Z = true) (a b : Addr) (h0 : Heap) (x0 y0 : Int32) (k k' : ClassId) (V_a : own_Ar Z h0 a k .byte [.int x0]) (V_b : own_Ar Z h0 b k' .byte [.int y0]) :
    own_C l Z (⟨"java/lang/StringLatin1", "equals", "([B[B)Z"⟩ : MethodName) jdk_43_method_13_code 3 (some .boolean) [] ({ frames := 0, cells := 0, slots := 0, locals := 0 } : Room) #[(.ref a), (.ref b)] h0 (fun v h L => v = some (.int (if x0 = y0 then (1 : Int32) else 0)) ∧ L = [] ∧ h = h0) := by
  refine own_body (plainFor_of_name own_pn2) fun p e s m below meth c s₁ hx hby hml hret hlk hown hnm hZ X0 e0 => ?_
  rw [own_eflq11 m a b]
  refine own_go (U' := s₁.setTop (mkF m 1 #[.val (.ref a), .val (.ref b), .unset] [(.ref a)])) (fun t k => XS.aloadN X0.here hx rfl (hb hby dlq10_0) rfl rfl k) ?_
  refine own_go (U' := s₁.setTop (mkF m 2 #[.val (.ref a), .val (.ref b), .unset] [(.int (1 : Int32))])) (own_arrlen X0 hx hZ e0 V_a (n := (1 : Int32)) rfl (g := (mkF m 1 #[.val (.ref a), .val (.ref b), .unset] [(.ref a)])) rfl rfl (hb hby dlq10_1)) ?_
  refine own_go (U' := s₁.setTop (mkF m 3 #[.val (.ref a), .val (.ref b), .unset] [(.ref b), (.int (1 : Int32))])) (fun t k => XS.aloadN X0.here hx rfl (hb hby dlq10_2) rfl rfl k) ?_
  refine own_go (U' := s₁.setTop (mkF m 4 #[.val (.ref a), .val (.ref b), .unset] [(.int (1 : Int32)), (.int (1 : Int32))])) (own_arrlen X0 hx hZ e0 V_b (n := (1 : Int32)) rfl (g := (mkF m 3 #[.val (.ref a), .val (.ref b), .unset] [(.ref b), (.int (1 : Int32))])) rfl rfl (hb hby dlq10_3)) ?_
  refine own_go (U' := s₁.setTop (mkF m 7 #[.val (.ref a), .val (.ref b), .unset] [])) (fun t k => XS.icmpNo X0.here hx rfl (hb hby dlq10_4) rfl (teq (by decide)).2 k) ?_
  refine own_go (U' := s₁.setTop (mkF m 8 #[.val (.ref a), .val (.ref b), .unset] [(.int (0 : Int32))])) (fun t k => XS.iconst X0.here hx rfl (hb hby dlq10_7) k) ?_
  refine own_go (U' := s₁.setTop (mkF m 9 #[.val (.ref a), .val (.ref b), .val (.int (0 : Int32))] [])) (fun t k => XS.istoreN X0.here hx rfl (hb hby dlq10_8) rfl (l' := #[.val (.ref a), .val (.ref b), .val (.int (0 : Int32))]) rfl k) ?_
  refine own_go (U' := s₁.setTop (mkF m 10 #[.val (.ref a), .val (.ref b), .val (.int (0 : Int32))] [(.int (0 : Int32))])) (fun t k => XS.iloadN X0.here hx rfl (hb hby dlq10_9) rfl k) ?_
  refine own_go (U' := s₁.setTop (mkF m 11 #[.val (.ref a), .val (.ref b), .val (.int (0 : Int32))] [(.ref a), (.int (0 : Int32))])) (fun t k => XS.aloadN X0.here hx rfl (hb hby dlq10_10) rfl rfl k) ?_
  refine own_go (U' := s₁.setTop (mkF m 12 #[.val (.ref a), .val (.ref b), .val (.int (0 : Int32))] [(.int (1 : Int32)), (.int (0 : Int32))])) (own_arrlen X0 hx hZ e0 V_a (n := (1 : Int32)) rfl (g := (mkF m 11 #[.val (.ref a), .val (.ref b), .val (.int (0 : Int32))] [(.ref a), (.int (0 : Int32))])) rfl rfl (hb hby dlq10_11)) ?_
  refine own_go (U' := s₁.setTop (mkF m 15 #[.val (.ref a), .val (.ref b), .val (.int (0 : Int32))] [])) (fun t k => XS.icmpNo X0.here hx rfl (hb hby dlq10_12) rfl (tlt (by decide)).2.1 k) ?_
  refine own_go (U' := s₁.setTop (mkF m 16 #[.val (.ref a), .val (.ref b), .val (.int (0 : Int32))] [(.ref a)])) (fun t k => XS.aloadN X0.here hx rfl (hb hby dlq10_15) rfl rfl k) ?_
  refine own_go (U' := s₁.setTop (mkF m 17 #[.val (.ref a), .val (.ref b), .val (.int (0 : Int32))] [(.int (0 : Int32)), (.ref a)])) (fun t k => XS.iloadN X0.here hx rfl (hb hby dlq10_16) rfl k) ?_
  refine own_go (U' := s₁.setTop (mkF m 18 #[.val (.ref a), .val (.ref b), .val (.int (0 : Int32))] [(.int x0)])) (own_baload X0 hx hZ e0 V_a (j := (0 : Int32)) (by decide) (i := 0) rfl (v := (.int x0)) rfl (g := (mkF m 17 #[.val (.ref a), .val (.ref b), .val (.int (0 : Int32))] [(.int (0 : Int32)), (.ref a)])) rfl rfl (hb hby dlq10_17)) ?_
  refine own_go (U' := s₁.setTop (mkF m 19 #[.val (.ref a), .val (.ref b), .val (.int (0 : Int32))] [(.ref b), (.int x0)])) (fun t k => XS.aloadN X0.here hx rfl (hb hby dlq10_18) rfl rfl k) ?_
  refine own_go (U' := s₁.setTop (mkF m 20 #[.val (.ref a), .val (.ref b), .val (.int (0 : Int32))] [(.int (0 : Int32)), (.ref b), (.int x0)])) (fun t k => XS.iloadN X0.here hx rfl (hb hby dlq10_19) rfl k) ?_
  refine own_go (U' := s₁.setTop (mkF m 21 #[.val (.ref a), .val (.ref b), .val (.int (0 : Int32))] [(.int y0), (.int x0)])) (own_baload X0 hx hZ e0 V_b (j := (0 : Int32)) (by decide) (i := 0) rfl (v := (.int y0)) rfl (g := (mkF m 20 #[.val (.ref a), .val (.ref b), .val (.int (0 : Int32))] [(.int (0 : Int32)), (.ref b), (.int x0)])) rfl rfl (hb hby dlq10_20)) ?_
  by_cases hu0 : x0 = y0
  · refine own_go (U' := s₁.setTop (mkF m 26 #[.val (.ref a), .val (.ref b), .val (.int (0 : Int32))] [])) (fun t k => XS.icmpYes X0.here hx rfl (pc0 := 21) (pc' := 26) rfl (hb hby dlq10_21) rfl (teq hu0).1 (by decide) (by decide) k) ?_
    refine own_go (U' := s₁.setTop (mkF m 29 #[.val (.ref a), .val (.ref b), .val (.int (1 : Int32))] [])) (fun t k => XS.iinc X0.here hx rfl (hb hby dlq10_26) rfl (l' := #[.val (.ref a), .val (.ref b), .val (.int (1 : Int32))]) rfl k) ?_
    refine own_go (U' := s₁.setTop (mkF m 9 #[.val (.ref a), .val (.ref b), .val (.int (1 : Int32))] [])) (fun t k => XS.goto X0.here hx rfl (pc0 := 29) (pc' := 9) rfl (hb hby dlq10_29) (by decide) (by decide) k) ?_
    refine own_go (U' := s₁.setTop (mkF m 10 #[.val (.ref a), .val (.ref b), .val (.int (1 : Int32))] [(.int (1 : Int32))])) (fun t k => XS.iloadN X0.here hx rfl (hb hby dlq10_9) rfl k) ?_
    refine own_go (U' := s₁.setTop (mkF m 11 #[.val (.ref a), .val (.ref b), .val (.int (1 : Int32))] [(.ref a), (.int (1 : Int32))])) (fun t k => XS.aloadN X0.here hx rfl (hb hby dlq10_10) rfl rfl k) ?_
    refine own_go (U' := s₁.setTop (mkF m 12 #[.val (.ref a), .val (.ref b), .val (.int (1 : Int32))] [(.int (1 : Int32)), (.int (1 : Int32))])) (own_arrlen X0 hx hZ e0 V_a (n := (1 : Int32)) rfl (g := (mkF m 11 #[.val (.ref a), .val (.ref b), .val (.int (1 : Int32))] [(.ref a), (.int (1 : Int32))])) rfl rfl (hb hby dlq10_11)) ?_
    refine own_go (U' := s₁.setTop (mkF m 32 #[.val (.ref a), .val (.ref b), .val (.int (1 : Int32))] [])) (fun t k => XS.icmpYes X0.here hx rfl (pc0 := 12) (pc' := 32) rfl (hb hby dlq10_12) rfl (flt (by decide)).2.1 (by decide) (by decide) k) ?_
    refine own_go (U' := s₁.setTop (mkF m 33 #[.val (.ref a), .val (.ref b), .val (.int (1 : Int32))] [(.int (1 : Int32))])) (fun t k => XS.iconst X0.here hx rfl (hb hby dlq10_32) k) ?_
    refine own_retN X0 hx (t := .boolean) hret (by simp) hlk (hb hby dlq10_33) ?_ (by decide) (by decide)
    refine ⟨?_, rfl, e0⟩
    rw [if_pos (by simp only [hu0, and_self])]
    rfl
  · refine own_go (U' := s₁.setTop (mkF m 24 #[.val (.ref a), .val (.ref b), .val (.int (0 : Int32))] [])) (fun t k => XS.icmpNo X0.here hx rfl (hb hby dlq10_21) rfl (feq hu0).1 k) ?_
    refine own_go (U' := s₁.setTop (mkF m 25 #[.val (.ref a), .val (.ref b), .val (.int (0 : Int32))] [(.int (0 : Int32))])) (fun t k => XS.iconst X0.here hx rfl (hb hby dlq10_24) k) ?_
    refine own_retN X0 hx (t := .boolean) hret (by simp) hlk (hb hby dlq10_25) ?_ (by decide) (by decide)
    refine ⟨?_, rfl, e0⟩
    rw [if_neg (fun q => hu0 q)]
    rfl
theorem own_efeq11 (m : MethodId) (a x : Addr) : entryFrame m #[(.ref a), (.ref x)] 3 = mkF m 0 #[.val (.ref a), .val (.ref x), .unset] [] := by first | (simp [entryFrame, mkF, argsToLocals, Value.category]; done) | rfl
set_option maxRecDepth 65536 in
set_option maxHeartbeats 40000000 in
theorem own_rmeq11 (l : Launch) (Z : State) (a0 : Array Value) (hw : ∀ d ∈ tables_1, d.before a0 Z = true) (a x : Addr) (h0 : Heap) (n0 : Nat) (O : Old Z n0 h0) (cs : Int32) (hcs : cs ≠ 0) (S_cs : Sta Z Z.heap "java/lang/String" "COMPACT_STRINGS" "Z" (.int cs)) (x0 y0 : Int32) (b y : Addr) (k k' : ClassId) (E_a : Exa Z h0 a "java/lang/String") (F_coder_a : Fld Z h0 a "java/lang/String" "coder" "B" (.int 0)) (F_value_a : Fld Z h0 a "java/lang/String" "value" "[B" (.ref b)) (V_b : own_Ar Z h0 b k .byte [.int x0]) (E_x : Exa Z h0 x "java/lang/String") (F_coder_x : Fld Z h0 x "java/lang/String" "coder" "B" (.int 0)) (F_value_x : Fld Z h0 x "java/lang/String" "value" "[B" (.ref y)) (V_y : own_Ar Z h0 y k' .byte [.int y0]) :
    own_C l Z (⟨"java/lang/String", "equals", "(Ljava/lang/Object;)Z"⟩ : MethodName) jdk_42_method_66_code 3 (some .boolean) [] ({ frames := 1, cells := 0, slots := 0, locals := 14 } : Room) #[(.ref a), (.ref x)] h0 (fun v h L => v = some (.int (if x0 = y0 then (1 : Int32) else 0)) ∧ L = [] ∧ h = h0) := by
  refine own_body (plainFor_of_name own_pn1) fun p e s m below meth c s₁ hx hby hml hret hlk hown hnm hZ X0 e0 => ?_
  rw [own_efeq11 m a x]
  refine own_go (U' := s₁.setTop (mkF m 1 #[.val (.ref a), .val (.ref x), .unset] [(.ref a)])) (fun t k => XS.aloadN X0.here hx rfl (hb hby deq10_0) rfl rfl k) ?_
  refine own_go (U' := s₁.setTop (mkF m 2 #[.val (.ref a), .val (.ref x), .unset] [(.ref x), (.ref a)])) (fun t k => XS.aloadN X0.here hx rfl (hb hby deq10_1) rfl rfl k) ?_
  by_cases hax : a = x
  · refine own_go (U' := s₁.setTop (mkF m 5 #[.val (.ref a), .val (.ref x), .unset] [])) (fun t k => Jvm.RoadKit.acmp (g := (mkF m 2 #[.val (.ref a), .val (.ref x), .unset] [(.ref x), (.ref a)])) X0 hx rfl rfl rfl (pc0 := 2) (pc' := 5) (same := true) rfl (hb hby deq10_2) rfl (decide_eq_true (congrArg Value.ref hax)) (by decide) (by decide) k) ?_
    subst hax
    obtain rfl : b = y := Value.ref.inj (own_fldInj F_value_a F_value_x)
    have hu := own_arInj V_b V_y
    simp only [List.cons.injEq, Value.int.injEq, and_true] at hu
    refine own_go (U' := s₁.setTop (mkF m 6 #[.val (.ref a), .val (.ref a), .unset] [(.int (1 : Int32))])) (fun t k => XS.iconst X0.here hx rfl (hb hby deq10_5) k) ?_
    refine own_retN X0 hx (t := .boolean) hret (by simp) hlk (hb hby deq10_6) ?_ (by decide) (by decide)
    refine ⟨?_, rfl, e0⟩
    rw [if_pos hu]
    rfl
  · refine own_go (U' := s₁.setTop (mkF m 7 #[.val (.ref a), .val (.ref x), .unset] [])) (fun t k => Jvm.RoadKit.acmp (g := (mkF m 2 #[.val (.ref a), .val (.ref x), .unset] [(.ref x), (.ref a)])) X0 hx rfl rfl rfl (pc0 := 2) (pc' := 7) (same := false) rfl (hb hby deq10_2) rfl (decide_eq_false fun q => hax (Value.ref.inj q)) (by decide) (by decide) k) ?_
    refine own_go (U' := s₁.setTop (mkF m 8 #[.val (.ref a), .val (.ref x), .unset] [(.ref x)])) (fun t k => XS.aloadN X0.here hx rfl (hb hby deq10_7) rfl rfl k) ?_
    obtain ⟨T1, X1, e1, st1⟩ := instY X0 hx hZ hown (hw _ (List.mem_of_getElem? (i := 58) rfl)) e0 (Ins.of_exa E_x (hw _ (List.mem_of_getElem? (i := 13) rfl))) (g := (mkF m 8 #[.val (.ref a), .val (.ref x), .unset] [(.ref x)])) rfl rfl (hb hby deq10_8)
    refine own_go (U' := T1.setTop (mkF m 11 #[.val (.ref a), .val (.ref x), .unset] [(.int (1 : Int32))])) st1 ?_
    refine own_go (U' := T1.setTop (mkF m 14 #[.val (.ref a), .val (.ref x), .unset] [])) (fun t k => XS.ifNo X1.here hx rfl (hb hby deq10_11) rfl ((if0 _ _).trans (feq (by decide)).1) k) ?_
    refine own_go (U' := T1.setTop (mkF m 15 #[.val (.ref a), .val (.ref x), .unset] [(.ref x)])) (fun t k => XS.aloadN X1.here hx rfl (hb hby deq10_14) rfl rfl k) ?_
    obtain ⟨T2, X2, e2, st2⟩ := castY X1 hx hZ hown (hw _ (List.mem_of_getElem? (i := 58) rfl)) e1 (Ins.of_exa E_x (hw _ (List.mem_of_getElem? (i := 13) rfl))) (g := (mkF m 15 #[.val (.ref a), .val (.ref x), .unset] [(.ref x)])) rfl rfl (hb hby deq10_15)
    refine own_go (U' := T2.setTop (mkF m 18 #[.val (.ref a), .val (.ref x), .unset] [(.ref x)])) st2 ?_
    refine own_go (U' := T2.setTop (mkF m 19 #[.val (.ref a), .val (.ref x), .val (.ref x)] [])) (fun t k => XS.astoreN X2.here hx rfl (hb hby deq10_18) rfl rfl (l' := #[.val (.ref a), .val (.ref x), .val (.ref x)]) rfl k) ?_
    obtain ⟨T3, X3, e3, st3⟩ := getS2 X2 hx hZ hown (host := "") (Or.inl (hw _ (List.mem_of_getElem? (i := 59) rfl))) Via.refl e2 (S_cs.ext O.2) (g := (mkF m 19 #[.val (.ref a), .val (.ref x), .val (.ref x)] [])) rfl (hb hby deq10_19)
    refine own_go (U' := T3.setTop (mkF m 22 #[.val (.ref a), .val (.ref x), .val (.ref x)] [(.int cs)])) st3 ?_
    refine own_go (U' := T3.setTop (mkF m 25 #[.val (.ref a), .val (.ref x), .val (.ref x)] [])) (fun t k => XS.ifNo X3.here hx rfl (hb hby deq10_22) rfl ((if0 _ _).trans (feq hcs).1) k) ?_
    refine own_go (U' := T3.setTop (mkF m 26 #[.val (.ref a), .val (.ref x), .val (.ref x)] [(.ref a)])) (fun t k => XS.aloadN X3.here hx rfl (hb hby deq10_25) rfl rfl k) ?_
    obtain ⟨T4, X4, e4, st4⟩ := getF X3 hx hZ hown (host := "") (Or.inl (hw _ (List.mem_of_getElem? (i := 25) rfl))) Via.refl e3 F_coder_a (g := (mkF m 26 #[.val (.ref a), .val (.ref x), .val (.ref x)] [(.ref a)])) rfl rfl (hb hby deq10_26)
    refine own_go (U' := T4.setTop (mkF m 29 #[.val (.ref a), .val (.ref x), .val (.ref x)] [(.int (0 : Int32))])) st4 ?_
    refine own_go (U' := T4.setTop (mkF m 30 #[.val (.ref a), .val (.ref x), .val (.ref x)] [(.ref x), (.int (0 : Int32))])) (fun t k => XS.aloadN X4.here hx rfl (hb hby deq10_29) rfl rfl k) ?_
    obtain ⟨T5, X5, e5, st5⟩ := getF X4 hx hZ hown (host := "") (Or.inl (hw _ (List.mem_of_getElem? (i := 25) rfl))) Via.refl e4 F_coder_x (g := (mkF m 30 #[.val (.ref a), .val (.ref x), .val (.ref x)] [(.ref x), (.int (0 : Int32))])) rfl rfl (hb hby deq10_30)
    refine own_go (U' := T5.setTop (mkF m 33 #[.val (.ref a), .val (.ref x), .val (.ref x)] [(.int (0 : Int32)), (.int (0 : Int32))])) st5 ?_
    refine own_go (U' := T5.setTop (mkF m 36 #[.val (.ref a), .val (.ref x), .val (.ref x)] [])) (fun t k => XS.icmpNo X5.here hx rfl (hb hby deq10_33) rfl (teq (by decide)).2 k) ?_
    refine own_go (U' := T5.setTop (mkF m 37 #[.val (.ref a), .val (.ref x), .val (.ref x)] [(.ref a)])) (fun t k => XS.aloadN X5.here hx rfl (hb hby deq10_36) rfl rfl k) ?_
    obtain ⟨T6, X6, e6, st6⟩ := getF X5 hx hZ hown (host := "") (Or.inl (hw _ (List.mem_of_getElem? (i := 24) rfl))) Via.refl e5 F_value_a (g := (mkF m 37 #[.val (.ref a), .val (.ref x), .val (.ref x)] [(.ref a)])) rfl rfl (hb hby deq10_37)
    refine own_go (U' := T6.setTop (mkF m 40 #[.val (.ref a), .val (.ref x), .val (.ref x)] [(.ref b)])) st6 ?_
    refine own_go (U' := T6.setTop (mkF m 41 #[.val (.ref a), .val (.ref x), .val (.ref x)] [(.ref x), (.ref b)])) (fun t k => XS.aloadN X6.here hx rfl (hb hby deq10_40) rfl rfl k) ?_
    obtain ⟨T7, X7, e7, st7⟩ := getF X6 hx hZ hown (host := "") (Or.inl (hw _ (List.mem_of_getElem? (i := 24) rfl))) Via.refl e6 F_value_x (g := (mkF m 41 #[.val (.ref a), .val (.ref x), .val (.ref x)] [(.ref x), (.ref b)])) rfl rfl (hb hby deq10_41)
    refine own_go (U' := T7.setTop (mkF m 44 #[.val (.ref a), .val (.ref x), .val (.ref x)] [(.ref y), (.ref b)])) st7 ?_
    obtain ⟨v8, T8, h8, L8, e8, X8, hQ8, st8⟩ := own_callS X7 hx hZ (y := (⟨"java/lang/StringLatin1", "equals", "([B[B)Z"⟩ : MethodName)) hown (hw _ (List.mem_of_getElem? (i := 60) rfl)) (hw _ (List.mem_of_getElem? (i := 61) rfl)) (hw _ (List.mem_of_getElem? (i := 62) rfl)) (hw _ (List.mem_of_getElem? (i := 63) rfl)) (by decide) (own_rmlq11 l Z a0 hw b y h0 x0 y0 _ _ V_b V_y) (W := 0) (by decide) (by decide) (g := (mkF m 44 #[.val (.ref a), .val (.ref x), .val (.ref x)] [(.ref y), (.ref b)])) rfl (by rw [hml]; rfl) (argsL := [(.ref b), (.ref y)]) (rest := []) (lenOf own_pd6 rfl) rfl rfl (by show 2 * 0 + _ ≤ _; exact Nat.le_of_eq rfl) (hb hby deq10_44) e7 (by decide) (by decide)
    obtain ⟨rfl, rfl, eh8⟩ := hQ8
    have e8 := e8.trans eh8
    rw [List.append_nil] at X8
    refine own_go (U' := T8.setTop (mkF m 47 #[.val (.ref a), .val (.ref x), .val (.ref x)] [(.int (if x0 = y0 then (1 : Int32) else 0))])) st8 ?_
    by_cases hu : x0 = y0
    · rw [if_pos hu]
      refine own_go (U' := T8.setTop (mkF m 50 #[.val (.ref a), .val (.ref x), .val (.ref x)] [])) (fun t k => XS.ifNo X8.here hx rfl (hb hby deq10_47) rfl ((if0 _ _).trans (feq (by decide)).1) k) ?_
      refine own_go (U' := T8.setTop (mkF m 51 #[.val (.ref a), .val (.ref x), .val (.ref x)] [(.int (1 : Int32))])) (fun t k => XS.iconst X8.here hx rfl (hb hby deq10_50) k) ?_
      refine own_go (U' := T8.setTop (mkF m 55 #[.val (.ref a), .val (.ref x), .val (.ref x)] [(.int (1 : Int32))])) (fun t k => XS.goto X8.here hx rfl (pc0 := 51) (pc' := 55) rfl (hb hby deq10_51) (by decide) (by decide) k) ?_
      refine own_retN X8 hx (t := .boolean) hret (by simp) hlk (hb hby deq10_55) ?_ (by decide) (by decide)
      exact ⟨rfl, rfl, e8⟩
    · rw [if_neg hu]
      refine own_go (U' := T8.setTop (mkF m 54 #[.val (.ref a), .val (.ref x), .val (.ref x)] [])) (fun t k => XS.ifYes X8.here hx rfl (pc0 := 47) (pc' := 54) rfl (hb hby deq10_47) rfl ((if0 _ _).trans (teq (by decide)).1) (by decide) (by decide) k) ?_
      refine own_go (U' := T8.setTop (mkF m 55 #[.val (.ref a), .val (.ref x), .val (.ref x)] [(.int (0 : Int32))])) (fun t k => XS.iconst X8.here hx rfl (hb hby deq10_54) k) ?_
      refine own_retN X8 hx (t := .boolean) hret (by simp) hlk (hb hby deq10_55) ?_ (by decide) (by decide)
      exact ⟨rfl, rfl, e8⟩
theorem own_eflq12 (m : MethodId) (a b : Addr) : entryFrame m #[(.ref a), (.ref b)] 3 = mkF m 0 #[.val (.ref a), .val (.ref b), .unset] [] := by first | (simp [entryFrame, mkF, argsToLocals, Value.category]; done) | rfl
set_option maxRecDepth 65536 in
set_option maxHeartbeats 40000000 in
theorem own_rmlq12 (l : Launch) (Z : State) (a0 : Array Value) (hw : ∀ d ∈ tables_1, d.before a0 Z = true) (a b : Addr) (h0 : Heap) (x0 y0 y1 : Int32) (k k' : ClassId) (V_a : own_Ar Z h0 a k .byte [.int x0]) (V_b : own_Ar Z h0 b k' .byte [.int y0, .int y1]) :
    own_C l Z (⟨"java/lang/StringLatin1", "equals", "([B[B)Z"⟩ : MethodName) jdk_43_method_13_code 3 (some .boolean) [] ({ frames := 0, cells := 0, slots := 0, locals := 0 } : Room) #[(.ref a), (.ref b)] h0 (fun v h L => v = some (.int (0 : Int32)) ∧ L = [] ∧ h = h0) := by
  refine own_body (plainFor_of_name own_pn2) fun p e s m below meth c s₁ hx hby hml hret hlk hown hnm hZ X0 e0 => ?_
  rw [own_eflq12 m a b]
  refine own_go (U' := s₁.setTop (mkF m 1 #[.val (.ref a), .val (.ref b), .unset] [(.ref a)])) (fun t k => XS.aloadN X0.here hx rfl (hb hby dlq10_0) rfl rfl k) ?_
  refine own_go (U' := s₁.setTop (mkF m 2 #[.val (.ref a), .val (.ref b), .unset] [(.int (1 : Int32))])) (own_arrlen X0 hx hZ e0 V_a (n := (1 : Int32)) rfl (g := (mkF m 1 #[.val (.ref a), .val (.ref b), .unset] [(.ref a)])) rfl rfl (hb hby dlq10_1)) ?_
  refine own_go (U' := s₁.setTop (mkF m 3 #[.val (.ref a), .val (.ref b), .unset] [(.ref b), (.int (1 : Int32))])) (fun t k => XS.aloadN X0.here hx rfl (hb hby dlq10_2) rfl rfl k) ?_
  refine own_go (U' := s₁.setTop (mkF m 4 #[.val (.ref a), .val (.ref b), .unset] [(.int (2 : Int32)), (.int (1 : Int32))])) (own_arrlen X0 hx hZ e0 V_b (n := (2 : Int32)) rfl (g := (mkF m 3 #[.val (.ref a), .val (.ref b), .unset] [(.ref b), (.int (1 : Int32))])) rfl rfl (hb hby dlq10_3)) ?_
  refine own_go (U' := s₁.setTop (mkF m 34 #[.val (.ref a), .val (.ref b), .unset] [])) (fun t k => XS.icmpYes X0.here hx rfl (pc0 := 4) (pc' := 34) rfl (hb hby dlq10_4) rfl (feq (by decide)).2 (by decide) (by decide) k) ?_
  refine own_go (U' := s₁.setTop (mkF m 35 #[.val (.ref a), .val (.ref b), .unset] [(.int (0 : Int32))])) (fun t k => XS.iconst X0.here hx rfl (hb hby dlq10_34) k) ?_
  refine own_retN X0 hx (t := .boolean) hret (by simp) hlk (hb hby dlq10_35) ?_ (by decide) (by decide)
  exact ⟨rfl, rfl, e0⟩
theorem own_efeq12 (m : MethodId) (a x : Addr) : entryFrame m #[(.ref a), (.ref x)] 3 = mkF m 0 #[.val (.ref a), .val (.ref x), .unset] [] := by first | (simp [entryFrame, mkF, argsToLocals, Value.category]; done) | rfl
set_option maxRecDepth 65536 in
set_option maxHeartbeats 40000000 in
theorem own_rmeq12 (l : Launch) (Z : State) (a0 : Array Value) (hw : ∀ d ∈ tables_1, d.before a0 Z = true) (a x : Addr) (h0 : Heap) (n0 : Nat) (O : Old Z n0 h0) (cs : Int32) (hcs : cs ≠ 0) (S_cs : Sta Z Z.heap "java/lang/String" "COMPACT_STRINGS" "Z" (.int cs)) (x0 y0 y1 : Int32) (b y : Addr) (k k' : ClassId) (E_a : Exa Z h0 a "java/lang/String") (F_coder_a : Fld Z h0 a "java/lang/String" "coder" "B" (.int 0)) (F_value_a : Fld Z h0 a "java/lang/String" "value" "[B" (.ref b)) (V_b : own_Ar Z h0 b k .byte [.int x0]) (E_x : Exa Z h0 x "java/lang/String") (F_coder_x : Fld Z h0 x "java/lang/String" "coder" "B" (.int 0)) (F_value_x : Fld Z h0 x "java/lang/String" "value" "[B" (.ref y)) (V_y : own_Ar Z h0 y k' .byte [.int y0, .int y1]) :
    own_C l Z (⟨"java/lang/String", "equals", "(Ljava/lang/Object;)Z"⟩ : MethodName) jdk_42_method_66_code 3 (some .boolean) [] ({ frames := 1, cells := 0, slots := 0, locals := 14 } : Room) #[(.ref a), (.ref x)] h0 (fun v h L => v = some (.int (0 : Int32)) ∧ L = [] ∧ h = h0) := by
  refine own_body (plainFor_of_name own_pn1) fun p e s m below meth c s₁ hx hby hml hret hlk hown hnm hZ X0 e0 => ?_
  rw [own_efeq12 m a x]
  refine own_go (U' := s₁.setTop (mkF m 1 #[.val (.ref a), .val (.ref x), .unset] [(.ref a)])) (fun t k => XS.aloadN X0.here hx rfl (hb hby deq10_0) rfl rfl k) ?_
  refine own_go (U' := s₁.setTop (mkF m 2 #[.val (.ref a), .val (.ref x), .unset] [(.ref x), (.ref a)])) (fun t k => XS.aloadN X0.here hx rfl (hb hby deq10_1) rfl rfl k) ?_
  by_cases hax : a = x
  · refine own_go (U' := s₁.setTop (mkF m 5 #[.val (.ref a), .val (.ref x), .unset] [])) (fun t k => Jvm.RoadKit.acmp (g := (mkF m 2 #[.val (.ref a), .val (.ref x), .unset] [(.ref x), (.ref a)])) X0 hx rfl rfl rfl (pc0 := 2) (pc' := 5) (same := true) rfl (hb hby deq10_2) rfl (decide_eq_true (congrArg Value.ref hax)) (by decide) (by decide) k) ?_
    subst hax
    obtain rfl : b = y := Value.ref.inj (own_fldInj F_value_a F_value_x)
    have hu := own_arInj V_b V_y
    exact absurd (congrArg List.length hu) (by simp)
  · refine own_go (U' := s₁.setTop (mkF m 7 #[.val (.ref a), .val (.ref x), .unset] [])) (fun t k => Jvm.RoadKit.acmp (g := (mkF m 2 #[.val (.ref a), .val (.ref x), .unset] [(.ref x), (.ref a)])) X0 hx rfl rfl rfl (pc0 := 2) (pc' := 7) (same := false) rfl (hb hby deq10_2) rfl (decide_eq_false fun q => hax (Value.ref.inj q)) (by decide) (by decide) k) ?_
    refine own_go (U' := s₁.setTop (mkF m 8 #[.val (.ref a), .val (.ref x), .unset] [(.ref x)])) (fun t k => XS.aloadN X0.here hx rfl (hb hby deq10_7) rfl rfl k) ?_
    obtain ⟨T1, X1, e1, st1⟩ := instY X0 hx hZ hown (hw _ (List.mem_of_getElem? (i := 58) rfl)) e0 (Ins.of_exa E_x (hw _ (List.mem_of_getElem? (i := 13) rfl))) (g := (mkF m 8 #[.val (.ref a), .val (.ref x), .unset] [(.ref x)])) rfl rfl (hb hby deq10_8)
    refine own_go (U' := T1.setTop (mkF m 11 #[.val (.ref a), .val (.ref x), .unset] [(.int (1 : Int32))])) st1 ?_
    refine own_go (U' := T1.setTop (mkF m 14 #[.val (.ref a), .val (.ref x), .unset] [])) (fun t k => XS.ifNo X1.here hx rfl (hb hby deq10_11) rfl ((if0 _ _).trans (feq (by decide)).1) k) ?_
    refine own_go (U' := T1.setTop (mkF m 15 #[.val (.ref a), .val (.ref x), .unset] [(.ref x)])) (fun t k => XS.aloadN X1.here hx rfl (hb hby deq10_14) rfl rfl k) ?_
    obtain ⟨T2, X2, e2, st2⟩ := castY X1 hx hZ hown (hw _ (List.mem_of_getElem? (i := 58) rfl)) e1 (Ins.of_exa E_x (hw _ (List.mem_of_getElem? (i := 13) rfl))) (g := (mkF m 15 #[.val (.ref a), .val (.ref x), .unset] [(.ref x)])) rfl rfl (hb hby deq10_15)
    refine own_go (U' := T2.setTop (mkF m 18 #[.val (.ref a), .val (.ref x), .unset] [(.ref x)])) st2 ?_
    refine own_go (U' := T2.setTop (mkF m 19 #[.val (.ref a), .val (.ref x), .val (.ref x)] [])) (fun t k => XS.astoreN X2.here hx rfl (hb hby deq10_18) rfl rfl (l' := #[.val (.ref a), .val (.ref x), .val (.ref x)]) rfl k) ?_
    obtain ⟨T3, X3, e3, st3⟩ := getS2 X2 hx hZ hown (host := "") (Or.inl (hw _ (List.mem_of_getElem? (i := 59) rfl))) Via.refl e2 (S_cs.ext O.2) (g := (mkF m 19 #[.val (.ref a), .val (.ref x), .val (.ref x)] [])) rfl (hb hby deq10_19)
    refine own_go (U' := T3.setTop (mkF m 22 #[.val (.ref a), .val (.ref x), .val (.ref x)] [(.int cs)])) st3 ?_
    refine own_go (U' := T3.setTop (mkF m 25 #[.val (.ref a), .val (.ref x), .val (.ref x)] [])) (fun t k => XS.ifNo X3.here hx rfl (hb hby deq10_22) rfl ((if0 _ _).trans (feq hcs).1) k) ?_
    refine own_go (U' := T3.setTop (mkF m 26 #[.val (.ref a), .val (.ref x), .val (.ref x)] [(.ref a)])) (fun t k => XS.aloadN X3.here hx rfl (hb hby deq10_25) rfl rfl k) ?_
    obtain ⟨T4, X4, e4, st4⟩ := getF X3 hx hZ hown (host := "") (Or.inl (hw _ (List.mem_of_getElem? (i := 25) rfl))) Via.refl e3 F_coder_a (g := (mkF m 26 #[.val (.ref a), .val (.ref x), .val (.ref x)] [(.ref a)])) rfl rfl (hb hby deq10_26)
    refine own_go (U' := T4.setTop (mkF m 29 #[.val (.ref a), .val (.ref x), .val (.ref x)] [(.int (0 : Int32))])) st4 ?_
    refine own_go (U' := T4.setTop (mkF m 30 #[.val (.ref a), .val (.ref x), .val (.ref x)] [(.ref x), (.int (0 : Int32))])) (fun t k => XS.aloadN X4.here hx rfl (hb hby deq10_29) rfl rfl k) ?_
    obtain ⟨T5, X5, e5, st5⟩ := getF X4 hx hZ hown (host := "") (Or.inl (hw _ (List.mem_of_getElem? (i := 25) rfl))) Via.refl e4 F_coder_x (g := (mkF m 30 #[.val (.ref a), .val (.ref x), .val (.ref x)] [(.ref x), (.int (0 : Int32))])) rfl rfl (hb hby deq10_30)
    refine own_go (U' := T5.setTop (mkF m 33 #[.val (.ref a), .val (.ref x), .val (.ref x)] [(.int (0 : Int32)), (.int (0 : Int32))])) st5 ?_
    refine own_go (U' := T5.setTop (mkF m 36 #[.val (.ref a), .val (.ref x), .val (.ref x)] [])) (fun t k => XS.icmpNo X5.here hx rfl (hb hby deq10_33) rfl (teq (by decide)).2 k) ?_
    refine own_go (U' := T5.setTop (mkF m 37 #[.val (.ref a), .val (.ref x), .val (.ref x)] [(.ref a)])) (fun t k => XS.aloadN X5.here hx rfl (hb hby deq10_36) rfl rfl k) ?_
    obtain ⟨T6, X6, e6, st6⟩ := getF X5 hx hZ hown (host := "") (Or.inl (hw _ (List.mem_of_getElem? (i := 24) rfl))) Via.refl e5 F_value_a (g := (mkF m 37 #[.val (.ref a), .val (.ref x), .val (.ref x)] [(.ref a)])) rfl rfl (hb hby deq10_37)
    refine own_go (U' := T6.setTop (mkF m 40 #[.val (.ref a), .val (.ref x), .val (.ref x)] [(.ref b)])) st6 ?_
    refine own_go (U' := T6.setTop (mkF m 41 #[.val (.ref a), .val (.ref x), .val (.ref x)] [(.ref x), (.ref b)])) (fun t k => XS.aloadN X6.here hx rfl (hb hby deq10_40) rfl rfl k) ?_
    obtain ⟨T7, X7, e7, st7⟩ := getF X6 hx hZ hown (host := "") (Or.inl (hw _ (List.mem_of_getElem? (i := 24) rfl))) Via.refl e6 F_value_x (g := (mkF m 41 #[.val (.ref a), .val (.ref x), .val (.ref x)] [(.ref x), (.ref b)])) rfl rfl (hb hby deq10_41)
    refine own_go (U' := T7.setTop (mkF m 44 #[.val (.ref a), .val (.ref x), .val (.ref x)] [(.ref y), (.ref b)])) st7 ?_
    obtain ⟨v8, T8, h8, L8, e8, X8, hQ8, st8⟩ := own_callS X7 hx hZ (y := (⟨"java/lang/StringLatin1", "equals", "([B[B)Z"⟩ : MethodName)) hown (hw _ (List.mem_of_getElem? (i := 60) rfl)) (hw _ (List.mem_of_getElem? (i := 61) rfl)) (hw _ (List.mem_of_getElem? (i := 62) rfl)) (hw _ (List.mem_of_getElem? (i := 63) rfl)) (by decide) (own_rmlq12 l Z a0 hw b y h0 x0 y0 y1 _ _ V_b V_y) (W := 0) (by decide) (by decide) (g := (mkF m 44 #[.val (.ref a), .val (.ref x), .val (.ref x)] [(.ref y), (.ref b)])) rfl (by rw [hml]; rfl) (argsL := [(.ref b), (.ref y)]) (rest := []) (lenOf own_pd6 rfl) rfl rfl (by show 2 * 0 + _ ≤ _; exact Nat.le_of_eq rfl) (hb hby deq10_44) e7 (by decide) (by decide)
    obtain ⟨rfl, rfl, eh8⟩ := hQ8
    have e8 := e8.trans eh8
    rw [List.append_nil] at X8
    refine own_go (U' := T8.setTop (mkF m 47 #[.val (.ref a), .val (.ref x), .val (.ref x)] [(.int (0 : Int32))])) st8 ?_
    refine own_go (U' := T8.setTop (mkF m 54 #[.val (.ref a), .val (.ref x), .val (.ref x)] [])) (fun t k => XS.ifYes X8.here hx rfl (pc0 := 47) (pc' := 54) rfl (hb hby deq10_47) rfl ((if0 _ _).trans (teq (by decide)).1) (by decide) (by decide) k) ?_
    refine own_go (U' := T8.setTop (mkF m 55 #[.val (.ref a), .val (.ref x), .val (.ref x)] [(.int (0 : Int32))])) (fun t k => XS.iconst X8.here hx rfl (hb hby deq10_54) k) ?_
    refine own_retN X8 hx (t := .boolean) hret (by simp) hlk (hb hby deq10_55) ?_ (by decide) (by decide)
    exact ⟨rfl, rfl, e8⟩
theorem own_eflq13 (m : MethodId) (a b : Addr) : entryFrame m #[(.ref a), (.ref b)] 3 = mkF m 0 #[.val (.ref a), .val (.ref b), .unset] [] := by first | (simp [entryFrame, mkF, argsToLocals, Value.category]; done) | rfl
set_option maxRecDepth 65536 in
set_option maxHeartbeats 40000000 in
theorem own_rmlq13 (l : Launch) (Z : State) (a0 : Array Value) (hw : ∀ d ∈ tables_1, d.before a0 Z = true) (a b : Addr) (h0 : Heap) (x0 y0 y1 y2 : Int32) (k k' : ClassId) (V_a : own_Ar Z h0 a k .byte [.int x0]) (V_b : own_Ar Z h0 b k' .byte [.int y0, .int y1, .int y2]) :
    own_C l Z (⟨"java/lang/StringLatin1", "equals", "([B[B)Z"⟩ : MethodName) jdk_43_method_13_code 3 (some .boolean) [] ({ frames := 0, cells := 0, slots := 0, locals := 0 } : Room) #[(.ref a), (.ref b)] h0 (fun v h L => v = some (.int (0 : Int32)) ∧ L = [] ∧ h = h0) := by
  refine own_body (plainFor_of_name own_pn2) fun p e s m below meth c s₁ hx hby hml hret hlk hown hnm hZ X0 e0 => ?_
  rw [own_eflq13 m a b]
  refine own_go (U' := s₁.setTop (mkF m 1 #[.val (.ref a), .val (.ref b), .unset] [(.ref a)])) (fun t k => XS.aloadN X0.here hx rfl (hb hby dlq10_0) rfl rfl k) ?_
  refine own_go (U' := s₁.setTop (mkF m 2 #[.val (.ref a), .val (.ref b), .unset] [(.int (1 : Int32))])) (own_arrlen X0 hx hZ e0 V_a (n := (1 : Int32)) rfl (g := (mkF m 1 #[.val (.ref a), .val (.ref b), .unset] [(.ref a)])) rfl rfl (hb hby dlq10_1)) ?_
  refine own_go (U' := s₁.setTop (mkF m 3 #[.val (.ref a), .val (.ref b), .unset] [(.ref b), (.int (1 : Int32))])) (fun t k => XS.aloadN X0.here hx rfl (hb hby dlq10_2) rfl rfl k) ?_
  refine own_go (U' := s₁.setTop (mkF m 4 #[.val (.ref a), .val (.ref b), .unset] [(.int (3 : Int32)), (.int (1 : Int32))])) (own_arrlen X0 hx hZ e0 V_b (n := (3 : Int32)) rfl (g := (mkF m 3 #[.val (.ref a), .val (.ref b), .unset] [(.ref b), (.int (1 : Int32))])) rfl rfl (hb hby dlq10_3)) ?_
  refine own_go (U' := s₁.setTop (mkF m 34 #[.val (.ref a), .val (.ref b), .unset] [])) (fun t k => XS.icmpYes X0.here hx rfl (pc0 := 4) (pc' := 34) rfl (hb hby dlq10_4) rfl (feq (by decide)).2 (by decide) (by decide) k) ?_
  refine own_go (U' := s₁.setTop (mkF m 35 #[.val (.ref a), .val (.ref b), .unset] [(.int (0 : Int32))])) (fun t k => XS.iconst X0.here hx rfl (hb hby dlq10_34) k) ?_
  refine own_retN X0 hx (t := .boolean) hret (by simp) hlk (hb hby dlq10_35) ?_ (by decide) (by decide)
  exact ⟨rfl, rfl, e0⟩
theorem own_efeq13 (m : MethodId) (a x : Addr) : entryFrame m #[(.ref a), (.ref x)] 3 = mkF m 0 #[.val (.ref a), .val (.ref x), .unset] [] := by first | (simp [entryFrame, mkF, argsToLocals, Value.category]; done) | rfl
set_option maxRecDepth 65536 in
set_option maxHeartbeats 40000000 in
theorem own_rmeq13 (l : Launch) (Z : State) (a0 : Array Value) (hw : ∀ d ∈ tables_1, d.before a0 Z = true) (a x : Addr) (h0 : Heap) (n0 : Nat) (O : Old Z n0 h0) (cs : Int32) (hcs : cs ≠ 0) (S_cs : Sta Z Z.heap "java/lang/String" "COMPACT_STRINGS" "Z" (.int cs)) (x0 y0 y1 y2 : Int32) (b y : Addr) (k k' : ClassId) (E_a : Exa Z h0 a "java/lang/String") (F_coder_a : Fld Z h0 a "java/lang/String" "coder" "B" (.int 0)) (F_value_a : Fld Z h0 a "java/lang/String" "value" "[B" (.ref b)) (V_b : own_Ar Z h0 b k .byte [.int x0]) (E_x : Exa Z h0 x "java/lang/String") (F_coder_x : Fld Z h0 x "java/lang/String" "coder" "B" (.int 0)) (F_value_x : Fld Z h0 x "java/lang/String" "value" "[B" (.ref y)) (V_y : own_Ar Z h0 y k' .byte [.int y0, .int y1, .int y2]) :
    own_C l Z (⟨"java/lang/String", "equals", "(Ljava/lang/Object;)Z"⟩ : MethodName) jdk_42_method_66_code 3 (some .boolean) [] ({ frames := 1, cells := 0, slots := 0, locals := 14 } : Room) #[(.ref a), (.ref x)] h0 (fun v h L => v = some (.int (0 : Int32)) ∧ L = [] ∧ h = h0) := by
  refine own_body (plainFor_of_name own_pn1) fun p e s m below meth c s₁ hx hby hml hret hlk hown hnm hZ X0 e0 => ?_
  rw [own_efeq13 m a x]
  refine own_go (U' := s₁.setTop (mkF m 1 #[.val (.ref a), .val (.ref x), .unset] [(.ref a)])) (fun t k => XS.aloadN X0.here hx rfl (hb hby deq10_0) rfl rfl k) ?_
  refine own_go (U' := s₁.setTop (mkF m 2 #[.val (.ref a), .val (.ref x), .unset] [(.ref x), (.ref a)])) (fun t k => XS.aloadN X0.here hx rfl (hb hby deq10_1) rfl rfl k) ?_
  by_cases hax : a = x
  · refine own_go (U' := s₁.setTop (mkF m 5 #[.val (.ref a), .val (.ref x), .unset] [])) (fun t k => Jvm.RoadKit.acmp (g := (mkF m 2 #[.val (.ref a), .val (.ref x), .unset] [(.ref x), (.ref a)])) X0 hx rfl rfl rfl (pc0 := 2) (pc' := 5) (same := true) rfl (hb hby deq10_2) rfl (decide_eq_true (congrArg Value.ref hax)) (by decide) (by decide) k) ?_
    subst hax
    obtain rfl : b = y := Value.ref.inj (own_fldInj F_value_a F_value_x)
    have hu := own_arInj V_b V_y
    exact absurd (congrArg List.length hu) (by simp)
  · refine own_go (U' := s₁.setTop (mkF m 7 #[.val (.ref a), .val (.ref x), .unset] [])) (fun t k => Jvm.RoadKit.acmp (g := (mkF m 2 #[.val (.ref a), .val (.ref x), .unset] [(.ref x), (.ref a)])) X0 hx rfl rfl rfl (pc0 := 2) (pc' := 7) (same := false) rfl (hb hby deq10_2) rfl (decide_eq_false fun q => hax (Value.ref.inj q)) (by decide) (by decide) k) ?_
    refine own_go (U' := s₁.setTop (mkF m 8 #[.val (.ref a), .val (.ref x), .unset] [(.ref x)])) (fun t k => XS.aloadN X0.here hx rfl (hb hby deq10_7) rfl rfl k) ?_
    obtain ⟨T1, X1, e1, st1⟩ := instY X0 hx hZ hown (hw _ (List.mem_of_getElem? (i := 58) rfl)) e0 (Ins.of_exa E_x (hw _ (List.mem_of_getElem? (i := 13) rfl))) (g := (mkF m 8 #[.val (.ref a), .val (.ref x), .unset] [(.ref x)])) rfl rfl (hb hby deq10_8)
    refine own_go (U' := T1.setTop (mkF m 11 #[.val (.ref a), .val (.ref x), .unset] [(.int (1 : Int32))])) st1 ?_
    refine own_go (U' := T1.setTop (mkF m 14 #[.val (.ref a), .val (.ref x), .unset] [])) (fun t k => XS.ifNo X1.here hx rfl (hb hby deq10_11) rfl ((if0 _ _).trans (feq (by decide)).1) k) ?_
    refine own_go (U' := T1.setTop (mkF m 15 #[.val (.ref a), .val (.ref x), .unset] [(.ref x)])) (fun t k => XS.aloadN X1.here hx rfl (hb hby deq10_14) rfl rfl k) ?_
    obtain ⟨T2, X2, e2, st2⟩ := castY X1 hx hZ hown (hw _ (List.mem_of_getElem? (i := 58) rfl)) e1 (Ins.of_exa E_x (hw _ (List.mem_of_getElem? (i := 13) rfl))) (g := (mkF m 15 #[.val (.ref a), .val (.ref x), .unset] [(.ref x)])) rfl rfl (hb hby deq10_15)
    refine own_go (U' := T2.setTop (mkF m 18 #[.val (.ref a), .val (.ref x), .unset] [(.ref x)])) st2 ?_
    refine own_go (U' := T2.setTop (mkF m 19 #[.val (.ref a), .val (.ref x), .val (.ref x)] [])) (fun t k => XS.astoreN X2.here hx rfl (hb hby deq10_18) rfl rfl (l' := #[.val (.ref a), .val (.ref x), .val (.ref x)]) rfl k) ?_
    obtain ⟨T3, X3, e3, st3⟩ := getS2 X2 hx hZ hown (host := "") (Or.inl (hw _ (List.mem_of_getElem? (i := 59) rfl))) Via.refl e2 (S_cs.ext O.2) (g := (mkF m 19 #[.val (.ref a), .val (.ref x), .val (.ref x)] [])) rfl (hb hby deq10_19)
    refine own_go (U' := T3.setTop (mkF m 22 #[.val (.ref a), .val (.ref x), .val (.ref x)] [(.int cs)])) st3 ?_
    refine own_go (U' := T3.setTop (mkF m 25 #[.val (.ref a), .val (.ref x), .val (.ref x)] [])) (fun t k => XS.ifNo X3.here hx rfl (hb hby deq10_22) rfl ((if0 _ _).trans (feq hcs).1) k) ?_
    refine own_go (U' := T3.setTop (mkF m 26 #[.val (.ref a), .val (.ref x), .val (.ref x)] [(.ref a)])) (fun t k => XS.aloadN X3.here hx rfl (hb hby deq10_25) rfl rfl k) ?_
    obtain ⟨T4, X4, e4, st4⟩ := getF X3 hx hZ hown (host := "") (Or.inl (hw _ (List.mem_of_getElem? (i := 25) rfl))) Via.refl e3 F_coder_a (g := (mkF m 26 #[.val (.ref a), .val (.ref x), .val (.ref x)] [(.ref a)])) rfl rfl (hb hby deq10_26)
    refine own_go (U' := T4.setTop (mkF m 29 #[.val (.ref a), .val (.ref x), .val (.ref x)] [(.int (0 : Int32))])) st4 ?_
    refine own_go (U' := T4.setTop (mkF m 30 #[.val (.ref a), .val (.ref x), .val (.ref x)] [(.ref x), (.int (0 : Int32))])) (fun t k => XS.aloadN X4.here hx rfl (hb hby deq10_29) rfl rfl k) ?_
    obtain ⟨T5, X5, e5, st5⟩ := getF X4 hx hZ hown (host := "") (Or.inl (hw _ (List.mem_of_getElem? (i := 25) rfl))) Via.refl e4 F_coder_x (g := (mkF m 30 #[.val (.ref a), .val (.ref x), .val (.ref x)] [(.ref x), (.int (0 : Int32))])) rfl rfl (hb hby deq10_30)
    refine own_go (U' := T5.setTop (mkF m 33 #[.val (.ref a), .val (.ref x), .val (.ref x)] [(.int (0 : Int32)), (.int (0 : Int32))])) st5 ?_
    refine own_go (U' := T5.setTop (mkF m 36 #[.val (.ref a), .val (.ref x), .val (.ref x)] [])) (fun t k => XS.icmpNo X5.here hx rfl (hb hby deq10_33) rfl (teq (by decide)).2 k) ?_
    refine own_go (U' := T5.setTop (mkF m 37 #[.val (.ref a), .val (.ref x), .val (.ref x)] [(.ref a)])) (fun t k => XS.aloadN X5.here hx rfl (hb hby deq10_36) rfl rfl k) ?_
    obtain ⟨T6, X6, e6, st6⟩ := getF X5 hx hZ hown (host := "") (Or.inl (hw _ (List.mem_of_getElem? (i := 24) rfl))) Via.refl e5 F_value_a (g := (mkF m 37 #[.val (.ref a), .val (.ref x), .val (.ref x)] [(.ref a)])) rfl rfl (hb hby deq10_37)
    refine own_go (U' := T6.setTop (mkF m 40 #[.val (.ref a), .val (.ref x), .val (.ref x)] [(.ref b)])) st6 ?_
    refine own_go (U' := T6.setTop (mkF m 41 #[.val (.ref a), .val (.ref x), .val (.ref x)] [(.ref x), (.ref b)])) (fun t k => XS.aloadN X6.here hx rfl (hb hby deq10_40) rfl rfl k) ?_
    obtain ⟨T7, X7, e7, st7⟩ := getF X6 hx hZ hown (host := "") (Or.inl (hw _ (List.mem_of_getElem? (i := 24) rfl))) Via.refl e6 F_value_x (g := (mkF m 41 #[.val (.ref a), .val (.ref x), .val (.ref x)] [(.ref x), (.ref b)])) rfl rfl (hb hby deq10_41)
    refine own_go (U' := T7.setTop (mkF m 44 #[.val (.ref a), .val (.ref x), .val (.ref x)] [(.ref y), (.ref b)])) st7 ?_
    obtain ⟨v8, T8, h8, L8, e8, X8, hQ8, st8⟩ := own_callS X7 hx hZ (y := (⟨"java/lang/StringLatin1", "equals", "([B[B)Z"⟩ : MethodName)) hown (hw _ (List.mem_of_getElem? (i := 60) rfl)) (hw _ (List.mem_of_getElem? (i := 61) rfl)) (hw _ (List.mem_of_getElem? (i := 62) rfl)) (hw _ (List.mem_of_getElem? (i := 63) rfl)) (by decide) (own_rmlq13 l Z a0 hw b y h0 x0 y0 y1 y2 _ _ V_b V_y) (W := 0) (by decide) (by decide) (g := (mkF m 44 #[.val (.ref a), .val (.ref x), .val (.ref x)] [(.ref y), (.ref b)])) rfl (by rw [hml]; rfl) (argsL := [(.ref b), (.ref y)]) (rest := []) (lenOf own_pd6 rfl) rfl rfl (by show 2 * 0 + _ ≤ _; exact Nat.le_of_eq rfl) (hb hby deq10_44) e7 (by decide) (by decide)
    obtain ⟨rfl, rfl, eh8⟩ := hQ8
    have e8 := e8.trans eh8
    rw [List.append_nil] at X8
    refine own_go (U' := T8.setTop (mkF m 47 #[.val (.ref a), .val (.ref x), .val (.ref x)] [(.int (0 : Int32))])) st8 ?_
    refine own_go (U' := T8.setTop (mkF m 54 #[.val (.ref a), .val (.ref x), .val (.ref x)] [])) (fun t k => XS.ifYes X8.here hx rfl (pc0 := 47) (pc' := 54) rfl (hb hby deq10_47) rfl ((if0 _ _).trans (teq (by decide)).1) (by decide) (by decide) k) ?_
    refine own_go (U' := T8.setTop (mkF m 55 #[.val (.ref a), .val (.ref x), .val (.ref x)] [(.int (0 : Int32))])) (fun t k => XS.iconst X8.here hx rfl (hb hby deq10_54) k) ?_
    refine own_retN X8 hx (t := .boolean) hret (by simp) hlk (hb hby deq10_55) ?_ (by decide) (by decide)
    exact ⟨rfl, rfl, e8⟩
theorem own_eflq20 (m : MethodId) (a b : Addr) : entryFrame m #[(.ref a), (.ref b)] 3 = mkF m 0 #[.val (.ref a), .val (.ref b), .unset] [] := by first | (simp [entryFrame, mkF, argsToLocals, Value.category]; done) | rfl
set_option maxRecDepth 65536 in
set_option maxHeartbeats 40000000 in
theorem own_rmlq20 (l : Launch) (Z : State) (a0 : Array Value) (hw : ∀ d ∈ tables_1, d.before a0 Z = true) (a b : Addr) (h0 : Heap) (x0 x1 : Int32) (k k' : ClassId) (V_a : own_Ar Z h0 a k .byte [.int x0, .int x1]) (V_b : own_Ar Z h0 b k' .byte []) :
    own_C l Z (⟨"java/lang/StringLatin1", "equals", "([B[B)Z"⟩ : MethodName) jdk_43_method_13_code 3 (some .boolean) [] ({ frames := 0, cells := 0, slots := 0, locals := 0 } : Room) #[(.ref a), (.ref b)] h0 (fun v h L => v = some (.int (0 : Int32)) ∧ L = [] ∧ h = h0) := by
  refine own_body (plainFor_of_name own_pn2) fun p e s m below meth c s₁ hx hby hml hret hlk hown hnm hZ X0 e0 => ?_
  rw [own_eflq20 m a b]
  refine own_go (U' := s₁.setTop (mkF m 1 #[.val (.ref a), .val (.ref b), .unset] [(.ref a)])) (fun t k => XS.aloadN X0.here hx rfl (hb hby dlq10_0) rfl rfl k) ?_
  refine own_go (U' := s₁.setTop (mkF m 2 #[.val (.ref a), .val (.ref b), .unset] [(.int (2 : Int32))])) (own_arrlen X0 hx hZ e0 V_a (n := (2 : Int32)) rfl (g := (mkF m 1 #[.val (.ref a), .val (.ref b), .unset] [(.ref a)])) rfl rfl (hb hby dlq10_1)) ?_
  refine own_go (U' := s₁.setTop (mkF m 3 #[.val (.ref a), .val (.ref b), .unset] [(.ref b), (.int (2 : Int32))])) (fun t k => XS.aloadN X0.here hx rfl (hb hby dlq10_2) rfl rfl k) ?_
  refine own_go (U' := s₁.setTop (mkF m 4 #[.val (.ref a), .val (.ref b), .unset] [(.int (0 : Int32)), (.int (2 : Int32))])) (own_arrlen X0 hx hZ e0 V_b (n := (0 : Int32)) rfl (g := (mkF m 3 #[.val (.ref a), .val (.ref b), .unset] [(.ref b), (.int (2 : Int32))])) rfl rfl (hb hby dlq10_3)) ?_
  refine own_go (U' := s₁.setTop (mkF m 34 #[.val (.ref a), .val (.ref b), .unset] [])) (fun t k => XS.icmpYes X0.here hx rfl (pc0 := 4) (pc' := 34) rfl (hb hby dlq10_4) rfl (feq (by decide)).2 (by decide) (by decide) k) ?_
  refine own_go (U' := s₁.setTop (mkF m 35 #[.val (.ref a), .val (.ref b), .unset] [(.int (0 : Int32))])) (fun t k => XS.iconst X0.here hx rfl (hb hby dlq10_34) k) ?_
  refine own_retN X0 hx (t := .boolean) hret (by simp) hlk (hb hby dlq10_35) ?_ (by decide) (by decide)
  exact ⟨rfl, rfl, e0⟩
theorem own_efeq20 (m : MethodId) (a x : Addr) : entryFrame m #[(.ref a), (.ref x)] 3 = mkF m 0 #[.val (.ref a), .val (.ref x), .unset] [] := by first | (simp [entryFrame, mkF, argsToLocals, Value.category]; done) | rfl
set_option maxRecDepth 65536 in
set_option maxHeartbeats 40000000 in
theorem own_rmeq20 (l : Launch) (Z : State) (a0 : Array Value) (hw : ∀ d ∈ tables_1, d.before a0 Z = true) (a x : Addr) (h0 : Heap) (n0 : Nat) (O : Old Z n0 h0) (cs : Int32) (hcs : cs ≠ 0) (S_cs : Sta Z Z.heap "java/lang/String" "COMPACT_STRINGS" "Z" (.int cs)) (x0 x1 : Int32) (b y : Addr) (k k' : ClassId) (E_a : Exa Z h0 a "java/lang/String") (F_coder_a : Fld Z h0 a "java/lang/String" "coder" "B" (.int 0)) (F_value_a : Fld Z h0 a "java/lang/String" "value" "[B" (.ref b)) (V_b : own_Ar Z h0 b k .byte [.int x0, .int x1]) (E_x : Exa Z h0 x "java/lang/String") (F_coder_x : Fld Z h0 x "java/lang/String" "coder" "B" (.int 0)) (F_value_x : Fld Z h0 x "java/lang/String" "value" "[B" (.ref y)) (V_y : own_Ar Z h0 y k' .byte []) :
    own_C l Z (⟨"java/lang/String", "equals", "(Ljava/lang/Object;)Z"⟩ : MethodName) jdk_42_method_66_code 3 (some .boolean) [] ({ frames := 1, cells := 0, slots := 0, locals := 14 } : Room) #[(.ref a), (.ref x)] h0 (fun v h L => v = some (.int (0 : Int32)) ∧ L = [] ∧ h = h0) := by
  refine own_body (plainFor_of_name own_pn1) fun p e s m below meth c s₁ hx hby hml hret hlk hown hnm hZ X0 e0 => ?_
  rw [own_efeq20 m a x]
  refine own_go (U' := s₁.setTop (mkF m 1 #[.val (.ref a), .val (.ref x), .unset] [(.ref a)])) (fun t k => XS.aloadN X0.here hx rfl (hb hby deq10_0) rfl rfl k) ?_
  refine own_go (U' := s₁.setTop (mkF m 2 #[.val (.ref a), .val (.ref x), .unset] [(.ref x), (.ref a)])) (fun t k => XS.aloadN X0.here hx rfl (hb hby deq10_1) rfl rfl k) ?_
  by_cases hax : a = x
  · refine own_go (U' := s₁.setTop (mkF m 5 #[.val (.ref a), .val (.ref x), .unset] [])) (fun t k => Jvm.RoadKit.acmp (g := (mkF m 2 #[.val (.ref a), .val (.ref x), .unset] [(.ref x), (.ref a)])) X0 hx rfl rfl rfl (pc0 := 2) (pc' := 5) (same := true) rfl (hb hby deq10_2) rfl (decide_eq_true (congrArg Value.ref hax)) (by decide) (by decide) k) ?_
    subst hax
    obtain rfl : b = y := Value.ref.inj (own_fldInj F_value_a F_value_x)
    have hu := own_arInj V_b V_y
    exact absurd (congrArg List.length hu) (by simp)
  · refine own_go (U' := s₁.setTop (mkF m 7 #[.val (.ref a), .val (.ref x), .unset] [])) (fun t k => Jvm.RoadKit.acmp (g := (mkF m 2 #[.val (.ref a), .val (.ref x), .unset] [(.ref x), (.ref a)])) X0 hx rfl rfl rfl (pc0 := 2) (pc' := 7) (same := false) rfl (hb hby deq10_2) rfl (decide_eq_false fun q => hax (Value.ref.inj q)) (by decide) (by decide) k) ?_
    refine own_go (U' := s₁.setTop (mkF m 8 #[.val (.ref a), .val (.ref x), .unset] [(.ref x)])) (fun t k => XS.aloadN X0.here hx rfl (hb hby deq10_7) rfl rfl k) ?_
    obtain ⟨T1, X1, e1, st1⟩ := instY X0 hx hZ hown (hw _ (List.mem_of_getElem? (i := 58) rfl)) e0 (Ins.of_exa E_x (hw _ (List.mem_of_getElem? (i := 13) rfl))) (g := (mkF m 8 #[.val (.ref a), .val (.ref x), .unset] [(.ref x)])) rfl rfl (hb hby deq10_8)
    refine own_go (U' := T1.setTop (mkF m 11 #[.val (.ref a), .val (.ref x), .unset] [(.int (1 : Int32))])) st1 ?_
    refine own_go (U' := T1.setTop (mkF m 14 #[.val (.ref a), .val (.ref x), .unset] [])) (fun t k => XS.ifNo X1.here hx rfl (hb hby deq10_11) rfl ((if0 _ _).trans (feq (by decide)).1) k) ?_
    refine own_go (U' := T1.setTop (mkF m 15 #[.val (.ref a), .val (.ref x), .unset] [(.ref x)])) (fun t k => XS.aloadN X1.here hx rfl (hb hby deq10_14) rfl rfl k) ?_
    obtain ⟨T2, X2, e2, st2⟩ := castY X1 hx hZ hown (hw _ (List.mem_of_getElem? (i := 58) rfl)) e1 (Ins.of_exa E_x (hw _ (List.mem_of_getElem? (i := 13) rfl))) (g := (mkF m 15 #[.val (.ref a), .val (.ref x), .unset] [(.ref x)])) rfl rfl (hb hby deq10_15)
    refine own_go (U' := T2.setTop (mkF m 18 #[.val (.ref a), .val (.ref x), .unset] [(.ref x)])) st2 ?_
    refine own_go (U' := T2.setTop (mkF m 19 #[.val (.ref a), .val (.ref x), .val (.ref x)] [])) (fun t k => XS.astoreN X2.here hx rfl (hb hby deq10_18) rfl rfl (l' := #[.val (.ref a), .val (.ref x), .val (.ref x)]) rfl k) ?_
    obtain ⟨T3, X3, e3, st3⟩ := getS2 X2 hx hZ hown (host := "") (Or.inl (hw _ (List.mem_of_getElem? (i := 59) rfl))) Via.refl e2 (S_cs.ext O.2) (g := (mkF m 19 #[.val (.ref a), .val (.ref x), .val (.ref x)] [])) rfl (hb hby deq10_19)
    refine own_go (U' := T3.setTop (mkF m 22 #[.val (.ref a), .val (.ref x), .val (.ref x)] [(.int cs)])) st3 ?_
    refine own_go (U' := T3.setTop (mkF m 25 #[.val (.ref a), .val (.ref x), .val (.ref x)] [])) (fun t k => XS.ifNo X3.here hx rfl (hb hby deq10_22) rfl ((if0 _ _).trans (feq hcs).1) k) ?_
    refine own_go (U' := T3.setTop (mkF m 26 #[.val (.ref a), .val (.ref x), .val (.ref x)] [(.ref a)])) (fun t k => XS.aloadN X3.here hx rfl (hb hby deq10_25) rfl rfl k) ?_
    obtain ⟨T4, X4, e4, st4⟩ := getF X3 hx hZ hown (host := "") (Or.inl (hw _ (List.mem_of_getElem? (i := 25) rfl))) Via.refl e3 F_coder_a (g := (mkF m 26 #[.val (.ref a), .val (.ref x), .val (.ref x)] [(.ref a)])) rfl rfl (hb hby deq10_26)
    refine own_go (U' := T4.setTop (mkF m 29 #[.val (.ref a), .val (.ref x), .val (.ref x)] [(.int (0 : Int32))])) st4 ?_
    refine own_go (U' := T4.setTop (mkF m 30 #[.val (.ref a), .val (.ref x), .val (.ref x)] [(.ref x), (.int (0 : Int32))])) (fun t k => XS.aloadN X4.here hx rfl (hb hby deq10_29) rfl rfl k) ?_
    obtain ⟨T5, X5, e5, st5⟩ := getF X4 hx hZ hown (host := "") (Or.inl (hw _ (List.mem_of_getElem? (i := 25) rfl))) Via.refl e4 F_coder_x (g := (mkF m 30 #[.val (.ref a), .val (.ref x), .val (.ref x)] [(.ref x), (.int (0 : Int32))])) rfl rfl (hb hby deq10_30)
    refine own_go (U' := T5.setTop (mkF m 33 #[.val (.ref a), .val (.ref x), .val (.ref x)] [(.int (0 : Int32)), (.int (0 : Int32))])) st5 ?_
    refine own_go (U' := T5.setTop (mkF m 36 #[.val (.ref a), .val (.ref x), .val (.ref x)] [])) (fun t k => XS.icmpNo X5.here hx rfl (hb hby deq10_33) rfl (teq (by decide)).2 k) ?_
    refine own_go (U' := T5.setTop (mkF m 37 #[.val (.ref a), .val (.ref x), .val (.ref x)] [(.ref a)])) (fun t k => XS.aloadN X5.here hx rfl (hb hby deq10_36) rfl rfl k) ?_
    obtain ⟨T6, X6, e6, st6⟩ := getF X5 hx hZ hown (host := "") (Or.inl (hw _ (List.mem_of_getElem? (i := 24) rfl))) Via.refl e5 F_value_a (g := (mkF m 37 #[.val (.ref a), .val (.ref x), .val (.ref x)] [(.ref a)])) rfl rfl (hb hby deq10_37)
    refine own_go (U' := T6.setTop (mkF m 40 #[.val (.ref a), .val (.ref x), .val (.ref x)] [(.ref b)])) st6 ?_
    refine own_go (U' := T6.setTop (mkF m 41 #[.val (.ref a), .val (.ref x), .val (.ref x)] [(.ref x), (.ref b)])) (fun t k => XS.aloadN X6.here hx rfl (hb hby deq10_40) rfl rfl k) ?_
    obtain ⟨T7, X7, e7, st7⟩ := getF X6 hx hZ hown (host := "") (Or.inl (hw _ (List.mem_of_getElem? (i := 24) rfl))) Via.refl e6 F_value_x (g := (mkF m 41 #[.val (.ref a), .val (.ref x), .val (.ref x)] [(.ref x), (.ref b)])) rfl rfl (hb hby deq10_41)
    refine own_go (U' := T7.setTop (mkF m 44 #[.val (.ref a), .val (.ref x), .val (.ref x)] [(.ref y), (.ref b)])) st7 ?_
    obtain ⟨v8, T8, h8, L8, e8, X8, hQ8, st8⟩ := own_callS X7 hx hZ (y := (⟨"java/lang/StringLatin1", "equals", "([B[B)Z"⟩ : MethodName)) hown (hw _ (List.mem_of_getElem? (i := 60) rfl)) (hw _ (List.mem_of_getElem? (i := 61) rfl)) (hw _ (List.mem_of_getElem? (i := 62) rfl)) (hw _ (List.mem_of_getElem? (i := 63) rfl)) (by decide) (own_rmlq20 l Z a0 hw b y h0 x0 x1 _ _ V_b V_y) (W := 0) (by decide) (by decide) (g := (mkF m 44 #[.val (.ref a), .val (.ref x), .val (.ref x)] [(.ref y), (.ref b)])) rfl (by rw [hml]; rfl) (argsL := [(.ref b), (.ref y)]) (rest := []) (lenOf own_pd6 rfl) rfl rfl (by show 2 * 0 + _ ≤ _; exact Nat.le_of_eq rfl) (hb hby deq10_44) e7 (by decide) (by decide)
    obtain ⟨rfl, rfl, eh8⟩ := hQ8
    have e8 := e8.trans eh8
    rw [List.append_nil] at X8
    refine own_go (U' := T8.setTop (mkF m 47 #[.val (.ref a), .val (.ref x), .val (.ref x)] [(.int (0 : Int32))])) st8 ?_
    refine own_go (U' := T8.setTop (mkF m 54 #[.val (.ref a), .val (.ref x), .val (.ref x)] [])) (fun t k => XS.ifYes X8.here hx rfl (pc0 := 47) (pc' := 54) rfl (hb hby deq10_47) rfl ((if0 _ _).trans (teq (by decide)).1) (by decide) (by decide) k) ?_
    refine own_go (U' := T8.setTop (mkF m 55 #[.val (.ref a), .val (.ref x), .val (.ref x)] [(.int (0 : Int32))])) (fun t k => XS.iconst X8.here hx rfl (hb hby deq10_54) k) ?_
    refine own_retN X8 hx (t := .boolean) hret (by simp) hlk (hb hby deq10_55) ?_ (by decide) (by decide)
    exact ⟨rfl, rfl, e8⟩
theorem own_eflq21 (m : MethodId) (a b : Addr) : entryFrame m #[(.ref a), (.ref b)] 3 = mkF m 0 #[.val (.ref a), .val (.ref b), .unset] [] := by first | (simp [entryFrame, mkF, argsToLocals, Value.category]; done) | rfl
set_option maxRecDepth 65536 in
set_option maxHeartbeats 40000000 in
theorem own_rmlq21 (l : Launch) (Z : State) (a0 : Array Value) (hw : ∀ d ∈ tables_1, d.before a0 Z = true) (a b : Addr) (h0 : Heap) (x0 x1 y0 : Int32) (k k' : ClassId) (V_a : own_Ar Z h0 a k .byte [.int x0, .int x1]) (V_b : own_Ar Z h0 b k' .byte [.int y0]) :
    own_C l Z (⟨"java/lang/StringLatin1", "equals", "([B[B)Z"⟩ : MethodName) jdk_43_method_13_code 3 (some .boolean) [] ({ frames := 0, cells := 0, slots := 0, locals := 0 } : Room) #[(.ref a), (.ref b)] h0 (fun v h L => v = some (.int (0 : Int32)) ∧ L = [] ∧ h = h0) := by
  refine own_body (plainFor_of_name own_pn2) fun p e s m below meth c s₁ hx hby hml hret hlk hown hnm hZ X0 e0 => ?_
  rw [own_eflq21 m a b]
  refine own_go (U' := s₁.setTop (mkF m 1 #[.val (.ref a), .val (.ref b), .unset] [(.ref a)])) (fun t k => XS.aloadN X0.here hx rfl (hb hby dlq10_0) rfl rfl k) ?_
  refine own_go (U' := s₁.setTop (mkF m 2 #[.val (.ref a), .val (.ref b), .unset] [(.int (2 : Int32))])) (own_arrlen X0 hx hZ e0 V_a (n := (2 : Int32)) rfl (g := (mkF m 1 #[.val (.ref a), .val (.ref b), .unset] [(.ref a)])) rfl rfl (hb hby dlq10_1)) ?_
  refine own_go (U' := s₁.setTop (mkF m 3 #[.val (.ref a), .val (.ref b), .unset] [(.ref b), (.int (2 : Int32))])) (fun t k => XS.aloadN X0.here hx rfl (hb hby dlq10_2) rfl rfl k) ?_
  refine own_go (U' := s₁.setTop (mkF m 4 #[.val (.ref a), .val (.ref b), .unset] [(.int (1 : Int32)), (.int (2 : Int32))])) (own_arrlen X0 hx hZ e0 V_b (n := (1 : Int32)) rfl (g := (mkF m 3 #[.val (.ref a), .val (.ref b), .unset] [(.ref b), (.int (2 : Int32))])) rfl rfl (hb hby dlq10_3)) ?_
  refine own_go (U' := s₁.setTop (mkF m 34 #[.val (.ref a), .val (.ref b), .unset] [])) (fun t k => XS.icmpYes X0.here hx rfl (pc0 := 4) (pc' := 34) rfl (hb hby dlq10_4) rfl (feq (by decide)).2 (by decide) (by decide) k) ?_
  refine own_go (U' := s₁.setTop (mkF m 35 #[.val (.ref a), .val (.ref b), .unset] [(.int (0 : Int32))])) (fun t k => XS.iconst X0.here hx rfl (hb hby dlq10_34) k) ?_
  refine own_retN X0 hx (t := .boolean) hret (by simp) hlk (hb hby dlq10_35) ?_ (by decide) (by decide)
  exact ⟨rfl, rfl, e0⟩
theorem own_efeq21 (m : MethodId) (a x : Addr) : entryFrame m #[(.ref a), (.ref x)] 3 = mkF m 0 #[.val (.ref a), .val (.ref x), .unset] [] := by first | (simp [entryFrame, mkF, argsToLocals, Value.category]; done) | rfl
set_option maxRecDepth 65536 in
set_option maxHeartbeats 40000000 in
theorem own_rmeq21 (l : Launch) (Z : State) (a0 : Array Value) (hw : ∀ d ∈ tables_1, d.before a0 Z = true) (a x : Addr) (h0 : Heap) (n0 : Nat) (O : Old Z n0 h0) (cs : Int32) (hcs : cs ≠ 0) (S_cs : Sta Z Z.heap "java/lang/String" "COMPACT_STRINGS" "Z" (.int cs)) (x0 x1 y0 : Int32) (b y : Addr) (k k' : ClassId) (E_a : Exa Z h0 a "java/lang/String") (F_coder_a : Fld Z h0 a "java/lang/String" "coder" "B" (.int 0)) (F_value_a : Fld Z h0 a "java/lang/String" "value" "[B" (.ref b)) (V_b : own_Ar Z h0 b k .byte [.int x0, .int x1]) (E_x : Exa Z h0 x "java/lang/String") (F_coder_x : Fld Z h0 x "java/lang/String" "coder" "B" (.int 0)) (F_value_x : Fld Z h0 x "java/lang/String" "value" "[B" (.ref y)) (V_y : own_Ar Z h0 y k' .byte [.int y0]) :
    own_C l Z (⟨"java/lang/String", "equals", "(Ljava/lang/Object;)Z"⟩ : MethodName) jdk_42_method_66_code 3 (some .boolean) [] ({ frames := 1, cells := 0, slots := 0, locals := 14 } : Room) #[(.ref a), (.ref x)] h0 (fun v h L => v = some (.int (0 : Int32)) ∧ L = [] ∧ h = h0) := by
  refine own_body (plainFor_of_name own_pn1) fun p e s m below meth c s₁ hx hby hml hret hlk hown hnm hZ X0 e0 => ?_
  rw [own_efeq21 m a x]
  refine own_go (U' := s₁.setTop (mkF m 1 #[.val (.ref a), .val (.ref x), .unset] [(.ref a)])) (fun t k => XS.aloadN X0.here hx rfl (hb hby deq10_0) rfl rfl k) ?_
  refine own_go (U' := s₁.setTop (mkF m 2 #[.val (.ref a), .val (.ref x), .unset] [(.ref x), (.ref a)])) (fun t k => XS.aloadN X0.here hx rfl (hb hby deq10_1) rfl rfl k) ?_
  by_cases hax : a = x
  · refine own_go (U' := s₁.setTop (mkF m 5 #[.val (.ref a), .val (.ref x), .unset] [])) (fun t k => Jvm.RoadKit.acmp (g := (mkF m 2 #[.val (.ref a), .val (.ref x), .unset] [(.ref x), (.ref a)])) X0 hx rfl rfl rfl (pc0 := 2) (pc' := 5) (same := true) rfl (hb hby deq10_2) rfl (decide_eq_true (congrArg Value.ref hax)) (by decide) (by decide) k) ?_
    subst hax
    obtain rfl : b = y := Value.ref.inj (own_fldInj F_value_a F_value_x)
    have hu := own_arInj V_b V_y
    exact absurd (congrArg List.length hu) (by simp)
  · refine own_go (U' := s₁.setTop (mkF m 7 #[.val (.ref a), .val (.ref x), .unset] [])) (fun t k => Jvm.RoadKit.acmp (g := (mkF m 2 #[.val (.ref a), .val (.ref x), .unset] [(.ref x), (.ref a)])) X0 hx rfl rfl rfl (pc0 := 2) (pc' := 7) (same := false) rfl (hb hby deq10_2) rfl (decide_eq_false fun q => hax (Value.ref.inj q)) (by decide) (by decide) k) ?_
    refine own_go (U' := s₁.setTop (mkF m 8 #[.val (.ref a), .val (.ref x), .unset] [(.ref x)])) (fun t k => XS.aloadN X0.here hx rfl (hb hby deq10_7) rfl rfl k) ?_
    obtain ⟨T1, X1, e1, st1⟩ := instY X0 hx hZ hown (hw _ (List.mem_of_getElem? (i := 58) rfl)) e0 (Ins.of_exa E_x (hw _ (List.mem_of_getElem? (i := 13) rfl))) (g := (mkF m 8 #[.val (.ref a), .val (.ref x), .unset] [(.ref x)])) rfl rfl (hb hby deq10_8)
    refine own_go (U' := T1.setTop (mkF m 11 #[.val (.ref a), .val (.ref x), .unset] [(.int (1 : Int32))])) st1 ?_
    refine own_go (U' := T1.setTop (mkF m 14 #[.val (.ref a), .val (.ref x), .unset] [])) (fun t k => XS.ifNo X1.here hx rfl (hb hby deq10_11) rfl ((if0 _ _).trans (feq (by decide)).1) k) ?_
    refine own_go (U' := T1.setTop (mkF m 15 #[.val (.ref a), .val (.ref x), .unset] [(.ref x)])) (fun t k => XS.aloadN X1.here hx rfl (hb hby deq10_14) rfl rfl k) ?_
    obtain ⟨T2, X2, e2, st2⟩ := castY X1 hx hZ hown (hw _ (List.mem_of_getElem? (i := 58) rfl)) e1 (Ins.of_exa E_x (hw _ (List.mem_of_getElem? (i := 13) rfl))) (g := (mkF m 15 #[.val (.ref a), .val (.ref x), .unset] [(.ref x)])) rfl rfl (hb hby deq10_15)
    refine own_go (U' := T2.setTop (mkF m 18 #[.val (.ref a), .val (.ref x), .unset] [(.ref x)])) st2 ?_
    refine own_go (U' := T2.setTop (mkF m 19 #[.val (.ref a), .val (.ref x), .val (.ref x)] [])) (fun t k => XS.astoreN X2.here hx rfl (hb hby deq10_18) rfl rfl (l' := #[.val (.ref a), .val (.ref x), .val (.ref x)]) rfl k) ?_
    obtain ⟨T3, X3, e3, st3⟩ := getS2 X2 hx hZ hown (host := "") (Or.inl (hw _ (List.mem_of_getElem? (i := 59) rfl))) Via.refl e2 (S_cs.ext O.2) (g := (mkF m 19 #[.val (.ref a), .val (.ref x), .val (.ref x)] [])) rfl (hb hby deq10_19)
    refine own_go (U' := T3.setTop (mkF m 22 #[.val (.ref a), .val (.ref x), .val (.ref x)] [(.int cs)])) st3 ?_
    refine own_go (U' := T3.setTop (mkF m 25 #[.val (.ref a), .val (.ref x), .val (.ref x)] [])) (fun t k => XS.ifNo X3.here hx rfl (hb hby deq10_22) rfl ((if0 _ _).trans (feq hcs).1) k) ?_
    refine own_go (U' := T3.setTop (mkF m 26 #[.val (.ref a), .val (.ref x), .val (.ref x)] [(.ref a)])) (fun t k => XS.aloadN X3.here hx rfl (hb hby deq10_25) rfl rfl k) ?_
    obtain ⟨T4, X4, e4, st4⟩ := getF X3 hx hZ hown (host := "") (Or.inl (hw _ (List.mem_of_getElem? (i := 25) rfl))) Via.refl e3 F_coder_a (g := (mkF m 26 #[.val (.ref a), .val (.ref x), .val (.ref x)] [(.ref a)])) rfl rfl (hb hby deq10_26)
    refine own_go (U' := T4.setTop (mkF m 29 #[.val (.ref a), .val (.ref x), .val (.ref x)] [(.int (0 : Int32))])) st4 ?_
    refine own_go (U' := T4.setTop (mkF m 30 #[.val (.ref a), .val (.ref x), .val (.ref x)] [(.ref x), (.int (0 : Int32))])) (fun t k => XS.aloadN X4.here hx rfl (hb hby deq10_29) rfl rfl k) ?_
    obtain ⟨T5, X5, e5, st5⟩ := getF X4 hx hZ hown (host := "") (Or.inl (hw _ (List.mem_of_getElem? (i := 25) rfl))) Via.refl e4 F_coder_x (g := (mkF m 30 #[.val (.ref a), .val (.ref x), .val (.ref x)] [(.ref x), (.int (0 : Int32))])) rfl rfl (hb hby deq10_30)
    refine own_go (U' := T5.setTop (mkF m 33 #[.val (.ref a), .val (.ref x), .val (.ref x)] [(.int (0 : Int32)), (.int (0 : Int32))])) st5 ?_
    refine own_go (U' := T5.setTop (mkF m 36 #[.val (.ref a), .val (.ref x), .val (.ref x)] [])) (fun t k => XS.icmpNo X5.here hx rfl (hb hby deq10_33) rfl (teq (by decide)).2 k) ?_
    refine own_go (U' := T5.setTop (mkF m 37 #[.val (.ref a), .val (.ref x), .val (.ref x)] [(.ref a)])) (fun t k => XS.aloadN X5.here hx rfl (hb hby deq10_36) rfl rfl k) ?_
    obtain ⟨T6, X6, e6, st6⟩ := getF X5 hx hZ hown (host := "") (Or.inl (hw _ (List.mem_of_getElem? (i := 24) rfl))) Via.refl e5 F_value_a (g := (mkF m 37 #[.val (.ref a), .val (.ref x), .val (.ref x)] [(.ref a)])) rfl rfl (hb hby deq10_37)
    refine own_go (U' := T6.setTop (mkF m 40 #[.val (.ref a), .val (.ref x), .val (.ref x)] [(.ref b)])) st6 ?_
    refine own_go (U' := T6.setTop (mkF m 41 #[.val (.ref a), .val (.ref x), .val (.ref x)] [(.ref x), (.ref b)])) (fun t k => XS.aloadN X6.here hx rfl (hb hby deq10_40) rfl rfl k) ?_
    obtain ⟨T7, X7, e7, st7⟩ := getF X6 hx hZ hown (host := "") (Or.inl (hw _ (List.mem_of_getElem? (i := 24) rfl))) Via.refl e6 F_value_x (g := (mkF m 41 #[.val (.ref a), .val (.ref x), .val (.ref x)] [(.ref x), (.ref b)])) rfl rfl (hb hby deq10_41)
    refine own_go (U' := T7.setTop (mkF m 44 #[.val (.ref a), .val (.ref x), .val (.ref x)] [(.ref y), (.ref b)])) st7 ?_
    obtain ⟨v8, T8, h8, L8, e8, X8, hQ8, st8⟩ := own_callS X7 hx hZ (y := (⟨"java/lang/StringLatin1", "equals", "([B[B)Z"⟩ : MethodName)) hown (hw _ (List.mem_of_getElem? (i := 60) rfl)) (hw _ (List.mem_of_getElem? (i := 61) rfl)) (hw _ (List.mem_of_getElem? (i := 62) rfl)) (hw _ (List.mem_of_getElem? (i := 63) rfl)) (by decide) (own_rmlq21 l Z a0 hw b y h0 x0 x1 y0 _ _ V_b V_y) (W := 0) (by decide) (by decide) (g := (mkF m 44 #[.val (.ref a), .val (.ref x), .val (.ref x)] [(.ref y), (.ref b)])) rfl (by rw [hml]; rfl) (argsL := [(.ref b), (.ref y)]) (rest := []) (lenOf own_pd6 rfl) rfl rfl (by show 2 * 0 + _ ≤ _; exact Nat.le_of_eq rfl) (hb hby deq10_44) e7 (by decide) (by decide)
    obtain ⟨rfl, rfl, eh8⟩ := hQ8
    have e8 := e8.trans eh8
    rw [List.append_nil] at X8
    refine own_go (U' := T8.setTop (mkF m 47 #[.val (.ref a), .val (.ref x), .val (.ref x)] [(.int (0 : Int32))])) st8 ?_
    refine own_go (U' := T8.setTop (mkF m 54 #[.val (.ref a), .val (.ref x), .val (.ref x)] [])) (fun t k => XS.ifYes X8.here hx rfl (pc0 := 47) (pc' := 54) rfl (hb hby deq10_47) rfl ((if0 _ _).trans (teq (by decide)).1) (by decide) (by decide) k) ?_
    refine own_go (U' := T8.setTop (mkF m 55 #[.val (.ref a), .val (.ref x), .val (.ref x)] [(.int (0 : Int32))])) (fun t k => XS.iconst X8.here hx rfl (hb hby deq10_54) k) ?_
    refine own_retN X8 hx (t := .boolean) hret (by simp) hlk (hb hby deq10_55) ?_ (by decide) (by decide)
    exact ⟨rfl, rfl, e8⟩
theorem own_eflq22 (m : MethodId) (a b : Addr) : entryFrame m #[(.ref a), (.ref b)] 3 = mkF m 0 #[.val (.ref a), .val (.ref b), .unset] [] := by first | (simp [entryFrame, mkF, argsToLocals, Value.category]; done) | rfl
set_option maxRecDepth 65536 in
set_option maxHeartbeats 40000000 in
theorem own_rmlq22 (l : Launch) (Z : State) (a0 : Array Value) (hw : ∀ d ∈ tables_1, d.before a0 Z = true) (a b : Addr) (h0 : Heap) (x0 x1 y0 y1 : Int32) (k k' : ClassId) (V_a : own_Ar Z h0 a k .byte [.int x0, .int x1]) (V_b : own_Ar Z h0 b k' .byte [.int y0, .int y1]) :
    own_C l Z (⟨"java/lang/StringLatin1", "equals", "([B[B)Z"⟩ : MethodName) jdk_43_method_13_code 3 (some .boolean) [] ({ frames := 0, cells := 0, slots := 0, locals := 0 } : Room) #[(.ref a), (.ref b)] h0 (fun v h L => v = some (.int (if x0 = y0 ∧ x1 = y1 then (1 : Int32) else 0)) ∧ L = [] ∧ h = h0) := by
  refine own_body (plainFor_of_name own_pn2) fun p e s m below meth c s₁ hx hby hml hret hlk hown hnm hZ X0 e0 => ?_
  rw [own_eflq22 m a b]
  refine own_go (U' := s₁.setTop (mkF m 1 #[.val (.ref a), .val (.ref b), .unset] [(.ref a)])) (fun t k => XS.aloadN X0.here hx rfl (hb hby dlq10_0) rfl rfl k) ?_
  refine own_go (U' := s₁.setTop (mkF m 2 #[.val (.ref a), .val (.ref b), .unset] [(.int (2 : Int32))])) (own_arrlen X0 hx hZ e0 V_a (n := (2 : Int32)) rfl (g := (mkF m 1 #[.val (.ref a), .val (.ref b), .unset] [(.ref a)])) rfl rfl (hb hby dlq10_1)) ?_
  refine own_go (U' := s₁.setTop (mkF m 3 #[.val (.ref a), .val (.ref b), .unset] [(.ref b), (.int (2 : Int32))])) (fun t k => XS.aloadN X0.here hx rfl (hb hby dlq10_2) rfl rfl k) ?_
  refine own_go (U' := s₁.setTop (mkF m 4 #[.val (.ref a), .val (.ref b), .unset] [(.int (2 : Int32)), (.int (2 : Int32))])) (own_arrlen X0 hx hZ e0 V_b (n := (2 : Int32)) rfl (g := (mkF m 3 #[.val (.ref a), .val (.ref b), .unset] [(.ref b), (.int (2 : Int32))])) rfl rfl (hb hby dlq10_3)) ?_
  refine own_go (U' := s₁.setTop (mkF m 7 #[.val (.ref a), .val (.ref b), .unset] [])) (fun t k => XS.icmpNo X0.here hx rfl (hb hby dlq10_4) rfl (teq (by decide)).2 k) ?_
  refine own_go (U' := s₁.setTop (mkF m 8 #[.val (.ref a), .val (.ref b), .unset] [(.int (0 : Int32))])) (fun t k => XS.iconst X0.here hx rfl (hb hby dlq10_7) k) ?_
  refine own_go (U' := s₁.setTop (mkF m 9 #[.val (.ref a), .val (.ref b), .val (.int (0 : Int32))] [])) (fun t k => XS.istoreN X0.here hx rfl (hb hby dlq10_8) rfl (l' := #[.val (.ref a), .val (.ref b), .val (.int (0 : Int32))]) rfl k) ?_
  refine own_go (U' := s₁.setTop (mkF m 10 #[.val (.ref a), .val (.ref b), .val (.int (0 : Int32))] [(.int (0 : Int32))])) (fun t k => XS.iloadN X0.here hx rfl (hb hby dlq10_9) rfl k) ?_
  refine own_go (U' := s₁.setTop (mkF m 11 #[.val (.ref a), .val (.ref b), .val (.int (0 : Int32))] [(.ref a), (.int (0 : Int32))])) (fun t k => XS.aloadN X0.here hx rfl (hb hby dlq10_10) rfl rfl k) ?_
  refine own_go (U' := s₁.setTop (mkF m 12 #[.val (.ref a), .val (.ref b), .val (.int (0 : Int32))] [(.int (2 : Int32)), (.int (0 : Int32))])) (own_arrlen X0 hx hZ e0 V_a (n := (2 : Int32)) rfl (g := (mkF m 11 #[.val (.ref a), .val (.ref b), .val (.int (0 : Int32))] [(.ref a), (.int (0 : Int32))])) rfl rfl (hb hby dlq10_11)) ?_
  refine own_go (U' := s₁.setTop (mkF m 15 #[.val (.ref a), .val (.ref b), .val (.int (0 : Int32))] [])) (fun t k => XS.icmpNo X0.here hx rfl (hb hby dlq10_12) rfl (tlt (by decide)).2.1 k) ?_
  refine own_go (U' := s₁.setTop (mkF m 16 #[.val (.ref a), .val (.ref b), .val (.int (0 : Int32))] [(.ref a)])) (fun t k => XS.aloadN X0.here hx rfl (hb hby dlq10_15) rfl rfl k) ?_
  refine own_go (U' := s₁.setTop (mkF m 17 #[.val (.ref a), .val (.ref b), .val (.int (0 : Int32))] [(.int (0 : Int32)), (.ref a)])) (fun t k => XS.iloadN X0.here hx rfl (hb hby dlq10_16) rfl k) ?_
  refine own_go (U' := s₁.setTop (mkF m 18 #[.val (.ref a), .val (.ref b), .val (.int (0 : Int32))] [(.int x0)])) (own_baload X0 hx hZ e0 V_a (j := (0 : Int32)) (by decide) (i := 0) rfl (v := (.int x0)) rfl (g := (mkF m 17 #[.val (.ref a), .val (.ref b), .val (.int (0 : Int32))] [(.int (0 : Int32)), (.ref a)])) rfl rfl (hb hby dlq10_17)) ?_
  refine own_go (U' := s₁.setTop (mkF m 19 #[.val (.ref a), .val (.ref b), .val (.int (0 : Int32))] [(.ref b), (.int x0)])) (fun t k => XS.aloadN X0.here hx rfl (hb hby dlq10_18) rfl rfl k) ?_
  refine own_go (U' := s₁.setTop (mkF m 20 #[.val (.ref a), .val (.ref b), .val (.int (0 : Int32))] [(.int (0 : Int32)), (.ref b), (.int x0)])) (fun t k => XS.iloadN X0.here hx rfl (hb hby dlq10_19) rfl k) ?_
  refine own_go (U' := s₁.setTop (mkF m 21 #[.val (.ref a), .val (.ref b), .val (.int (0 : Int32))] [(.int y0), (.int x0)])) (own_baload X0 hx hZ e0 V_b (j := (0 : Int32)) (by decide) (i := 0) rfl (v := (.int y0)) rfl (g := (mkF m 20 #[.val (.ref a), .val (.ref b), .val (.int (0 : Int32))] [(.int (0 : Int32)), (.ref b), (.int x0)])) rfl rfl (hb hby dlq10_20)) ?_
  by_cases hu0 : x0 = y0
  · refine own_go (U' := s₁.setTop (mkF m 26 #[.val (.ref a), .val (.ref b), .val (.int (0 : Int32))] [])) (fun t k => XS.icmpYes X0.here hx rfl (pc0 := 21) (pc' := 26) rfl (hb hby dlq10_21) rfl (teq hu0).1 (by decide) (by decide) k) ?_
    refine own_go (U' := s₁.setTop (mkF m 29 #[.val (.ref a), .val (.ref b), .val (.int (1 : Int32))] [])) (fun t k => XS.iinc X0.here hx rfl (hb hby dlq10_26) rfl (l' := #[.val (.ref a), .val (.ref b), .val (.int (1 : Int32))]) rfl k) ?_
    refine own_go (U' := s₁.setTop (mkF m 9 #[.val (.ref a), .val (.ref b), .val (.int (1 : Int32))] [])) (fun t k => XS.goto X0.here hx rfl (pc0 := 29) (pc' := 9) rfl (hb hby dlq10_29) (by decide) (by decide) k) ?_
    refine own_go (U' := s₁.setTop (mkF m 10 #[.val (.ref a), .val (.ref b), .val (.int (1 : Int32))] [(.int (1 : Int32))])) (fun t k => XS.iloadN X0.here hx rfl (hb hby dlq10_9) rfl k) ?_
    refine own_go (U' := s₁.setTop (mkF m 11 #[.val (.ref a), .val (.ref b), .val (.int (1 : Int32))] [(.ref a), (.int (1 : Int32))])) (fun t k => XS.aloadN X0.here hx rfl (hb hby dlq10_10) rfl rfl k) ?_
    refine own_go (U' := s₁.setTop (mkF m 12 #[.val (.ref a), .val (.ref b), .val (.int (1 : Int32))] [(.int (2 : Int32)), (.int (1 : Int32))])) (own_arrlen X0 hx hZ e0 V_a (n := (2 : Int32)) rfl (g := (mkF m 11 #[.val (.ref a), .val (.ref b), .val (.int (1 : Int32))] [(.ref a), (.int (1 : Int32))])) rfl rfl (hb hby dlq10_11)) ?_
    refine own_go (U' := s₁.setTop (mkF m 15 #[.val (.ref a), .val (.ref b), .val (.int (1 : Int32))] [])) (fun t k => XS.icmpNo X0.here hx rfl (hb hby dlq10_12) rfl (tlt (by decide)).2.1 k) ?_
    refine own_go (U' := s₁.setTop (mkF m 16 #[.val (.ref a), .val (.ref b), .val (.int (1 : Int32))] [(.ref a)])) (fun t k => XS.aloadN X0.here hx rfl (hb hby dlq10_15) rfl rfl k) ?_
    refine own_go (U' := s₁.setTop (mkF m 17 #[.val (.ref a), .val (.ref b), .val (.int (1 : Int32))] [(.int (1 : Int32)), (.ref a)])) (fun t k => XS.iloadN X0.here hx rfl (hb hby dlq10_16) rfl k) ?_
    refine own_go (U' := s₁.setTop (mkF m 18 #[.val (.ref a), .val (.ref b), .val (.int (1 : Int32))] [(.int x1)])) (own_baload X0 hx hZ e0 V_a (j := (1 : Int32)) (by decide) (i := 1) rfl (v := (.int x1)) rfl (g := (mkF m 17 #[.val (.ref a), .val (.ref b), .val (.int (1 : Int32))] [(.int (1 : Int32)), (.ref a)])) rfl rfl (hb hby dlq10_17)) ?_
    refine own_go (U' := s₁.setTop (mkF m 19 #[.val (.ref a), .val (.ref b), .val (.int (1 : Int32))] [(.ref b), (.int x1)])) (fun t k => XS.aloadN X0.here hx rfl (hb hby dlq10_18) rfl rfl k) ?_
    refine own_go (U' := s₁.setTop (mkF m 20 #[.val (.ref a), .val (.ref b), .val (.int (1 : Int32))] [(.int (1 : Int32)), (.ref b), (.int x1)])) (fun t k => XS.iloadN X0.here hx rfl (hb hby dlq10_19) rfl k) ?_
    refine own_go (U' := s₁.setTop (mkF m 21 #[.val (.ref a), .val (.ref b), .val (.int (1 : Int32))] [(.int y1), (.int x1)])) (own_baload X0 hx hZ e0 V_b (j := (1 : Int32)) (by decide) (i := 1) rfl (v := (.int y1)) rfl (g := (mkF m 20 #[.val (.ref a), .val (.ref b), .val (.int (1 : Int32))] [(.int (1 : Int32)), (.ref b), (.int x1)])) rfl rfl (hb hby dlq10_20)) ?_
    by_cases hu1 : x1 = y1
    · refine own_go (U' := s₁.setTop (mkF m 26 #[.val (.ref a), .val (.ref b), .val (.int (1 : Int32))] [])) (fun t k => XS.icmpYes X0.here hx rfl (pc0 := 21) (pc' := 26) rfl (hb hby dlq10_21) rfl (teq hu1).1 (by decide) (by decide) k) ?_
      refine own_go (U' := s₁.setTop (mkF m 29 #[.val (.ref a), .val (.ref b), .val (.int (2 : Int32))] [])) (fun t k => XS.iinc X0.here hx rfl (hb hby dlq10_26) rfl (l' := #[.val (.ref a), .val (.ref b), .val (.int (2 : Int32))]) rfl k) ?_
      refine own_go (U' := s₁.setTop (mkF m 9 #[.val (.ref a), .val (.ref b), .val (.int (2 : Int32))] [])) (fun t k => XS.goto X0.here hx rfl (pc0 := 29) (pc' := 9) rfl (hb hby dlq10_29) (by decide) (by decide) k) ?_
      refine own_go (U' := s₁.setTop (mkF m 10 #[.val (.ref a), .val (.ref b), .val (.int (2 : Int32))] [(.int (2 : Int32))])) (fun t k => XS.iloadN X0.here hx rfl (hb hby dlq10_9) rfl k) ?_
      refine own_go (U' := s₁.setTop (mkF m 11 #[.val (.ref a), .val (.ref b), .val (.int (2 : Int32))] [(.ref a), (.int (2 : Int32))])) (fun t k => XS.aloadN X0.here hx rfl (hb hby dlq10_10) rfl rfl k) ?_
      refine own_go (U' := s₁.setTop (mkF m 12 #[.val (.ref a), .val (.ref b), .val (.int (2 : Int32))] [(.int (2 : Int32)), (.int (2 : Int32))])) (own_arrlen X0 hx hZ e0 V_a (n := (2 : Int32)) rfl (g := (mkF m 11 #[.val (.ref a), .val (.ref b), .val (.int (2 : Int32))] [(.ref a), (.int (2 : Int32))])) rfl rfl (hb hby dlq10_11)) ?_
      refine own_go (U' := s₁.setTop (mkF m 32 #[.val (.ref a), .val (.ref b), .val (.int (2 : Int32))] [])) (fun t k => XS.icmpYes X0.here hx rfl (pc0 := 12) (pc' := 32) rfl (hb hby dlq10_12) rfl (flt (by decide)).2.1 (by decide) (by decide) k) ?_
      refine own_go (U' := s₁.setTop (mkF m 33 #[.val (.ref a), .val (.ref b), .val (.int (2 : Int32))] [(.int (1 : Int32))])) (fun t k => XS.iconst X0.here hx rfl (hb hby dlq10_32) k) ?_
      refine own_retN X0 hx (t := .boolean) hret (by simp) hlk (hb hby dlq10_33) ?_ (by decide) (by decide)
      refine ⟨?_, rfl, e0⟩
      rw [if_pos (by simp only [hu0, hu1, and_self])]
      rfl
    · refine own_go (U' := s₁.setTop (mkF m 24 #[.val (.ref a), .val (.ref b), .val (.int (1 : Int32))] [])) (fun t k => XS.icmpNo X0.here hx rfl (hb hby dlq10_21) rfl (feq hu1).1 k) ?_
      refine own_go (U' := s₁.setTop (mkF m 25 #[.val (.ref a), .val (.ref b), .val (.int (1 : Int32))] [(.int (0 : Int32))])) (fun t k => XS.iconst X0.here hx rfl (hb hby dlq10_24) k) ?_
      refine own_retN X0 hx (t := .boolean) hret (by simp) hlk (hb hby dlq10_25) ?_ (by decide) (by decide)
      refine ⟨?_, rfl, e0⟩
      rw [if_neg (fun q => hu1 q.2)]
      rfl
  · refine own_go (U' := s₁.setTop (mkF m 24 #[.val (.ref a), .val (.ref b), .val (.int (0 : Int32))] [])) (fun t k => XS.icmpNo X0.here hx rfl (hb hby dlq10_21) rfl (feq hu0).1 k) ?_
    refine own_go (U' := s₁.setTop (mkF m 25 #[.val (.ref a), .val (.ref b), .val (.int (0 : Int32))] [(.int (0 : Int32))])) (fun t k => XS.iconst X0.here hx rfl (hb hby dlq10_24) k) ?_
    refine own_retN X0 hx (t := .boolean) hret (by simp) hlk (hb hby dlq10_25) ?_ (by decide) (by decide)
    refine ⟨?_, rfl, e0⟩
    rw [if_neg (fun q => hu0 q.1)]
    rfl
theorem own_efeq22 (m : MethodId) (a x : Addr) : entryFrame m #[(.ref a), (.ref x)] 3 = mkF m 0 #[.val (.ref a), .val (.ref x), .unset] [] := by first | (simp [entryFrame, mkF, argsToLocals, Value.category]; done) | rfl
set_option maxRecDepth 65536 in
set_option maxHeartbeats 40000000 in
theorem own_rmeq22 (l : Launch) (Z : State) (a0 : Array Value) (hw : ∀ d ∈ tables_1, d.before a0 Z = true) (a x : Addr) (h0 : Heap) (n0 : Nat) (O : Old Z n0 h0) (cs : Int32) (hcs : cs ≠ 0) (S_cs : Sta Z Z.heap "java/lang/String" "COMPACT_STRINGS" "Z" (.int cs)) (x0 x1 y0 y1 : Int32) (b y : Addr) (k k' : ClassId) (E_a : Exa Z h0 a "java/lang/String") (F_coder_a : Fld Z h0 a "java/lang/String" "coder" "B" (.int 0)) (F_value_a : Fld Z h0 a "java/lang/String" "value" "[B" (.ref b)) (V_b : own_Ar Z h0 b k .byte [.int x0, .int x1]) (E_x : Exa Z h0 x "java/lang/String") (F_coder_x : Fld Z h0 x "java/lang/String" "coder" "B" (.int 0)) (F_value_x : Fld Z h0 x "java/lang/String" "value" "[B" (.ref y)) (V_y : own_Ar Z h0 y k' .byte [.int y0, .int y1]) :
    own_C l Z (⟨"java/lang/String", "equals", "(Ljava/lang/Object;)Z"⟩ : MethodName) jdk_42_method_66_code 3 (some .boolean) [] ({ frames := 1, cells := 0, slots := 0, locals := 14 } : Room) #[(.ref a), (.ref x)] h0 (fun v h L => v = some (.int (if x0 = y0 ∧ x1 = y1 then (1 : Int32) else 0)) ∧ L = [] ∧ h = h0) := by
  refine own_body (plainFor_of_name own_pn1) fun p e s m below meth c s₁ hx hby hml hret hlk hown hnm hZ X0 e0 => ?_
  rw [own_efeq22 m a x]
  refine own_go (U' := s₁.setTop (mkF m 1 #[.val (.ref a), .val (.ref x), .unset] [(.ref a)])) (fun t k => XS.aloadN X0.here hx rfl (hb hby deq10_0) rfl rfl k) ?_
  refine own_go (U' := s₁.setTop (mkF m 2 #[.val (.ref a), .val (.ref x), .unset] [(.ref x), (.ref a)])) (fun t k => XS.aloadN X0.here hx rfl (hb hby deq10_1) rfl rfl k) ?_
  by_cases hax : a = x
  · refine own_go (U' := s₁.setTop (mkF m 5 #[.val (.ref a), .val (.ref x), .unset] [])) (fun t k => Jvm.RoadKit.acmp (g := (mkF m 2 #[.val (.ref a), .val (.ref x), .unset] [(.ref x), (.ref a)])) X0 hx rfl rfl rfl (pc0 := 2) (pc' := 5) (same := true) rfl (hb hby deq10_2) rfl (decide_eq_true (congrArg Value.ref hax)) (by decide) (by decide) k) ?_
    subst hax
    obtain rfl : b = y := Value.ref.inj (own_fldInj F_value_a F_value_x)
    have hu := own_arInj V_b V_y
    simp only [List.cons.injEq, Value.int.injEq, and_true] at hu
    refine own_go (U' := s₁.setTop (mkF m 6 #[.val (.ref a), .val (.ref a), .unset] [(.int (1 : Int32))])) (fun t k => XS.iconst X0.here hx rfl (hb hby deq10_5) k) ?_
    refine own_retN X0 hx (t := .boolean) hret (by simp) hlk (hb hby deq10_6) ?_ (by decide) (by decide)
    refine ⟨?_, rfl, e0⟩
    rw [if_pos hu]
    rfl
  · refine own_go (U' := s₁.setTop (mkF m 7 #[.val (.ref a), .val (.ref x), .unset] [])) (fun t k => Jvm.RoadKit.acmp (g := (mkF m 2 #[.val (.ref a), .val (.ref x), .unset] [(.ref x), (.ref a)])) X0 hx rfl rfl rfl (pc0 := 2) (pc' := 7) (same := false) rfl (hb hby deq10_2) rfl (decide_eq_false fun q => hax (Value.ref.inj q)) (by decide) (by decide) k) ?_
    refine own_go (U' := s₁.setTop (mkF m 8 #[.val (.ref a), .val (.ref x), .unset] [(.ref x)])) (fun t k => XS.aloadN X0.here hx rfl (hb hby deq10_7) rfl rfl k) ?_
    obtain ⟨T1, X1, e1, st1⟩ := instY X0 hx hZ hown (hw _ (List.mem_of_getElem? (i := 58) rfl)) e0 (Ins.of_exa E_x (hw _ (List.mem_of_getElem? (i := 13) rfl))) (g := (mkF m 8 #[.val (.ref a), .val (.ref x), .unset] [(.ref x)])) rfl rfl (hb hby deq10_8)
    refine own_go (U' := T1.setTop (mkF m 11 #[.val (.ref a), .val (.ref x), .unset] [(.int (1 : Int32))])) st1 ?_
    refine own_go (U' := T1.setTop (mkF m 14 #[.val (.ref a), .val (.ref x), .unset] [])) (fun t k => XS.ifNo X1.here hx rfl (hb hby deq10_11) rfl ((if0 _ _).trans (feq (by decide)).1) k) ?_
    refine own_go (U' := T1.setTop (mkF m 15 #[.val (.ref a), .val (.ref x), .unset] [(.ref x)])) (fun t k => XS.aloadN X1.here hx rfl (hb hby deq10_14) rfl rfl k) ?_
    obtain ⟨T2, X2, e2, st2⟩ := castY X1 hx hZ hown (hw _ (List.mem_of_getElem? (i := 58) rfl)) e1 (Ins.of_exa E_x (hw _ (List.mem_of_getElem? (i := 13) rfl))) (g := (mkF m 15 #[.val (.ref a), .val (.ref x), .unset] [(.ref x)])) rfl rfl (hb hby deq10_15)
    refine own_go (U' := T2.setTop (mkF m 18 #[.val (.ref a), .val (.ref x), .unset] [(.ref x)])) st2 ?_
    refine own_go (U' := T2.setTop (mkF m 19 #[.val (.ref a), .val (.ref x), .val (.ref x)] [])) (fun t k => XS.astoreN X2.here hx rfl (hb hby deq10_18) rfl rfl (l' := #[.val (.ref a), .val (.ref x), .val (.ref x)]) rfl k) ?_
    obtain ⟨T3, X3, e3, st3⟩ := getS2 X2 hx hZ hown (host := "") (Or.inl (hw _ (List.mem_of_getElem? (i := 59) rfl))) Via.refl e2 (S_cs.ext O.2) (g := (mkF m 19 #[.val (.ref a), .val (.ref x), .val (.ref x)] [])) rfl (hb hby deq10_19)
    refine own_go (U' := T3.setTop (mkF m 22 #[.val (.ref a), .val (.ref x), .val (.ref x)] [(.int cs)])) st3 ?_
    refine own_go (U' := T3.setTop (mkF m 25 #[.val (.ref a), .val (.ref x), .val (.ref x)] [])) (fun t k => XS.ifNo X3.here hx rfl (hb hby deq10_22) rfl ((if0 _ _).trans (feq hcs).1) k) ?_
    refine own_go (U' := T3.setTop (mkF m 26 #[.val (.ref a), .val (.ref x), .val (.ref x)] [(.ref a)])) (fun t k => XS.aloadN X3.here hx rfl (hb hby deq10_25) rfl rfl k) ?_
    obtain ⟨T4, X4, e4, st4⟩ := getF X3 hx hZ hown (host := "") (Or.inl (hw _ (List.mem_of_getElem? (i := 25) rfl))) Via.refl e3 F_coder_a (g := (mkF m 26 #[.val (.ref a), .val (.ref x), .val (.ref x)] [(.ref a)])) rfl rfl (hb hby deq10_26)
    refine own_go (U' := T4.setTop (mkF m 29 #[.val (.ref a), .val (.ref x), .val (.ref x)] [(.int (0 : Int32))])) st4 ?_
    refine own_go (U' := T4.setTop (mkF m 30 #[.val (.ref a), .val (.ref x), .val (.ref x)] [(.ref x), (.int (0 : Int32))])) (fun t k => XS.aloadN X4.here hx rfl (hb hby deq10_29) rfl rfl k) ?_
    obtain ⟨T5, X5, e5, st5⟩ := getF X4 hx hZ hown (host := "") (Or.inl (hw _ (List.mem_of_getElem? (i := 25) rfl))) Via.refl e4 F_coder_x (g := (mkF m 30 #[.val (.ref a), .val (.ref x), .val (.ref x)] [(.ref x), (.int (0 : Int32))])) rfl rfl (hb hby deq10_30)
    refine own_go (U' := T5.setTop (mkF m 33 #[.val (.ref a), .val (.ref x), .val (.ref x)] [(.int (0 : Int32)), (.int (0 : Int32))])) st5 ?_
    refine own_go (U' := T5.setTop (mkF m 36 #[.val (.ref a), .val (.ref x), .val (.ref x)] [])) (fun t k => XS.icmpNo X5.here hx rfl (hb hby deq10_33) rfl (teq (by decide)).2 k) ?_
    refine own_go (U' := T5.setTop (mkF m 37 #[.val (.ref a), .val (.ref x), .val (.ref x)] [(.ref a)])) (fun t k => XS.aloadN X5.here hx rfl (hb hby deq10_36) rfl rfl k) ?_
    obtain ⟨T6, X6, e6, st6⟩ := getF X5 hx hZ hown (host := "") (Or.inl (hw _ (List.mem_of_getElem? (i := 24) rfl))) Via.refl e5 F_value_a (g := (mkF m 37 #[.val (.ref a), .val (.ref x), .val (.ref x)] [(.ref a)])) rfl rfl (hb hby deq10_37)
    refine own_go (U' := T6.setTop (mkF m 40 #[.val (.ref a), .val (.ref x), .val (.ref x)] [(.ref b)])) st6 ?_
    refine own_go (U' := T6.setTop (mkF m 41 #[.val (.ref a), .val (.ref x), .val (.ref x)] [(.ref x), (.ref b)])) (fun t k => XS.aloadN X6.here hx rfl (hb hby deq10_40) rfl rfl k) ?_
    obtain ⟨T7, X7, e7, st7⟩ := getF X6 hx hZ hown (host := "") (Or.inl (hw _ (List.mem_of_getElem? (i := 24) rfl))) Via.refl e6 F_value_x (g := (mkF m 41 #[.val (.ref a), .val (.ref x), .val (.ref x)] [(.ref x), (.ref b)])) rfl rfl (hb hby deq10_41)
    refine own_go (U' := T7.setTop (mkF m 44 #[.val (.ref a), .val (.ref x), .val (.ref x)] [(.ref y), (.ref b)])) st7 ?_
    obtain ⟨v8, T8, h8, L8, e8, X8, hQ8, st8⟩ := own_callS X7 hx hZ (y := (⟨"java/lang/StringLatin1", "equals", "([B[B)Z"⟩ : MethodName)) hown (hw _ (List.mem_of_getElem? (i := 60) rfl)) (hw _ (List.mem_of_getElem? (i := 61) rfl)) (hw _ (List.mem_of_getElem? (i := 62) rfl)) (hw _ (List.mem_of_getElem? (i := 63) rfl)) (by decide) (own_rmlq22 l Z a0 hw b y h0 x0 x1 y0 y1 _ _ V_b V_y) (W := 0) (by decide) (by decide) (g := (mkF m 44 #[.val (.ref a), .val (.ref x), .val (.ref x)] [(.ref y), (.ref b)])) rfl (by rw [hml]; rfl) (argsL := [(.ref b), (.ref y)]) (rest := []) (lenOf own_pd6 rfl) rfl rfl (by show 2 * 0 + _ ≤ _; exact Nat.le_of_eq rfl) (hb hby deq10_44) e7 (by decide) (by decide)
    obtain ⟨rfl, rfl, eh8⟩ := hQ8
    have e8 := e8.trans eh8
    rw [List.append_nil] at X8
    refine own_go (U' := T8.setTop (mkF m 47 #[.val (.ref a), .val (.ref x), .val (.ref x)] [(.int (if x0 = y0 ∧ x1 = y1 then (1 : Int32) else 0))])) st8 ?_
    by_cases hu : x0 = y0 ∧ x1 = y1
    · rw [if_pos hu]
      refine own_go (U' := T8.setTop (mkF m 50 #[.val (.ref a), .val (.ref x), .val (.ref x)] [])) (fun t k => XS.ifNo X8.here hx rfl (hb hby deq10_47) rfl ((if0 _ _).trans (feq (by decide)).1) k) ?_
      refine own_go (U' := T8.setTop (mkF m 51 #[.val (.ref a), .val (.ref x), .val (.ref x)] [(.int (1 : Int32))])) (fun t k => XS.iconst X8.here hx rfl (hb hby deq10_50) k) ?_
      refine own_go (U' := T8.setTop (mkF m 55 #[.val (.ref a), .val (.ref x), .val (.ref x)] [(.int (1 : Int32))])) (fun t k => XS.goto X8.here hx rfl (pc0 := 51) (pc' := 55) rfl (hb hby deq10_51) (by decide) (by decide) k) ?_
      refine own_retN X8 hx (t := .boolean) hret (by simp) hlk (hb hby deq10_55) ?_ (by decide) (by decide)
      exact ⟨rfl, rfl, e8⟩
    · rw [if_neg hu]
      refine own_go (U' := T8.setTop (mkF m 54 #[.val (.ref a), .val (.ref x), .val (.ref x)] [])) (fun t k => XS.ifYes X8.here hx rfl (pc0 := 47) (pc' := 54) rfl (hb hby deq10_47) rfl ((if0 _ _).trans (teq (by decide)).1) (by decide) (by decide) k) ?_
      refine own_go (U' := T8.setTop (mkF m 55 #[.val (.ref a), .val (.ref x), .val (.ref x)] [(.int (0 : Int32))])) (fun t k => XS.iconst X8.here hx rfl (hb hby deq10_54) k) ?_
      refine own_retN X8 hx (t := .boolean) hret (by simp) hlk (hb hby deq10_55) ?_ (by decide) (by decide)
      exact ⟨rfl, rfl, e8⟩
theorem own_eflq23 (m : MethodId) (a b : Addr) : entryFrame m #[(.ref a), (.ref b)] 3 = mkF m 0 #[.val (.ref a), .val (.ref b), .unset] [] := by first | (simp [entryFrame, mkF, argsToLocals, Value.category]; done) | rfl
set_option maxRecDepth 65536 in
set_option maxHeartbeats 40000000 in
theorem own_rmlq23 (l : Launch) (Z : State) (a0 : Array Value) (hw : ∀ d ∈ tables_1, d.before a0 Z = true) (a b : Addr) (h0 : Heap) (x0 x1 y0 y1 y2 : Int32) (k k' : ClassId) (V_a : own_Ar Z h0 a k .byte [.int x0, .int x1]) (V_b : own_Ar Z h0 b k' .byte [.int y0, .int y1, .int y2]) :
    own_C l Z (⟨"java/lang/StringLatin1", "equals", "([B[B)Z"⟩ : MethodName) jdk_43_method_13_code 3 (some .boolean) [] ({ frames := 0, cells := 0, slots := 0, locals := 0 } : Room) #[(.ref a), (.ref b)] h0 (fun v h L => v = some (.int (0 : Int32)) ∧ L = [] ∧ h = h0) := by
  refine own_body (plainFor_of_name own_pn2) fun p e s m below meth c s₁ hx hby hml hret hlk hown hnm hZ X0 e0 => ?_
  rw [own_eflq23 m a b]
  refine own_go (U' := s₁.setTop (mkF m 1 #[.val (.ref a), .val (.ref b), .unset] [(.ref a)])) (fun t k => XS.aloadN X0.here hx rfl (hb hby dlq10_0) rfl rfl k) ?_
  refine own_go (U' := s₁.setTop (mkF m 2 #[.val (.ref a), .val (.ref b), .unset] [(.int (2 : Int32))])) (own_arrlen X0 hx hZ e0 V_a (n := (2 : Int32)) rfl (g := (mkF m 1 #[.val (.ref a), .val (.ref b), .unset] [(.ref a)])) rfl rfl (hb hby dlq10_1)) ?_
  refine own_go (U' := s₁.setTop (mkF m 3 #[.val (.ref a), .val (.ref b), .unset] [(.ref b), (.int (2 : Int32))])) (fun t k => XS.aloadN X0.here hx rfl (hb hby dlq10_2) rfl rfl k) ?_
  refine own_go (U' := s₁.setTop (mkF m 4 #[.val (.ref a), .val (.ref b), .unset] [(.int (3 : Int32)), (.int (2 : Int32))])) (own_arrlen X0 hx hZ e0 V_b (n := (3 : Int32)) rfl (g := (mkF m 3 #[.val (.ref a), .val (.ref b), .unset] [(.ref b), (.int (2 : Int32))])) rfl rfl (hb hby dlq10_3)) ?_
  refine own_go (U' := s₁.setTop (mkF m 34 #[.val (.ref a), .val (.ref b), .unset] [])) (fun t k => XS.icmpYes X0.here hx rfl (pc0 := 4) (pc' := 34) rfl (hb hby dlq10_4) rfl (feq (by decide)).2 (by decide) (by decide) k) ?_
  refine own_go (U' := s₁.setTop (mkF m 35 #[.val (.ref a), .val (.ref b), .unset] [(.int (0 : Int32))])) (fun t k => XS.iconst X0.here hx rfl (hb hby dlq10_34) k) ?_
  refine own_retN X0 hx (t := .boolean) hret (by simp) hlk (hb hby dlq10_35) ?_ (by decide) (by decide)
  exact ⟨rfl, rfl, e0⟩
theorem own_efeq23 (m : MethodId) (a x : Addr) : entryFrame m #[(.ref a), (.ref x)] 3 = mkF m 0 #[.val (.ref a), .val (.ref x), .unset] [] := by first | (simp [entryFrame, mkF, argsToLocals, Value.category]; done) | rfl
set_option maxRecDepth 65536 in
set_option maxHeartbeats 40000000 in
theorem own_rmeq23 (l : Launch) (Z : State) (a0 : Array Value) (hw : ∀ d ∈ tables_1, d.before a0 Z = true) (a x : Addr) (h0 : Heap) (n0 : Nat) (O : Old Z n0 h0) (cs : Int32) (hcs : cs ≠ 0) (S_cs : Sta Z Z.heap "java/lang/String" "COMPACT_STRINGS" "Z" (.int cs)) (x0 x1 y0 y1 y2 : Int32) (b y : Addr) (k k' : ClassId) (E_a : Exa Z h0 a "java/lang/String") (F_coder_a : Fld Z h0 a "java/lang/String" "coder" "B" (.int 0)) (F_value_a : Fld Z h0 a "java/lang/String" "value" "[B" (.ref b)) (V_b : own_Ar Z h0 b k .byte [.int x0, .int x1]) (E_x : Exa Z h0 x "java/lang/String") (F_coder_x : Fld Z h0 x "java/lang/String" "coder" "B" (.int 0)) (F_value_x : Fld Z h0 x "java/lang/String" "value" "[B" (.ref y)) (V_y : own_Ar Z h0 y k' .byte [.int y0, .int y1, .int y2]) :
    own_C l Z (⟨"java/lang/String", "equals", "(Ljava/lang/Object;)Z"⟩ : MethodName) jdk_42_method_66_code 3 (some .boolean) [] ({ frames := 1, cells := 0, slots := 0, locals := 14 } : Room) #[(.ref a), (.ref x)] h0 (fun v h L => v = some (.int (0 : Int32)) ∧ L = [] ∧ h = h0) := by
  refine own_body (plainFor_of_name own_pn1) fun p e s m below meth c s₁ hx hby hml hret hlk hown hnm hZ X0 e0 => ?_
  rw [own_efeq23 m a x]
  refine own_go (U' := s₁.setTop (mkF m 1 #[.val (.ref a), .val (.ref x), .unset] [(.ref a)])) (fun t k => XS.aloadN X0.here hx rfl (hb hby deq10_0) rfl rfl k) ?_
  refine own_go (U' := s₁.setTop (mkF m 2 #[.val (.ref a), .val (.ref x), .unset] [(.ref x), (.ref a)])) (fun t k => XS.aloadN X0.here hx rfl (hb hby deq10_1) rfl rfl k) ?_
  by_cases hax : a = x
  · refine own_go (U' := s₁.setTop (mkF m 5 #[.val (.ref a), .val (.ref x), .unset] [])) (fun t k => Jvm.RoadKit.acmp (g := (mkF m 2 #[.val (.ref a), .val (.ref x), .unset] [(.ref x), (.ref a)])) X0 hx rfl rfl rfl (pc0 := 2) (pc' := 5) (same := true) rfl (hb hby deq10_2) rfl (decide_eq_true (congrArg Value.ref hax)) (by decide) (by decide) k) ?_
    subst hax
    obtain rfl : b = y := Value.ref.inj (own_fldInj F_value_a F_value_x)
    have hu := own_arInj V_b V_y
    exact absurd (congrArg List.length hu) (by simp)
  · refine own_go (U' := s₁.setTop (mkF m 7 #[.val (.ref a), .val (.ref x), .unset] [])) (fun t k => Jvm.RoadKit.acmp (g := (mkF m 2 #[.val (.ref a), .val (.ref x), .unset] [(.ref x), (.ref a)])) X0 hx rfl rfl rfl (pc0 := 2) (pc' := 7) (same := false) rfl (hb hby deq10_2) rfl (decide_eq_false fun q => hax (Value.ref.inj q)) (by decide) (by decide) k) ?_
    refine own_go (U' := s₁.setTop (mkF m 8 #[.val (.ref a), .val (.ref x), .unset] [(.ref x)])) (fun t k => XS.aloadN X0.here hx rfl (hb hby deq10_7) rfl rfl k) ?_
    obtain ⟨T1, X1, e1, st1⟩ := instY X0 hx hZ hown (hw _ (List.mem_of_getElem? (i := 58) rfl)) e0 (Ins.of_exa E_x (hw _ (List.mem_of_getElem? (i := 13) rfl))) (g := (mkF m 8 #[.val (.ref a), .val (.ref x), .unset] [(.ref x)])) rfl rfl (hb hby deq10_8)
    refine own_go (U' := T1.setTop (mkF m 11 #[.val (.ref a), .val (.ref x), .unset] [(.int (1 : Int32))])) st1 ?_
    refine own_go (U' := T1.setTop (mkF m 14 #[.val (.ref a), .val (.ref x), .unset] [])) (fun t k => XS.ifNo X1.here hx rfl (hb hby deq10_11) rfl ((if0 _ _).trans (feq (by decide)).1) k) ?_
    refine own_go (U' := T1.setTop (mkF m 15 #[.val (.ref a), .val (.ref x), .unset] [(.ref x)])) (fun t k => XS.aloadN X1.here hx rfl (hb hby deq10_14) rfl rfl k) ?_
    obtain ⟨T2, X2, e2, st2⟩ := castY X1 hx hZ hown (hw _ (List.mem_of_getElem? (i := 58) rfl)) e1 (Ins.of_exa E_x (hw _ (List.mem_of_getElem? (i := 13) rfl))) (g := (mkF m 15 #[.val (.ref a), .val (.ref x), .unset] [(.ref x)])) rfl rfl (hb hby deq10_15)
    refine own_go (U' := T2.setTop (mkF m 18 #[.val (.ref a), .val (.ref x), .unset] [(.ref x)])) st2 ?_
    refine own_go (U' := T2.setTop (mkF m 19 #[.val (.ref a), .val (.ref x), .val (.ref x)] [])) (fun t k => XS.astoreN X2.here hx rfl (hb hby deq10_18) rfl rfl (l' := #[.val (.ref a), .val (.ref x), .val (.ref x)]) rfl k) ?_
    obtain ⟨T3, X3, e3, st3⟩ := getS2 X2 hx hZ hown (host := "") (Or.inl (hw _ (List.mem_of_getElem? (i := 59) rfl))) Via.refl e2 (S_cs.ext O.2) (g := (mkF m 19 #[.val (.ref a), .val (.ref x), .val (.ref x)] [])) rfl (hb hby deq10_19)
    refine own_go (U' := T3.setTop (mkF m 22 #[.val (.ref a), .val (.ref x), .val (.ref x)] [(.int cs)])) st3 ?_
    refine own_go (U' := T3.setTop (mkF m 25 #[.val (.ref a), .val (.ref x), .val (.ref x)] [])) (fun t k => XS.ifNo X3.here hx rfl (hb hby deq10_22) rfl ((if0 _ _).trans (feq hcs).1) k) ?_
    refine own_go (U' := T3.setTop (mkF m 26 #[.val (.ref a), .val (.ref x), .val (.ref x)] [(.ref a)])) (fun t k => XS.aloadN X3.here hx rfl (hb hby deq10_25) rfl rfl k) ?_
    obtain ⟨T4, X4, e4, st4⟩ := getF X3 hx hZ hown (host := "") (Or.inl (hw _ (List.mem_of_getElem? (i := 25) rfl))) Via.refl e3 F_coder_a (g := (mkF m 26 #[.val (.ref a), .val (.ref x), .val (.ref x)] [(.ref a)])) rfl rfl (hb hby deq10_26)
    refine own_go (U' := T4.setTop (mkF m 29 #[.val (.ref a), .val (.ref x), .val (.ref x)] [(.int (0 : Int32))])) st4 ?_
    refine own_go (U' := T4.setTop (mkF m 30 #[.val (.ref a), .val (.ref x), .val (.ref x)] [(.ref x), (.int (0 : Int32))])) (fun t k => XS.aloadN X4.here hx rfl (hb hby deq10_29) rfl rfl k) ?_
    obtain ⟨T5, X5, e5, st5⟩ := getF X4 hx hZ hown (host := "") (Or.inl (hw _ (List.mem_of_getElem? (i := 25) rfl))) Via.refl e4 F_coder_x (g := (mkF m 30 #[.val (.ref a), .val (.ref x), .val (.ref x)] [(.ref x), (.int (0 : Int32))])) rfl rfl (hb hby deq10_30)
    refine own_go (U' := T5.setTop (mkF m 33 #[.val (.ref a), .val (.ref x), .val (.ref x)] [(.int (0 : Int32)), (.int (0 : Int32))])) st5 ?_
    refine own_go (U' := T5.setTop (mkF m 36 #[.val (.ref a), .val (.ref x), .val (.ref x)] [])) (fun t k => XS.icmpNo X5.here hx rfl (hb hby deq10_33) rfl (teq (by decide)).2 k) ?_
    refine own_go (U' := T5.setTop (mkF m 37 #[.val (.ref a), .val (.ref x), .val (.ref x)] [(.ref a)])) (fun t k => XS.aloadN X5.here hx rfl (hb hby deq10_36) rfl rfl k) ?_
    obtain ⟨T6, X6, e6, st6⟩ := getF X5 hx hZ hown (host := "") (Or.inl (hw _ (List.mem_of_getElem? (i := 24) rfl))) Via.refl e5 F_value_a (g := (mkF m 37 #[.val (.ref a), .val (.ref x), .val (.ref x)] [(.ref a)])) rfl rfl (hb hby deq10_37)
    refine own_go (U' := T6.setTop (mkF m 40 #[.val (.ref a), .val (.ref x), .val (.ref x)] [(.ref b)])) st6 ?_
    refine own_go (U' := T6.setTop (mkF m 41 #[.val (.ref a), .val (.ref x), .val (.ref x)] [(.ref x), (.ref b)])) (fun t k => XS.aloadN X6.here hx rfl (hb hby deq10_40) rfl rfl k) ?_
    obtain ⟨T7, X7, e7, st7⟩ := getF X6 hx hZ hown (host := "") (Or.inl (hw _ (List.mem_of_getElem? (i := 24) rfl))) Via.refl e6 F_value_x (g := (mkF m 41 #[.val (.ref a), .val (.ref x), .val (.ref x)] [(.ref x), (.ref b)])) rfl rfl (hb hby deq10_41)
    refine own_go (U' := T7.setTop (mkF m 44 #[.val (.ref a), .val (.ref x), .val (.ref x)] [(.ref y), (.ref b)])) st7 ?_
    obtain ⟨v8, T8, h8, L8, e8, X8, hQ8, st8⟩ := own_callS X7 hx hZ (y := (⟨"java/lang/StringLatin1", "equals", "([B[B)Z"⟩ : MethodName)) hown (hw _ (List.mem_of_getElem? (i := 60) rfl)) (hw _ (List.mem_of_getElem? (i := 61) rfl)) (hw _ (List.mem_of_getElem? (i := 62) rfl)) (hw _ (List.mem_of_getElem? (i := 63) rfl)) (by decide) (own_rmlq23 l Z a0 hw b y h0 x0 x1 y0 y1 y2 _ _ V_b V_y) (W := 0) (by decide) (by decide) (g := (mkF m 44 #[.val (.ref a), .val (.ref x), .val (.ref x)] [(.ref y), (.ref b)])) rfl (by rw [hml]; rfl) (argsL := [(.ref b), (.ref y)]) (rest := []) (lenOf own_pd6 rfl) rfl rfl (by show 2 * 0 + _ ≤ _; exact Nat.le_of_eq rfl) (hb hby deq10_44) e7 (by decide) (by decide)
    obtain ⟨rfl, rfl, eh8⟩ := hQ8
    have e8 := e8.trans eh8
    rw [List.append_nil] at X8
    refine own_go (U' := T8.setTop (mkF m 47 #[.val (.ref a), .val (.ref x), .val (.ref x)] [(.int (0 : Int32))])) st8 ?_
    refine own_go (U' := T8.setTop (mkF m 54 #[.val (.ref a), .val (.ref x), .val (.ref x)] [])) (fun t k => XS.ifYes X8.here hx rfl (pc0 := 47) (pc' := 54) rfl (hb hby deq10_47) rfl ((if0 _ _).trans (teq (by decide)).1) (by decide) (by decide) k) ?_
    refine own_go (U' := T8.setTop (mkF m 55 #[.val (.ref a), .val (.ref x), .val (.ref x)] [(.int (0 : Int32))])) (fun t k => XS.iconst X8.here hx rfl (hb hby deq10_54) k) ?_
    refine own_retN X8 hx (t := .boolean) hret (by simp) hlk (hb hby deq10_55) ?_ (by decide) (by decide)
    exact ⟨rfl, rfl, e8⟩
theorem own_efeqn (m : MethodId) (a : Addr) : entryFrame m #[(.ref a), .null] 3 = mkF m 0 #[.val (.ref a), .val .null, .unset] [] := by first | (simp [entryFrame, mkF, argsToLocals, Value.category]; done) | rfl
set_option maxRecDepth 65536 in
set_option maxHeartbeats 40000000 in
theorem own_rmeqn (l : Launch) (Z : State) (a0 : Array Value) (hw : ∀ d ∈ tables_1, d.before a0 Z = true) (a : Addr) (h0 : Heap)  :
    own_C l Z (⟨"java/lang/String", "equals", "(Ljava/lang/Object;)Z"⟩ : MethodName) jdk_42_method_66_code 3 (some .boolean) [] ({ frames := 0, cells := 0, slots := 0, locals := 0 } : Room) #[(.ref a), .null] h0 (fun v h L => v = some (.int 0) ∧ L = [] ∧ h = h0) := by
  refine own_body (plainFor_of_name own_pn1) fun p e s m below meth c s₁ hx hby hml hret hlk hown hnm hZ X0 e0 => ?_
  rw [own_efeqn m a]
  refine own_go (U' := s₁.setTop (mkF m 1 #[.val (.ref a), .val .null, .unset] [(.ref a)])) (fun t k => XS.aloadN X0.here hx rfl (hb hby deq10_0) rfl rfl k) ?_
  refine own_go (U' := s₁.setTop (mkF m 2 #[.val (.ref a), .val .null, .unset] [.null, (.ref a)])) (fun t k => XS.aloadN X0.here hx rfl (hb hby deq10_1) rfl rfl k) ?_
  refine own_go (U' := s₁.setTop (mkF m 7 #[.val (.ref a), .val .null, .unset] [])) (fun t k => Jvm.RoadKit.acmp (g := (mkF m 2 #[.val (.ref a), .val .null, .unset] [.null, (.ref a)])) X0 hx rfl rfl rfl (pc0 := 2) (pc' := 7) (same := false) rfl (hb hby deq10_2) rfl (decide_eq_false nofun) (by decide) (by decide) k) ?_
  refine own_go (U' := s₁.setTop (mkF m 8 #[.val (.ref a), .val .null, .unset] [.null])) (fun t k => XS.aloadN X0.here hx rfl (hb hby deq10_7) rfl rfl k) ?_
  refine own_go (U' := s₁.setTop (mkF m 11 #[.val (.ref a), .val .null, .unset] [(.int (0 : Int32))])) (X0.instanceofNull hx (g := (mkF m 8 #[.val (.ref a), .val .null, .unset] [.null])) rfl rfl (hb hby deq10_8)) ?_
  refine own_go (U' := s₁.setTop (mkF m 54 #[.val (.ref a), .val .null, .unset] [])) (fun t k => XS.ifYes X0.here hx rfl (pc0 := 11) (pc' := 54) rfl (hb hby deq10_11) rfl ((if0 _ _).trans (teq (by decide)).1) (by decide) (by decide) k) ?_
  refine own_go (U' := s₁.setTop (mkF m 55 #[.val (.ref a), .val .null, .unset] [(.int (0 : Int32))])) (fun t k => XS.iconst X0.here hx rfl (hb hby deq10_54) k) ?_
  refine own_retN X0 hx (t := .boolean) hret (by simp) hlk (hb hby deq10_55) ?_ (by decide) (by decide)
  exact ⟨rfl, rfl, e0⟩
theorem own_pd8 : parseMethodDescriptor "(I)C" = some ⟨[.int], some .char⟩ := by decide +kernel
theorem own_pd9 : parseMethodDescriptor "()[Lcom/example/pagemark/pagemark/statements/Restriction$Operator;" = some ⟨[], some (.array (.object "com/example/pagemark/pagemark/statements/Restriction$Operator"))⟩ := by decide +kernel
theorem own_pd10 : parseMethodDescriptor "(Ljava/lang/String;)Lcom/example/pagemark/pagemark/statements/Restriction$Operator;" = some ⟨[(.object "java/lang/String")], some (.object "com/example/pagemark/pagemark/statements/Restriction$Operator")⟩ := by decide +kernel
theorem dpk_0 : decode method_2_code 0 = .ok (.iload_n 0, 1) := by decide +kernel
theorem dpk_1 : decode method_2_code 1 = .ok (.bipush 7, 2) := by decide +kernel
theorem dpk_3 : decode method_2_code 3 = .ok (.iand, 1) := by decide +kernel
theorem dpk_4 : decode method_2_code 4 = .ok (.istore_n 1, 1) := by decide +kernel
theorem dpk_5 : decode method_2_code 5 = .ok (.iload_n 1, 1) := by decide +kernel
theorem dpk_6 : decode method_2_code 6 = .ok (.ifCond .ne 6, 3) := by decide +kernel
theorem dpk_9 : decode method_2_code 9 = .ok (.bipush 61, 2) := by decide +kernel
theorem dpk_11 : decode method_2_code 11 = .ok (.ireturn, 1) := by decide +kernel
theorem dpk_12 : decode method_2_code 12 = .ok (.iload_n 1, 1) := by decide +kernel
theorem dpk_13 : decode method_2_code 13 = .ok (.iconst 1, 1) := by decide +kernel
theorem dpk_14 : decode method_2_code 14 = .ok (.if_icmp .ne 6, 3) := by decide +kernel
theorem dpk_17 : decode method_2_code 17 = .ok (.bipush 60, 2) := by decide +kernel
theorem dpk_19 : decode method_2_code 19 = .ok (.ireturn, 1) := by decide +kernel
theorem dpk_20 : decode method_2_code 20 = .ok (.iload_n 1, 1) := by decide +kernel
theorem dpk_21 : decode method_2_code 21 = .ok (.iconst 2, 1) := by decide +kernel
theorem dpk_22 : decode method_2_code 22 = .ok (.if_icmp .ne 6, 3) := by decide +kernel
theorem dpk_25 : decode method_2_code 25 = .ok (.bipush 62, 2) := by decide +kernel
theorem dpk_27 : decode method_2_code 27 = .ok (.ireturn, 1) := by decide +kernel
theorem dpk_28 : decode method_2_code 28 = .ok (.iload_n 1, 1) := by decide +kernel
theorem dpk_29 : decode method_2_code 29 = .ok (.iconst 3, 1) := by decide +kernel
theorem dpk_30 : decode method_2_code 30 = .ok (.if_icmp .ne 6, 3) := by decide +kernel
theorem dpk_33 : decode method_2_code 33 = .ok (.bipush 73, 2) := by decide +kernel
theorem dpk_35 : decode method_2_code 35 = .ok (.ireturn, 1) := by decide +kernel
theorem dpk_36 : decode method_2_code 36 = .ok (.iload_n 1, 1) := by decide +kernel
theorem dpk_37 : decode method_2_code 37 = .ok (.iconst 4, 1) := by decide +kernel
theorem dpk_38 : decode method_2_code 38 = .ok (.if_icmp .ne 6, 3) := by decide +kernel
theorem dpk_41 : decode method_2_code 41 = .ok (.bipush 78, 2) := by decide +kernel
theorem dpk_43 : decode method_2_code 43 = .ok (.ireturn, 1) := by decide +kernel
theorem dpk_44 : decode method_2_code 44 = .ok (.iload_n 1, 1) := by decide +kernel
theorem dpk_45 : decode method_2_code 45 = .ok (.iconst 5, 1) := by decide +kernel
theorem dpk_46 : decode method_2_code 46 = .ok (.if_icmp .ne 6, 3) := by decide +kernel
theorem dpk_49 : decode method_2_code 49 = .ok (.bipush 105, 2) := by decide +kernel
theorem dpk_51 : decode method_2_code 51 = .ok (.ireturn, 1) := by decide +kernel
theorem dpk_52 : decode method_2_code 52 = .ok (.iload_n 0, 1) := by decide +kernel
theorem dpk_53 : decode method_2_code 53 = .ok (.iconst 3, 1) := by decide +kernel
theorem dpk_54 : decode method_2_code 54 = .ok (.iushr, 1) := by decide +kernel
theorem dpk_55 : decode method_2_code 55 = .ok (.sipush 255, 3) := by decide +kernel
theorem dpk_58 : decode method_2_code 58 = .ok (.iand, 1) := by decide +kernel
theorem dpk_59 : decode method_2_code 59 = .ok (.i2c, 1) := by decide +kernel
theorem dpk_60 : decode method_2_code 60 = .ok (.ireturn, 1) := by decide +kernel
theorem own_pn3 : plainName "com/example/pagemark/pagemark/statements/OperatorOfSymbolPinLaw" = true := by first | (simp [plainName, overriddenIn]; done) | decide +kernel
theorem own_efpk (m : MethodId) (p1 : Int32) : entryFrame m #[(.int p1)] 2 = mkF m 0 #[.val (.int p1), .unset] [] := by first | (simp [entryFrame, mkF, argsToLocals, Value.category]; done) | rfl
set_option maxRecDepth 65536 in
set_option maxHeartbeats 40000000 in
theorem own_rmpk (l : Launch) (Z : State) (a0 : Array Value) (hw : ∀ d ∈ tables_1, d.before a0 Z = true) (p1 : Int32) (h0 : Heap)  :
    own_C l Z (⟨"com/example/pagemark/pagemark/statements/OperatorOfSymbolPinLaw", "pick", "(I)C"⟩ : MethodName) method_2_code 2 (some .char) [] ({ frames := 0, cells := 0, slots := 0, locals := 0 } : Room) #[(.int p1)] h0 (fun v h L => ∃ c, v = some (.int c) ∧ ¬ c < 0 ∧ ¬ (255 : Int32) < c ∧ L = [] ∧ h = h0) := by
  refine own_body (plainFor_of_name own_pn3) fun p e s m below meth c s₁ hx hby hml hret hlk hown hnm hZ X0 e0 => ?_
  rw [own_efpk m p1]
  refine own_go (U' := s₁.setTop (mkF m 1 #[.val (.int p1), .unset] [(.int p1)])) (fun t k => XS.iloadN X0.here hx rfl (hb hby dpk_0) rfl k) ?_
  refine own_go (U' := s₁.setTop (mkF m 3 #[.val (.int p1), .unset] [(.int (7 : Int32)), (.int p1)])) (fun t k => XS.bipush X0.here hx rfl (hb hby dpk_1) k) ?_
  refine own_go (U' := s₁.setTop (mkF m 4 #[.val (.int p1), .unset] [(.int (p1 &&& (7 : Int32)))])) (fun t k => XS.iand X0.here hx rfl (hb hby dpk_3) rfl k) ?_
  refine own_go (U' := s₁.setTop (mkF m 5 #[.val (.int p1), .val (.int (p1 &&& (7 : Int32)))] [])) (fun t k => XS.istoreN X0.here hx rfl (hb hby dpk_4) rfl (l' := #[.val (.int p1), .val (.int (p1 &&& (7 : Int32)))]) rfl k) ?_
  refine own_go (U' := s₁.setTop (mkF m 6 #[.val (.int p1), .val (.int (p1 &&& (7 : Int32)))] [(.int (p1 &&& (7 : Int32)))])) (fun t k => XS.iloadN X0.here hx rfl (hb hby dpk_5) rfl k) ?_
  by_cases hc6 : (p1 &&& (7 : Int32)) = (0 : Int32)
  · refine own_go (U' := s₁.setTop (mkF m 9 #[.val (.int p1), .val (.int (p1 &&& (7 : Int32)))] [])) (fun t k => XS.ifNo X0.here hx rfl (hb hby dpk_6) rfl ((if0 _ _).trans (teq hc6).2) k) ?_
    refine own_go (U' := s₁.setTop (mkF m 11 #[.val (.int p1), .val (.int (p1 &&& (7 : Int32)))] [(.int (61 : Int32))])) (fun t k => XS.bipush X0.here hx rfl (hb hby dpk_9) k) ?_
    refine own_retN X0 hx (t := .char) hret (by simp) hlk (hb hby dpk_11) ?_ (by decide) (by decide)
    exact ⟨_, rfl, (by decide), (by decide), rfl, e0⟩
  · refine own_go (U' := s₁.setTop (mkF m 12 #[.val (.int p1), .val (.int (p1 &&& (7 : Int32)))] [])) (fun t k => XS.ifYes X0.here hx rfl (pc0 := 6) (pc' := 12) rfl (hb hby dpk_6) rfl ((if0 _ _).trans (feq hc6).2) (by decide) (by decide) k) ?_
    refine own_go (U' := s₁.setTop (mkF m 13 #[.val (.int p1), .val (.int (p1 &&& (7 : Int32)))] [(.int (p1 &&& (7 : Int32)))])) (fun t k => XS.iloadN X0.here hx rfl (hb hby dpk_12) rfl k) ?_
    refine own_go (U' := s₁.setTop (mkF m 14 #[.val (.int p1), .val (.int (p1 &&& (7 : Int32)))] [(.int (1 : Int32)), (.int (p1 &&& (7 : Int32)))])) (fun t k => XS.iconst X0.here hx rfl (hb hby dpk_13) k) ?_
    by_cases hc14 : (p1 &&& (7 : Int32)) = (1 : Int32)
    · refine own_go (U' := s₁.setTop (mkF m 17 #[.val (.int p1), .val (.int (p1 &&& (7 : Int32)))] [])) (fun t k => XS.icmpNo X0.here hx rfl (hb hby dpk_14) rfl (teq hc14).2 k) ?_
      refine own_go (U' := s₁.setTop (mkF m 19 #[.val (.int p1), .val (.int (p1 &&& (7 : Int32)))] [(.int (60 : Int32))])) (fun t k => XS.bipush X0.here hx rfl (hb hby dpk_17) k) ?_
      refine own_retN X0 hx (t := .char) hret (by simp) hlk (hb hby dpk_19) ?_ (by decide) (by decide)
      exact ⟨_, rfl, (by decide), (by decide), rfl, e0⟩
    · refine own_go (U' := s₁.setTop (mkF m 20 #[.val (.int p1), .val (.int (p1 &&& (7 : Int32)))] [])) (fun t k => XS.icmpYes X0.here hx rfl (pc0 := 14) (pc' := 20) rfl (hb hby dpk_14) rfl (feq hc14).2 (by decide) (by decide) k) ?_
      refine own_go (U' := s₁.setTop (mkF m 21 #[.val (.int p1), .val (.int (p1 &&& (7 : Int32)))] [(.int (p1 &&& (7 : Int32)))])) (fun t k => XS.iloadN X0.here hx rfl (hb hby dpk_20) rfl k) ?_
      refine own_go (U' := s₁.setTop (mkF m 22 #[.val (.int p1), .val (.int (p1 &&& (7 : Int32)))] [(.int (2 : Int32)), (.int (p1 &&& (7 : Int32)))])) (fun t k => XS.iconst X0.here hx rfl (hb hby dpk_21) k) ?_
      by_cases hc22 : (p1 &&& (7 : Int32)) = (2 : Int32)
      · refine own_go (U' := s₁.setTop (mkF m 25 #[.val (.int p1), .val (.int (p1 &&& (7 : Int32)))] [])) (fun t k => XS.icmpNo X0.here hx rfl (hb hby dpk_22) rfl (teq hc22).2 k) ?_
        refine own_go (U' := s₁.setTop (mkF m 27 #[.val (.int p1), .val (.int (p1 &&& (7 : Int32)))] [(.int (62 : Int32))])) (fun t k => XS.bipush X0.here hx rfl (hb hby dpk_25) k) ?_
        refine own_retN X0 hx (t := .char) hret (by simp) hlk (hb hby dpk_27) ?_ (by decide) (by decide)
        exact ⟨_, rfl, (by decide), (by decide), rfl, e0⟩
      · refine own_go (U' := s₁.setTop (mkF m 28 #[.val (.int p1), .val (.int (p1 &&& (7 : Int32)))] [])) (fun t k => XS.icmpYes X0.here hx rfl (pc0 := 22) (pc' := 28) rfl (hb hby dpk_22) rfl (feq hc22).2 (by decide) (by decide) k) ?_
        refine own_go (U' := s₁.setTop (mkF m 29 #[.val (.int p1), .val (.int (p1 &&& (7 : Int32)))] [(.int (p1 &&& (7 : Int32)))])) (fun t k => XS.iloadN X0.here hx rfl (hb hby dpk_28) rfl k) ?_
        refine own_go (U' := s₁.setTop (mkF m 30 #[.val (.int p1), .val (.int (p1 &&& (7 : Int32)))] [(.int (3 : Int32)), (.int (p1 &&& (7 : Int32)))])) (fun t k => XS.iconst X0.here hx rfl (hb hby dpk_29) k) ?_
        by_cases hc30 : (p1 &&& (7 : Int32)) = (3 : Int32)
        · refine own_go (U' := s₁.setTop (mkF m 33 #[.val (.int p1), .val (.int (p1 &&& (7 : Int32)))] [])) (fun t k => XS.icmpNo X0.here hx rfl (hb hby dpk_30) rfl (teq hc30).2 k) ?_
          refine own_go (U' := s₁.setTop (mkF m 35 #[.val (.int p1), .val (.int (p1 &&& (7 : Int32)))] [(.int (73 : Int32))])) (fun t k => XS.bipush X0.here hx rfl (hb hby dpk_33) k) ?_
          refine own_retN X0 hx (t := .char) hret (by simp) hlk (hb hby dpk_35) ?_ (by decide) (by decide)
          exact ⟨_, rfl, (by decide), (by decide), rfl, e0⟩
        · refine own_go (U' := s₁.setTop (mkF m 36 #[.val (.int p1), .val (.int (p1 &&& (7 : Int32)))] [])) (fun t k => XS.icmpYes X0.here hx rfl (pc0 := 30) (pc' := 36) rfl (hb hby dpk_30) rfl (feq hc30).2 (by decide) (by decide) k) ?_
          refine own_go (U' := s₁.setTop (mkF m 37 #[.val (.int p1), .val (.int (p1 &&& (7 : Int32)))] [(.int (p1 &&& (7 : Int32)))])) (fun t k => XS.iloadN X0.here hx rfl (hb hby dpk_36) rfl k) ?_
          refine own_go (U' := s₁.setTop (mkF m 38 #[.val (.int p1), .val (.int (p1 &&& (7 : Int32)))] [(.int (4 : Int32)), (.int (p1 &&& (7 : Int32)))])) (fun t k => XS.iconst X0.here hx rfl (hb hby dpk_37) k) ?_
          by_cases hc38 : (p1 &&& (7 : Int32)) = (4 : Int32)
          · refine own_go (U' := s₁.setTop (mkF m 41 #[.val (.int p1), .val (.int (p1 &&& (7 : Int32)))] [])) (fun t k => XS.icmpNo X0.here hx rfl (hb hby dpk_38) rfl (teq hc38).2 k) ?_
            refine own_go (U' := s₁.setTop (mkF m 43 #[.val (.int p1), .val (.int (p1 &&& (7 : Int32)))] [(.int (78 : Int32))])) (fun t k => XS.bipush X0.here hx rfl (hb hby dpk_41) k) ?_
            refine own_retN X0 hx (t := .char) hret (by simp) hlk (hb hby dpk_43) ?_ (by decide) (by decide)
            exact ⟨_, rfl, (by decide), (by decide), rfl, e0⟩
          · refine own_go (U' := s₁.setTop (mkF m 44 #[.val (.int p1), .val (.int (p1 &&& (7 : Int32)))] [])) (fun t k => XS.icmpYes X0.here hx rfl (pc0 := 38) (pc' := 44) rfl (hb hby dpk_38) rfl (feq hc38).2 (by decide) (by decide) k) ?_
            refine own_go (U' := s₁.setTop (mkF m 45 #[.val (.int p1), .val (.int (p1 &&& (7 : Int32)))] [(.int (p1 &&& (7 : Int32)))])) (fun t k => XS.iloadN X0.here hx rfl (hb hby dpk_44) rfl k) ?_
            refine own_go (U' := s₁.setTop (mkF m 46 #[.val (.int p1), .val (.int (p1 &&& (7 : Int32)))] [(.int (5 : Int32)), (.int (p1 &&& (7 : Int32)))])) (fun t k => XS.iconst X0.here hx rfl (hb hby dpk_45) k) ?_
            by_cases hc46 : (p1 &&& (7 : Int32)) = (5 : Int32)
            · refine own_go (U' := s₁.setTop (mkF m 49 #[.val (.int p1), .val (.int (p1 &&& (7 : Int32)))] [])) (fun t k => XS.icmpNo X0.here hx rfl (hb hby dpk_46) rfl (teq hc46).2 k) ?_
              refine own_go (U' := s₁.setTop (mkF m 51 #[.val (.int p1), .val (.int (p1 &&& (7 : Int32)))] [(.int (105 : Int32))])) (fun t k => XS.bipush X0.here hx rfl (hb hby dpk_49) k) ?_
              refine own_retN X0 hx (t := .char) hret (by simp) hlk (hb hby dpk_51) ?_ (by decide) (by decide)
              exact ⟨_, rfl, (by decide), (by decide), rfl, e0⟩
            · refine own_go (U' := s₁.setTop (mkF m 52 #[.val (.int p1), .val (.int (p1 &&& (7 : Int32)))] [])) (fun t k => XS.icmpYes X0.here hx rfl (pc0 := 46) (pc' := 52) rfl (hb hby dpk_46) rfl (feq hc46).2 (by decide) (by decide) k) ?_
              refine own_go (U' := s₁.setTop (mkF m 53 #[.val (.int p1), .val (.int (p1 &&& (7 : Int32)))] [(.int p1)])) (fun t k => XS.iloadN X0.here hx rfl (hb hby dpk_52) rfl k) ?_
              refine own_go (U' := s₁.setTop (mkF m 54 #[.val (.int p1), .val (.int (p1 &&& (7 : Int32)))] [(.int (3 : Int32)), (.int p1)])) (fun t k => XS.iconst X0.here hx rfl (hb hby dpk_53) k) ?_
              refine own_go (U' := s₁.setTop (mkF m 55 #[.val (.int p1), .val (.int (p1 &&& (7 : Int32)))] [(.int ((p1.toUInt32 >>> ((3 : Int32) &&& 31).toUInt32).toInt32))])) (fun t k => XS.iushr X0.here hx rfl (hb hby dpk_54) rfl k) ?_
              refine own_go (U' := s₁.setTop (mkF m 58 #[.val (.int p1), .val (.int (p1 &&& (7 : Int32)))] [(.int (255 : Int32)), (.int ((p1.toUInt32 >>> ((3 : Int32) &&& 31).toUInt32).toInt32))])) (fun t k => XS.sipush X0.here hx rfl (hb hby dpk_55) k) ?_
              refine own_go (U' := s₁.setTop (mkF m 59 #[.val (.int p1), .val (.int (p1 &&& (7 : Int32)))] [(.int (((p1.toUInt32 >>> ((3 : Int32) &&& 31).toUInt32).toInt32) &&& (255 : Int32)))])) (fun t k => XS.iand X0.here hx rfl (hb hby dpk_58) rfl k) ?_
              refine own_go (U' := s₁.setTop (mkF m 60 #[.val (.int p1), .val (.int (p1 &&& (7 : Int32)))] [(.int ((((p1.toUInt32 >>> ((3 : Int32) &&& 31).toUInt32).toInt32) &&& (255 : Int32)).toUInt32.toUInt16.toUInt32.toInt32))])) (fun t k => XS.i2c X0.here hx rfl (hb hby dpk_59) rfl k) ?_
              rw [i2c_mask]
              have hm := own_m255 ((p1.toUInt32 >>> ((3 : Int32) &&& 31).toUInt32).toInt32)
              refine own_retN X0 hx (t := .char) hret (by simp) hlk (hb hby dpk_60) ?_ (by decide) (by decide)
              exact ⟨_, rfl, (by rw [own_narC hm.1 hm.2]; exact hm.1), (by rw [own_narC hm.1 hm.2]; exact hm.2), rfl, e0⟩
theorem dva_0 : decode prog_34_method_1_code 0 = .ok (.getstatic 22, 3) := by decide +kernel
theorem dva_3 : decode prog_34_method_1_code 3 = .ok (.invokevirtual 26, 3) := by decide +kernel
theorem dva_6 : decode prog_34_method_1_code 6 = .ok (.checkcast 27, 3) := by decide +kernel
theorem dva_9 : decode prog_34_method_1_code 9 = .ok (.areturn, 1) := by decide +kernel
theorem own_pn4 : plainName "com/example/pagemark/pagemark/statements/Restriction$Operator" = true := by first | (simp [plainName, overriddenIn]; done) | decide +kernel
theorem own_efva (m : MethodId)  : entryFrame m #[] 0 = mkF m 0 #[] [] := by first | (simp [entryFrame, mkF, argsToLocals, Value.category]; done) | rfl
set_option maxRecDepth 65536 in
set_option maxHeartbeats 40000000 in
theorem own_rmva (l : Launch) (Z : State) (a0 : Array Value) (hw : ∀ d ∈ tables_1, d.before a0 Z = true)  (h0 : Heap) (n0 : Nat) (en0 en1 en2 en3 en4 en5 : Addr) (O : Old Z n0 h0) (vv : Addr) (kv : ClassId) (S_v : Sta Z Z.heap "com/example/pagemark/pagemark/statements/Restriction$Operator" "$VALUES" "[Lcom/example/pagemark/pagemark/statements/Restriction$Operator;" (.ref vv)) (V_v : own_Ar Z Z.heap vv kv (.object "com/example/pagemark/pagemark/statements/Restriction$Operator") [(.ref en0), (.ref en1), (.ref en2), (.ref en3), (.ref en4), (.ref en5)]) (E_v : Exa Z Z.heap vv "[Lcom/example/pagemark/pagemark/statements/Restriction$Operator;") :
    own_C l Z (⟨"com/example/pagemark/pagemark/statements/Restriction$Operator", "values", "()[Lcom/example/pagemark/pagemark/statements/Restriction$Operator;"⟩ : MethodName) prog_34_method_1_code 0 (some (.array (.object "com/example/pagemark/pagemark/statements/Restriction$Operator"))) [] ({ frames := 1, cells := 1, slots := 6, locals := 14 } : Room) #[] h0 (fun v h L => ∃ x, v = some (.ref x) ∧ L = [] ∧ Keep h0 h [] ∧ h0.size ≤ x ∧ own_Ar Z h x kv (.object "com/example/pagemark/pagemark/statements/Restriction$Operator") [(.ref en0), (.ref en1), (.ref en2), (.ref en3), (.ref en4), (.ref en5)]) := by
  refine own_body (plainFor_of_name own_pn4) fun p e s m below meth c s₁ hx hby hml hret hlk hown hnm hZ X0 e0 => ?_
  rw [own_efva m ]
  have N0 := Fr.nil n0
  have K := Keep.refl h0 []
  obtain ⟨T1, X1, e1, st1⟩ := getS2 X0 hx hZ hown (host := "") (Or.inl (hw _ (List.mem_of_getElem? (i := 33) rfl))) Via.refl e0 (S_v.ext O.2) (g := (mkF m 0 #[] [])) rfl (hb hby dva_0)
  refine own_go (U' := T1.setTop (mkF m 3 #[] [(.ref vv)])) st1 ?_
  obtain ⟨T2, h2, X2, e2, E2, A2, Y2, st2⟩ := own_cloneT (ad := "[Lcom/example/pagemark/pagemark/statements/Restriction$Operator;") X1 hx hZ hown (hw _ (List.mem_of_getElem? (i := 35) rfl)) (hw _ (List.mem_of_getElem? (i := 36) rfl)) (hw _ (List.mem_of_getElem? (i := 40) rfl)) (hw _ (List.mem_of_getElem? (i := 38) rfl)) (hw _ (List.mem_of_getElem? (i := 39) rfl)) (hw _ (List.mem_of_getElem? (i := 41) rfl)) e1 (V_v.ext O.2) (E_v.ext O.2) (g := (mkF m 3 #[] [(.ref vv)])) rfl (by rw [hml]; rfl) rfl (hb hby dva_3) (by decide) (W := 0) (cap := 6) (by show 2 * 0 + _ ≤ _; exact Nat.le_of_eq rfl) (by decide) (Nat.le_of_ble_eq_true rfl) (by decide) (by decide)
  obtain ⟨b2, g2⟩ : ∃ z, z = h0.size := ⟨_, rfl⟩
  rw [← g2] at A2 Y2 st2
  have g_b2 : n0 ≤ b2 := Nat.le_trans (Nat.le_trans (Nat.le_of_eq O.1.symm) O.2.1) (Nat.le_of_eq g2.symm)
  have sz_b2 : h0.size ≤ b2 := Nat.le_trans K.1 (Nat.le_of_eq g2.symm)
  have K := K.ext E2
  have O := O.ext E2
  have V_b2 := A2
  have E_b2 := Y2
  refine own_go (U' := T2.setTop (mkF m 6 #[] [(.ref b2)])) st2 ?_
  obtain ⟨T3, X3, e3, st3⟩ := castY X2 hx hZ hown (hw _ (List.mem_of_getElem? (i := 49) rfl)) e2 (Ins.self E_b2) (g := (mkF m 6 #[] [(.ref b2)])) rfl rfl (hb hby dva_6)
  refine own_go (U' := T3.setTop (mkF m 9 #[] [(.ref b2)])) st3 ?_
  refine own_retA X3 hx (t := (.array (.object "com/example/pagemark/pagemark/statements/Restriction$Operator"))) hret rfl hlk rfl (hb hby dva_9) ?_ (by decide) (by decide)
  rw [e3]
  exact ⟨_, rfl, rfl, K, sz_b2, V_b2⟩
theorem dos_0 : decode prog_34_method_4_code 0 = .ok (.invokestatic 45, 3) := by decide +kernel
theorem dos_3 : decode prog_34_method_4_code 3 = .ok (.astore_n 1, 1) := by decide +kernel
theorem dos_4 : decode prog_34_method_4_code 4 = .ok (.aload_n 1, 1) := by decide +kernel
theorem dos_5 : decode prog_34_method_4_code 5 = .ok (.arraylength, 1) := by decide +kernel
theorem dos_6 : decode prog_34_method_4_code 6 = .ok (.istore_n 2, 1) := by decide +kernel
theorem dos_7 : decode prog_34_method_4_code 7 = .ok (.iconst 0, 1) := by decide +kernel
theorem dos_8 : decode prog_34_method_4_code 8 = .ok (.istore_n 3, 1) := by decide +kernel
theorem dos_9 : decode prog_34_method_4_code 9 = .ok (.iload_n 3, 1) := by decide +kernel
theorem dos_10 : decode prog_34_method_4_code 10 = .ok (.iload_n 2, 1) := by decide +kernel
theorem dos_11 : decode prog_34_method_4_code 11 = .ok (.if_icmp .ge 29, 3) := by decide +kernel
theorem dos_14 : decode prog_34_method_4_code 14 = .ok (.aload_n 1, 1) := by decide +kernel
theorem dos_15 : decode prog_34_method_4_code 15 = .ok (.iload_n 3, 1) := by decide +kernel
theorem dos_16 : decode prog_34_method_4_code 16 = .ok (.aaload, 1) := by decide +kernel
theorem dos_17 : decode prog_34_method_4_code 17 = .ok (.astore 4, 2) := by decide +kernel
theorem dos_19 : decode prog_34_method_4_code 19 = .ok (.aload 4, 2) := by decide +kernel
theorem dos_21 : decode prog_34_method_4_code 21 = .ok (.getfield 41, 3) := by decide +kernel
theorem dos_24 : decode prog_34_method_4_code 24 = .ok (.aload_n 0, 1) := by decide +kernel
theorem dos_25 : decode prog_34_method_4_code 25 = .ok (.invokevirtual 49, 3) := by decide +kernel
theorem dos_28 : decode prog_34_method_4_code 28 = .ok (.ifCond .eq 6, 3) := by decide +kernel
theorem dos_31 : decode prog_34_method_4_code 31 = .ok (.aload 4, 2) := by decide +kernel
theorem dos_33 : decode prog_34_method_4_code 33 = .ok (.areturn, 1) := by decide +kernel
theorem dos_34 : decode prog_34_method_4_code 34 = .ok (.iinc 3 1, 3) := by decide +kernel
theorem dos_37 : decode prog_34_method_4_code 37 = .ok (.goto (-28), 3) := by decide +kernel
theorem dos_40 : decode prog_34_method_4_code 40 = .ok (.aconst_null, 1) := by decide +kernel
theorem dos_41 : decode prog_34_method_4_code 41 = .ok (.areturn, 1) := by decide +kernel
theorem own_efosn (m : MethodId)  : entryFrame m #[.null] 5 = mkF m 0 #[.val .null, .unset, .unset, .unset, .unset] [] := by first | (simp [entryFrame, mkF, argsToLocals, Value.category]; done) | rfl
set_option maxRecDepth 65536 in
set_option maxHeartbeats 40000000 in
theorem own_rmosn (l : Launch) (Z : State) (a0 : Array Value) (hw : ∀ d ∈ tables_1, d.before a0 Z = true)  (h0 : Heap) (n0 : Nat) (en0 en1 en2 en3 en4 en5 : Addr) (O : Old Z n0 h0) (vv : Addr) (kv : ClassId) (S_v : Sta Z Z.heap "com/example/pagemark/pagemark/statements/Restriction$Operator" "$VALUES" "[Lcom/example/pagemark/pagemark/statements/Restriction$Operator;" (.ref vv)) (V_v : own_Ar Z Z.heap vv kv (.object "com/example/pagemark/pagemark/statements/Restriction$Operator") [(.ref en0), (.ref en1), (.ref en2), (.ref en3), (.ref en4), (.ref en5)]) (E_v : Exa Z Z.heap vv "[Lcom/example/pagemark/pagemark/statements/Restriction$Operator;") (tx0 tx1 tx2 tx3 tx4 tx5 bx0 bx1 bx2 bx3 bx4 bx5 : Addr) (kx0 kx1 kx2 kx3 kx4 kx5 : ClassId) (FT0 : Fld Z Z.heap en0 "com/example/pagemark/pagemark/statements/Restriction$Operator" "text" "Ljava/lang/String;" (.ref tx0)) (ET0 : Exa Z Z.heap tx0 "java/lang/String") (FC0 : Fld Z Z.heap tx0 "java/lang/String" "coder" "B" (.int 0)) (FV0 : Fld Z Z.heap tx0 "java/lang/String" "value" "[B" (.ref bx0)) (VB0 : own_Ar Z Z.heap bx0 kx0 .byte [.int (61 : Int32)]) (FT1 : Fld Z Z.heap en1 "com/example/pagemark/pagemark/statements/Restriction$Operator" "text" "Ljava/lang/String;" (.ref tx1)) (ET1 : Exa Z Z.heap tx1 "java/lang/String") (FC1 : Fld Z Z.heap tx1 "java/lang/String" "coder" "B" (.int 0)) (FV1 : Fld Z Z.heap tx1 "java/lang/String" "value" "[B" (.ref bx1)) (VB1 : own_Ar Z Z.heap bx1 kx1 .byte [.int (60 : Int32)]) (FT2 : Fld Z Z.heap en2 "com/example/pagemark/pagemark/statements/Restriction$Operator" "text" "Ljava/lang/String;" (.ref tx2)) (ET2 : Exa Z Z.heap tx2 "java/lang/String") (FC2 : Fld Z Z.heap tx2 "java/lang/String" "coder" "B" (.int 0)) (FV2 : Fld Z Z.heap tx2 "java/lang/String" "value" "[B" (.ref bx2)) (VB2 : own_Ar Z Z.heap bx2 kx2 .byte [.int (60 : Int32), .int (61 : Int32)]) (FT3 : Fld Z Z.heap en3 "com/example/pagemark/pagemark/statements/Restriction$Operator" "text" "Ljava/lang/String;" (.ref tx3)) (ET3 : Exa Z Z.heap tx3 "java/lang/String") (FC3 : Fld Z Z.heap tx3 "java/lang/String" "coder" "B" (.int 0)) (FV3 : Fld Z Z.heap tx3 "java/lang/String" "value" "[B" (.ref bx3)) (VB3 : own_Ar Z Z.heap bx3 kx3 .byte [.int (62 : Int32)]) (FT4 : Fld Z Z.heap en4 "com/example/pagemark/pagemark/statements/Restriction$Operator" "text" "Ljava/lang/String;" (.ref tx4)) (ET4 : Exa Z Z.heap tx4 "java/lang/String") (FC4 : Fld Z Z.heap tx4 "java/lang/String" "coder" "B" (.int 0)) (FV4 : Fld Z Z.heap tx4 "java/lang/String" "value" "[B" (.ref bx4)) (VB4 : own_Ar Z Z.heap bx4 kx4 .byte [.int (62 : Int32), .int (61 : Int32)]) (FT5 : Fld Z Z.heap en5 "com/example/pagemark/pagemark/statements/Restriction$Operator" "text" "Ljava/lang/String;" (.ref tx5)) (ET5 : Exa Z Z.heap tx5 "java/lang/String") (FC5 : Fld Z Z.heap tx5 "java/lang/String" "coder" "B" (.int 0)) (FV5 : Fld Z Z.heap tx5 "java/lang/String" "value" "[B" (.ref bx5)) (VB5 : own_Ar Z Z.heap bx5 kx5 .byte [.int (73 : Int32), .int (78 : Int32)]) (cs : Int32) (hcs : cs ≠ 0) (S_cs : Sta Z Z.heap "java/lang/String" "COMPACT_STRINGS" "Z" (.int cs)) :
    own_C l Z (⟨"com/example/pagemark/pagemark/statements/Restriction$Operator", "ofSymbol", "(Ljava/lang/String;)Lcom/example/pagemark/pagemark/statements/Restriction$Operator;"⟩ : MethodName) prog_34_method_4_code 5 (some (.object "com/example/pagemark/pagemark/statements/Restriction$Operator")) [] ({ frames := 2, cells := 1, slots := 6, locals := 60 } : Room) #[.null] h0 (fun v h L => v = some .null ∧ L = [] ∧ Keep h0 h []) := by
  refine own_body (plainFor_of_name own_pn4) fun p e s m below meth c s₁ hx hby hml hret hlk hown hnm hZ X0 e0 => ?_
  rw [own_efosn m ]
  have N0 := Fr.nil n0
  have K := Keep.refl h0 []
  obtain ⟨v1, T1, h1, L1, e1, X1, hQ1, st1⟩ := own_callS X0 hx hZ (y := (⟨"com/example/pagemark/pagemark/statements/Restriction$Operator", "values", "()[Lcom/example/pagemark/pagemark/statements/Restriction$Operator;"⟩ : MethodName)) hown (hw _ (List.mem_of_getElem? (i := 30) rfl)) (hw _ (List.mem_of_getElem? (i := 31) rfl)) (hw _ (List.mem_of_getElem? (i := 28) rfl)) (hw _ (List.mem_of_getElem? (i := 32) rfl)) (by decide) (own_rmva l Z a0 hw h0 n0 en0 en1 en2 en3 en4 en5 O vv kv S_v V_v E_v) (W := 0) (by decide) (by decide) (g := (mkF m 0 #[.val .null, .unset, .unset, .unset, .unset] [])) rfl (by rw [hml]; rfl) (argsL := []) (rest := []) (lenOf own_pd9 rfl) rfl rfl (by show 2 * 0 + _ ≤ _; exact Nat.le_of_eq rfl) (hb hby dos_0) e0 (by decide) (by decide)
  obtain ⟨z, rfl, rfl, Kq, sz_z, V_z⟩ := hQ1
  rw [List.append_nil] at X1
  have K := K.trans Kq all0
  have O := O.keep Kq all0
  refine own_go (U' := T1.setTop (mkF m 3 #[.val .null, .unset, .unset, .unset, .unset] [(.ref z)])) st1 ?_
  have E_t0 := ET0.ext O.2
  have E_t1 := ET1.ext O.2
  have E_t2 := ET2.ext O.2
  have E_t3 := ET3.ext O.2
  have E_t4 := ET4.ext O.2
  have E_t5 := ET5.ext O.2
  refine own_go (U' := T1.setTop (mkF m 4 #[.val .null, .val (.ref z), .unset, .unset, .unset] [])) (fun t k => XS.astoreN X1.here hx rfl (hb hby dos_3) rfl rfl (l' := #[.val .null, .val (.ref z), .unset, .unset, .unset]) rfl k) ?_
  refine own_go (U' := T1.setTop (mkF m 5 #[.val .null, .val (.ref z), .unset, .unset, .unset] [(.ref z)])) (fun t k => XS.aloadN X1.here hx rfl (hb hby dos_4) rfl rfl k) ?_
  refine own_go (U' := T1.setTop (mkF m 6 #[.val .null, .val (.ref z), .unset, .unset, .unset] [(.int (6 : Int32))])) (own_arrlen X1 hx hZ e1 V_z (n := (6 : Int32)) rfl (g := (mkF m 5 #[.val .null, .val (.ref z), .unset, .unset, .unset] [(.ref z)])) rfl rfl (hb hby dos_5)) ?_
  refine own_go (U' := T1.setTop (mkF m 7 #[.val .null, .val (.ref z), .val (.int (6 : Int32)), .unset, .unset] [])) (fun t k => XS.istoreN X1.here hx rfl (hb hby dos_6) rfl (l' := #[.val .null, .val (.ref z), .val (.int (6 : Int32)), .unset, .unset]) rfl k) ?_
  refine own_go (U' := T1.setTop (mkF m 8 #[.val .null, .val (.ref z), .val (.int (6 : Int32)), .unset, .unset] [(.int (0 : Int32))])) (fun t k => XS.iconst X1.here hx rfl (hb hby dos_7) k) ?_
  refine own_go (U' := T1.setTop (mkF m 9 #[.val .null, .val (.ref z), .val (.int (6 : Int32)), .val (.int (0 : Int32)), .unset] [])) (fun t k => XS.istoreN X1.here hx rfl (hb hby dos_8) rfl (l' := #[.val .null, .val (.ref z), .val (.int (6 : Int32)), .val (.int (0 : Int32)), .unset]) rfl k) ?_
  refine own_go (U' := T1.setTop (mkF m 10 #[.val .null, .val (.ref z), .val (.int (6 : Int32)), .val (.int (0 : Int32)), .unset] [(.int (0 : Int32))])) (fun t k => XS.iloadN X1.here hx rfl (hb hby dos_9) rfl k) ?_
  refine own_go (U' := T1.setTop (mkF m 11 #[.val .null, .val (.ref z), .val (.int (6 : Int32)), .val (.int (0 : Int32)), .unset] [(.int (6 : Int32)), (.int (0 : Int32))])) (fun t k => XS.iloadN X1.here hx rfl (hb hby dos_10) rfl k) ?_
  refine own_go (U' := T1.setTop (mkF m 14 #[.val .null, .val (.ref z), .val (.int (6 : Int32)), .val (.int (0 : Int32)), .unset] [])) (fun t k => XS.icmpNo X1.here hx rfl (hb hby dos_11) rfl (tlt (by decide)).2.1 k) ?_
  refine own_go (U' := T1.setTop (mkF m 15 #[.val .null, .val (.ref z), .val (.int (6 : Int32)), .val (.int (0 : Int32)), .unset] [(.ref z)])) (fun t k => XS.aloadN X1.here hx rfl (hb hby dos_14) rfl rfl k) ?_
  refine own_go (U' := T1.setTop (mkF m 16 #[.val .null, .val (.ref z), .val (.int (6 : Int32)), .val (.int (0 : Int32)), .unset] [(.int (0 : Int32)), (.ref z)])) (fun t k => XS.iloadN X1.here hx rfl (hb hby dos_15) rfl k) ?_
  refine own_go (U' := T1.setTop (mkF m 17 #[.val .null, .val (.ref z), .val (.int (6 : Int32)), .val (.int (0 : Int32)), .unset] [(.ref en0)])) (own_aaload X1 hx hZ e1 V_z rfl (j := (0 : Int32)) (by decide) (i := 0) rfl (v := (.ref en0)) rfl (g := (mkF m 16 #[.val .null, .val (.ref z), .val (.int (6 : Int32)), .val (.int (0 : Int32)), .unset] [(.int (0 : Int32)), (.ref z)])) rfl rfl (hb hby dos_16)) ?_
  refine own_go (U' := T1.setTop (mkF m 19 #[.val .null, .val (.ref z), .val (.int (6 : Int32)), .val (.int (0 : Int32)), .val (.ref en0)] [])) (fun t k => XS.astore X1.here hx rfl (hb hby dos_17) rfl rfl (l' := #[.val .null, .val (.ref z), .val (.int (6 : Int32)), .val (.int (0 : Int32)), .val (.ref en0)]) rfl k) ?_
  refine own_go (U' := T1.setTop (mkF m 21 #[.val .null, .val (.ref z), .val (.int (6 : Int32)), .val (.int (0 : Int32)), .val (.ref en0)] [(.ref en0)])) (fun t k => XS.aload X1.here hx rfl (hb hby dos_19) rfl rfl k) ?_
  obtain ⟨T2, X2, e2, st2⟩ := getF X1 hx hZ hown (host := "") (Or.inl (hw _ (List.mem_of_getElem? (i := 51) rfl))) Via.refl e1 (FT0.ext O.2) (g := (mkF m 21 #[.val .null, .val (.ref z), .val (.int (6 : Int32)), .val (.int (0 : Int32)), .val (.ref en0)] [(.ref en0)])) rfl rfl (hb hby dos_21)
  refine own_go (U' := T2.setTop (mkF m 24 #[.val .null, .val (.ref z), .val (.int (6 : Int32)), .val (.int (0 : Int32)), .val (.ref en0)] [(.ref tx0)])) st2 ?_
  refine own_go (U' := T2.setTop (mkF m 25 #[.val .null, .val (.ref z), .val (.int (6 : Int32)), .val (.int (0 : Int32)), .val (.ref en0)] [.null, (.ref tx0)])) (fun t k => XS.aloadN X2.here hx rfl (hb hby dos_24) rfl rfl k) ?_
  obtain ⟨v3, T3, h3, L3, e3, X3, hQ3, st3⟩ := own_callV X2 hx hZ (y := (⟨"java/lang/String", "equals", "(Ljava/lang/Object;)Z"⟩ : MethodName)) (z := (⟨"java/lang/String", "equals", "(Ljava/lang/Object;)Z"⟩ : MethodName)) hown (hw _ (List.mem_of_getElem? (i := 53) rfl)) (hw _ (List.mem_of_getElem? (i := 54) rfl)) (notFace_of_selects (args := #[]) (mvT hZ (hw _ (List.mem_of_getElem? (i := 56) rfl)))) (hw _ (List.mem_of_getElem? (i := 56) rfl)) (hw _ (List.mem_of_getElem? (i := 55) rfl)) (hw _ (List.mem_of_getElem? (i := 7) rfl)) (hw _ (List.mem_of_getElem? (i := 57) rfl)) (by decide) E_t0 (own_rmeqn l Z a0 hw tx0 h1) (W := 0) (by decide) (by decide) (g := (mkF m 25 #[.val .null, .val (.ref z), .val (.int (6 : Int32)), .val (.int (0 : Int32)), .val (.ref en0)] [.null, (.ref tx0)])) rfl (by rw [hml]; rfl) (argsL := [.null]) (rest := []) (lenOf own_pd7 rfl) rfl rfl (by show 2 * 0 + _ ≤ _; exact Nat.le_of_eq rfl) (hb hby dos_25) e2 (by decide) (by decide)
  obtain ⟨rfl, rfl, eh3⟩ := hQ3
  have e3 := e3.trans eh3
  rw [List.append_nil] at X3
  refine own_go (U' := T3.setTop (mkF m 28 #[.val .null, .val (.ref z), .val (.int (6 : Int32)), .val (.int (0 : Int32)), .val (.ref en0)] [(.int (0 : Int32))])) st3 ?_
  refine own_go (U' := T3.setTop (mkF m 34 #[.val .null, .val (.ref z), .val (.int (6 : Int32)), .val (.int (0 : Int32)), .val (.ref en0)] [])) (fun t k => XS.ifYes X3.here hx rfl (pc0 := 28) (pc' := 34) rfl (hb hby dos_28) rfl ((if0 _ _).trans (teq (by decide)).1) (by decide) (by decide) k) ?_
  refine own_go (U' := T3.setTop (mkF m 37 #[.val .null, .val (.ref z), .val (.int (6 : Int32)), .val (.int (1 : Int32)), .val (.ref en0)] [])) (fun t k => XS.iinc X3.here hx rfl (hb hby dos_34) rfl (l' := #[.val .null, .val (.ref z), .val (.int (6 : Int32)), .val (.int (1 : Int32)), .val (.ref en0)]) rfl k) ?_
  refine own_go (U' := T3.setTop (mkF m 9 #[.val .null, .val (.ref z), .val (.int (6 : Int32)), .val (.int (1 : Int32)), .val (.ref en0)] [])) (fun t k => XS.goto X3.here hx rfl (pc0 := 37) (pc' := 9) rfl (hb hby dos_37) (by decide) (by decide) k) ?_
  refine own_go (U' := T3.setTop (mkF m 10 #[.val .null, .val (.ref z), .val (.int (6 : Int32)), .val (.int (1 : Int32)), .val (.ref en0)] [(.int (1 : Int32))])) (fun t k => XS.iloadN X3.here hx rfl (hb hby dos_9) rfl k) ?_
  refine own_go (U' := T3.setTop (mkF m 11 #[.val .null, .val (.ref z), .val (.int (6 : Int32)), .val (.int (1 : Int32)), .val (.ref en0)] [(.int (6 : Int32)), (.int (1 : Int32))])) (fun t k => XS.iloadN X3.here hx rfl (hb hby dos_10) rfl k) ?_
  refine own_go (U' := T3.setTop (mkF m 14 #[.val .null, .val (.ref z), .val (.int (6 : Int32)), .val (.int (1 : Int32)), .val (.ref en0)] [])) (fun t k => XS.icmpNo X3.here hx rfl (hb hby dos_11) rfl (tlt (by decide)).2.1 k) ?_
  refine own_go (U' := T3.setTop (mkF m 15 #[.val .null, .val (.ref z), .val (.int (6 : Int32)), .val (.int (1 : Int32)), .val (.ref en0)] [(.ref z)])) (fun t k => XS.aloadN X3.here hx rfl (hb hby dos_14) rfl rfl k) ?_
  refine own_go (U' := T3.setTop (mkF m 16 #[.val .null, .val (.ref z), .val (.int (6 : Int32)), .val (.int (1 : Int32)), .val (.ref en0)] [(.int (1 : Int32)), (.ref z)])) (fun t k => XS.iloadN X3.here hx rfl (hb hby dos_15) rfl k) ?_
  refine own_go (U' := T3.setTop (mkF m 17 #[.val .null, .val (.ref z), .val (.int (6 : Int32)), .val (.int (1 : Int32)), .val (.ref en0)] [(.ref en1)])) (own_aaload X3 hx hZ e3 V_z rfl (j := (1 : Int32)) (by decide) (i := 1) rfl (v := (.ref en1)) rfl (g := (mkF m 16 #[.val .null, .val (.ref z), .val (.int (6 : Int32)), .val (.int (1 : Int32)), .val (.ref en0)] [(.int (1 : Int32)), (.ref z)])) rfl rfl (hb hby dos_16)) ?_
  refine own_go (U' := T3.setTop (mkF m 19 #[.val .null, .val (.ref z), .val (.int (6 : Int32)), .val (.int (1 : Int32)), .val (.ref en1)] [])) (fun t k => XS.astore X3.here hx rfl (hb hby dos_17) rfl rfl (l' := #[.val .null, .val (.ref z), .val (.int (6 : Int32)), .val (.int (1 : Int32)), .val (.ref en1)]) rfl k) ?_
  refine own_go (U' := T3.setTop (mkF m 21 #[.val .null, .val (.ref z), .val (.int (6 : Int32)), .val (.int (1 : Int32)), .val (.ref en1)] [(.ref en1)])) (fun t k => XS.aload X3.here hx rfl (hb hby dos_19) rfl rfl k) ?_
  obtain ⟨T4, X4, e4, st4⟩ := getF X3 hx hZ hown (host := "") (Or.inl (hw _ (List.mem_of_getElem? (i := 51) rfl))) Via.refl e3 (FT1.ext O.2) (g := (mkF m 21 #[.val .null, .val (.ref z), .val (.int (6 : Int32)), .val (.int (1 : Int32)), .val (.ref en1)] [(.ref en1)])) rfl rfl (hb hby dos_21)
  refine own_go (U' := T4.setTop (mkF m 24 #[.val .null, .val (.ref z), .val (.int (6 : Int32)), .val (.int (1 : Int32)), .val (.ref en1)] [(.ref tx1)])) st4 ?_
  refine own_go (U' := T4.setTop (mkF m 25 #[.val .null, .val (.ref z), .val (.int (6 : Int32)), .val (.int (1 : Int32)), .val (.ref en1)] [.null, (.ref tx1)])) (fun t k => XS.aloadN X4.here hx rfl (hb hby dos_24) rfl rfl k) ?_
  obtain ⟨v5, T5, h5, L5, e5, X5, hQ5, st5⟩ := own_callV X4 hx hZ (y := (⟨"java/lang/String", "equals", "(Ljava/lang/Object;)Z"⟩ : MethodName)) (z := (⟨"java/lang/String", "equals", "(Ljava/lang/Object;)Z"⟩ : MethodName)) hown (hw _ (List.mem_of_getElem? (i := 53) rfl)) (hw _ (List.mem_of_getElem? (i := 54) rfl)) (notFace_of_selects (args := #[]) (mvT hZ (hw _ (List.mem_of_getElem? (i := 56) rfl)))) (hw _ (List.mem_of_getElem? (i := 56) rfl)) (hw _ (List.mem_of_getElem? (i := 55) rfl)) (hw _ (List.mem_of_getElem? (i := 7) rfl)) (hw _ (List.mem_of_getElem? (i := 57) rfl)) (by decide) E_t1 (own_rmeqn l Z a0 hw tx1 h1) (W := 0) (by decide) (by decide) (g := (mkF m 25 #[.val .null, .val (.ref z), .val (.int (6 : Int32)), .val (.int (1 : Int32)), .val (.ref en1)] [.null, (.ref tx1)])) rfl (by rw [hml]; rfl) (argsL := [.null]) (rest := []) (lenOf own_pd7 rfl) rfl rfl (by show 2 * 0 + _ ≤ _; exact Nat.le_of_eq rfl) (hb hby dos_25) e4 (by decide) (by decide)
  obtain ⟨rfl, rfl, eh5⟩ := hQ5
  have e5 := e5.trans eh5
  rw [List.append_nil] at X5
  refine own_go (U' := T5.setTop (mkF m 28 #[.val .null, .val (.ref z), .val (.int (6 : Int32)), .val (.int (1 : Int32)), .val (.ref en1)] [(.int (0 : Int32))])) st5 ?_
  refine own_go (U' := T5.setTop (mkF m 34 #[.val .null, .val (.ref z), .val (.int (6 : Int32)), .val (.int (1 : Int32)), .val (.ref en1)] [])) (fun t k => XS.ifYes X5.here hx rfl (pc0 := 28) (pc' := 34) rfl (hb hby dos_28) rfl ((if0 _ _).trans (teq (by decide)).1) (by decide) (by decide) k) ?_
  refine own_go (U' := T5.setTop (mkF m 37 #[.val .null, .val (.ref z), .val (.int (6 : Int32)), .val (.int (2 : Int32)), .val (.ref en1)] [])) (fun t k => XS.iinc X5.here hx rfl (hb hby dos_34) rfl (l' := #[.val .null, .val (.ref z), .val (.int (6 : Int32)), .val (.int (2 : Int32)), .val (.ref en1)]) rfl k) ?_
  refine own_go (U' := T5.setTop (mkF m 9 #[.val .null, .val (.ref z), .val (.int (6 : Int32)), .val (.int (2 : Int32)), .val (.ref en1)] [])) (fun t k => XS.goto X5.here hx rfl (pc0 := 37) (pc' := 9) rfl (hb hby dos_37) (by decide) (by decide) k) ?_
  refine own_go (U' := T5.setTop (mkF m 10 #[.val .null, .val (.ref z), .val (.int (6 : Int32)), .val (.int (2 : Int32)), .val (.ref en1)] [(.int (2 : Int32))])) (fun t k => XS.iloadN X5.here hx rfl (hb hby dos_9) rfl k) ?_
  refine own_go (U' := T5.setTop (mkF m 11 #[.val .null, .val (.ref z), .val (.int (6 : Int32)), .val (.int (2 : Int32)), .val (.ref en1)] [(.int (6 : Int32)), (.int (2 : Int32))])) (fun t k => XS.iloadN X5.here hx rfl (hb hby dos_10) rfl k) ?_
  refine own_go (U' := T5.setTop (mkF m 14 #[.val .null, .val (.ref z), .val (.int (6 : Int32)), .val (.int (2 : Int32)), .val (.ref en1)] [])) (fun t k => XS.icmpNo X5.here hx rfl (hb hby dos_11) rfl (tlt (by decide)).2.1 k) ?_
  refine own_go (U' := T5.setTop (mkF m 15 #[.val .null, .val (.ref z), .val (.int (6 : Int32)), .val (.int (2 : Int32)), .val (.ref en1)] [(.ref z)])) (fun t k => XS.aloadN X5.here hx rfl (hb hby dos_14) rfl rfl k) ?_
  refine own_go (U' := T5.setTop (mkF m 16 #[.val .null, .val (.ref z), .val (.int (6 : Int32)), .val (.int (2 : Int32)), .val (.ref en1)] [(.int (2 : Int32)), (.ref z)])) (fun t k => XS.iloadN X5.here hx rfl (hb hby dos_15) rfl k) ?_
  refine own_go (U' := T5.setTop (mkF m 17 #[.val .null, .val (.ref z), .val (.int (6 : Int32)), .val (.int (2 : Int32)), .val (.ref en1)] [(.ref en2)])) (own_aaload X5 hx hZ e5 V_z rfl (j := (2 : Int32)) (by decide) (i := 2) rfl (v := (.ref en2)) rfl (g := (mkF m 16 #[.val .null, .val (.ref z), .val (.int (6 : Int32)), .val (.int (2 : Int32)), .val (.ref en1)] [(.int (2 : Int32)), (.ref z)])) rfl rfl (hb hby dos_16)) ?_
  refine own_go (U' := T5.setTop (mkF m 19 #[.val .null, .val (.ref z), .val (.int (6 : Int32)), .val (.int (2 : Int32)), .val (.ref en2)] [])) (fun t k => XS.astore X5.here hx rfl (hb hby dos_17) rfl rfl (l' := #[.val .null, .val (.ref z), .val (.int (6 : Int32)), .val (.int (2 : Int32)), .val (.ref en2)]) rfl k) ?_
  refine own_go (U' := T5.setTop (mkF m 21 #[.val .null, .val (.ref z), .val (.int (6 : Int32)), .val (.int (2 : Int32)), .val (.ref en2)] [(.ref en2)])) (fun t k => XS.aload X5.here hx rfl (hb hby dos_19) rfl rfl k) ?_
  obtain ⟨T6, X6, e6, st6⟩ := getF X5 hx hZ hown (host := "") (Or.inl (hw _ (List.mem_of_getElem? (i := 51) rfl))) Via.refl e5 (FT2.ext O.2) (g := (mkF m 21 #[.val .null, .val (.ref z), .val (.int (6 : Int32)), .val (.int (2 : Int32)), .val (.ref en2)] [(.ref en2)])) rfl rfl (hb hby dos_21)
  refine own_go (U' := T6.setTop (mkF m 24 #[.val .null, .val (.ref z), .val (.int (6 : Int32)), .val (.int (2 : Int32)), .val (.ref en2)] [(.ref tx2)])) st6 ?_
  refine own_go (U' := T6.setTop (mkF m 25 #[.val .null, .val (.ref z), .val (.int (6 : Int32)), .val (.int (2 : Int32)), .val (.ref en2)] [.null, (.ref tx2)])) (fun t k => XS.aloadN X6.here hx rfl (hb hby dos_24) rfl rfl k) ?_
  obtain ⟨v7, T7, h7, L7, e7, X7, hQ7, st7⟩ := own_callV X6 hx hZ (y := (⟨"java/lang/String", "equals", "(Ljava/lang/Object;)Z"⟩ : MethodName)) (z := (⟨"java/lang/String", "equals", "(Ljava/lang/Object;)Z"⟩ : MethodName)) hown (hw _ (List.mem_of_getElem? (i := 53) rfl)) (hw _ (List.mem_of_getElem? (i := 54) rfl)) (notFace_of_selects (args := #[]) (mvT hZ (hw _ (List.mem_of_getElem? (i := 56) rfl)))) (hw _ (List.mem_of_getElem? (i := 56) rfl)) (hw _ (List.mem_of_getElem? (i := 55) rfl)) (hw _ (List.mem_of_getElem? (i := 7) rfl)) (hw _ (List.mem_of_getElem? (i := 57) rfl)) (by decide) E_t2 (own_rmeqn l Z a0 hw tx2 h1) (W := 0) (by decide) (by decide) (g := (mkF m 25 #[.val .null, .val (.ref z), .val (.int (6 : Int32)), .val (.int (2 : Int32)), .val (.ref en2)] [.null, (.ref tx2)])) rfl (by rw [hml]; rfl) (argsL := [.null]) (rest := []) (lenOf own_pd7 rfl) rfl rfl (by show 2 * 0 + _ ≤ _; exact Nat.le_of_eq rfl) (hb hby dos_25) e6 (by decide) (by decide)
  obtain ⟨rfl, rfl, eh7⟩ := hQ7
  have e7 := e7.trans eh7
  rw [List.append_nil] at X7
  refine own_go (U' := T7.setTop (mkF m 28 #[.val .null, .val (.ref z), .val (.int (6 : Int32)), .val (.int (2 : Int32)), .val (.ref en2)] [(.int (0 : Int32))])) st7 ?_
  refine own_go (U' := T7.setTop (mkF m 34 #[.val .null, .val (.ref z), .val (.int (6 : Int32)), .val (.int (2 : Int32)), .val (.ref en2)] [])) (fun t k => XS.ifYes X7.here hx rfl (pc0 := 28) (pc' := 34) rfl (hb hby dos_28) rfl ((if0 _ _).trans (teq (by decide)).1) (by decide) (by decide) k) ?_
  refine own_go (U' := T7.setTop (mkF m 37 #[.val .null, .val (.ref z), .val (.int (6 : Int32)), .val (.int (3 : Int32)), .val (.ref en2)] [])) (fun t k => XS.iinc X7.here hx rfl (hb hby dos_34) rfl (l' := #[.val .null, .val (.ref z), .val (.int (6 : Int32)), .val (.int (3 : Int32)), .val (.ref en2)]) rfl k) ?_
  refine own_go (U' := T7.setTop (mkF m 9 #[.val .null, .val (.ref z), .val (.int (6 : Int32)), .val (.int (3 : Int32)), .val (.ref en2)] [])) (fun t k => XS.goto X7.here hx rfl (pc0 := 37) (pc' := 9) rfl (hb hby dos_37) (by decide) (by decide) k) ?_
  refine own_go (U' := T7.setTop (mkF m 10 #[.val .null, .val (.ref z), .val (.int (6 : Int32)), .val (.int (3 : Int32)), .val (.ref en2)] [(.int (3 : Int32))])) (fun t k => XS.iloadN X7.here hx rfl (hb hby dos_9) rfl k) ?_
  refine own_go (U' := T7.setTop (mkF m 11 #[.val .null, .val (.ref z), .val (.int (6 : Int32)), .val (.int (3 : Int32)), .val (.ref en2)] [(.int (6 : Int32)), (.int (3 : Int32))])) (fun t k => XS.iloadN X7.here hx rfl (hb hby dos_10) rfl k) ?_
  refine own_go (U' := T7.setTop (mkF m 14 #[.val .null, .val (.ref z), .val (.int (6 : Int32)), .val (.int (3 : Int32)), .val (.ref en2)] [])) (fun t k => XS.icmpNo X7.here hx rfl (hb hby dos_11) rfl (tlt (by decide)).2.1 k) ?_
  refine own_go (U' := T7.setTop (mkF m 15 #[.val .null, .val (.ref z), .val (.int (6 : Int32)), .val (.int (3 : Int32)), .val (.ref en2)] [(.ref z)])) (fun t k => XS.aloadN X7.here hx rfl (hb hby dos_14) rfl rfl k) ?_
  refine own_go (U' := T7.setTop (mkF m 16 #[.val .null, .val (.ref z), .val (.int (6 : Int32)), .val (.int (3 : Int32)), .val (.ref en2)] [(.int (3 : Int32)), (.ref z)])) (fun t k => XS.iloadN X7.here hx rfl (hb hby dos_15) rfl k) ?_
  refine own_go (U' := T7.setTop (mkF m 17 #[.val .null, .val (.ref z), .val (.int (6 : Int32)), .val (.int (3 : Int32)), .val (.ref en2)] [(.ref en3)])) (own_aaload X7 hx hZ e7 V_z rfl (j := (3 : Int32)) (by decide) (i := 3) rfl (v := (.ref en3)) rfl (g := (mkF m 16 #[.val .null, .val (.ref z), .val (.int (6 : Int32)), .val (.int (3 : Int32)), .val (.ref en2)] [(.int (3 : Int32)), (.ref z)])) rfl rfl (hb hby dos_16)) ?_
  refine own_go (U' := T7.setTop (mkF m 19 #[.val .null, .val (.ref z), .val (.int (6 : Int32)), .val (.int (3 : Int32)), .val (.ref en3)] [])) (fun t k => XS.astore X7.here hx rfl (hb hby dos_17) rfl rfl (l' := #[.val .null, .val (.ref z), .val (.int (6 : Int32)), .val (.int (3 : Int32)), .val (.ref en3)]) rfl k) ?_
  refine own_go (U' := T7.setTop (mkF m 21 #[.val .null, .val (.ref z), .val (.int (6 : Int32)), .val (.int (3 : Int32)), .val (.ref en3)] [(.ref en3)])) (fun t k => XS.aload X7.here hx rfl (hb hby dos_19) rfl rfl k) ?_
  obtain ⟨T8, X8, e8, st8⟩ := getF X7 hx hZ hown (host := "") (Or.inl (hw _ (List.mem_of_getElem? (i := 51) rfl))) Via.refl e7 (FT3.ext O.2) (g := (mkF m 21 #[.val .null, .val (.ref z), .val (.int (6 : Int32)), .val (.int (3 : Int32)), .val (.ref en3)] [(.ref en3)])) rfl rfl (hb hby dos_21)
  refine own_go (U' := T8.setTop (mkF m 24 #[.val .null, .val (.ref z), .val (.int (6 : Int32)), .val (.int (3 : Int32)), .val (.ref en3)] [(.ref tx3)])) st8 ?_
  refine own_go (U' := T8.setTop (mkF m 25 #[.val .null, .val (.ref z), .val (.int (6 : Int32)), .val (.int (3 : Int32)), .val (.ref en3)] [.null, (.ref tx3)])) (fun t k => XS.aloadN X8.here hx rfl (hb hby dos_24) rfl rfl k) ?_
  obtain ⟨v9, T9, h9, L9, e9, X9, hQ9, st9⟩ := own_callV X8 hx hZ (y := (⟨"java/lang/String", "equals", "(Ljava/lang/Object;)Z"⟩ : MethodName)) (z := (⟨"java/lang/String", "equals", "(Ljava/lang/Object;)Z"⟩ : MethodName)) hown (hw _ (List.mem_of_getElem? (i := 53) rfl)) (hw _ (List.mem_of_getElem? (i := 54) rfl)) (notFace_of_selects (args := #[]) (mvT hZ (hw _ (List.mem_of_getElem? (i := 56) rfl)))) (hw _ (List.mem_of_getElem? (i := 56) rfl)) (hw _ (List.mem_of_getElem? (i := 55) rfl)) (hw _ (List.mem_of_getElem? (i := 7) rfl)) (hw _ (List.mem_of_getElem? (i := 57) rfl)) (by decide) E_t3 (own_rmeqn l Z a0 hw tx3 h1) (W := 0) (by decide) (by decide) (g := (mkF m 25 #[.val .null, .val (.ref z), .val (.int (6 : Int32)), .val (.int (3 : Int32)), .val (.ref en3)] [.null, (.ref tx3)])) rfl (by rw [hml]; rfl) (argsL := [.null]) (rest := []) (lenOf own_pd7 rfl) rfl rfl (by show 2 * 0 + _ ≤ _; exact Nat.le_of_eq rfl) (hb hby dos_25) e8 (by decide) (by decide)
  obtain ⟨rfl, rfl, eh9⟩ := hQ9
  have e9 := e9.trans eh9
  rw [List.append_nil] at X9
  refine own_go (U' := T9.setTop (mkF m 28 #[.val .null, .val (.ref z), .val (.int (6 : Int32)), .val (.int (3 : Int32)), .val (.ref en3)] [(.int (0 : Int32))])) st9 ?_
  refine own_go (U' := T9.setTop (mkF m 34 #[.val .null, .val (.ref z), .val (.int (6 : Int32)), .val (.int (3 : Int32)), .val (.ref en3)] [])) (fun t k => XS.ifYes X9.here hx rfl (pc0 := 28) (pc' := 34) rfl (hb hby dos_28) rfl ((if0 _ _).trans (teq (by decide)).1) (by decide) (by decide) k) ?_
  refine own_go (U' := T9.setTop (mkF m 37 #[.val .null, .val (.ref z), .val (.int (6 : Int32)), .val (.int (4 : Int32)), .val (.ref en3)] [])) (fun t k => XS.iinc X9.here hx rfl (hb hby dos_34) rfl (l' := #[.val .null, .val (.ref z), .val (.int (6 : Int32)), .val (.int (4 : Int32)), .val (.ref en3)]) rfl k) ?_
  refine own_go (U' := T9.setTop (mkF m 9 #[.val .null, .val (.ref z), .val (.int (6 : Int32)), .val (.int (4 : Int32)), .val (.ref en3)] [])) (fun t k => XS.goto X9.here hx rfl (pc0 := 37) (pc' := 9) rfl (hb hby dos_37) (by decide) (by decide) k) ?_
  refine own_go (U' := T9.setTop (mkF m 10 #[.val .null, .val (.ref z), .val (.int (6 : Int32)), .val (.int (4 : Int32)), .val (.ref en3)] [(.int (4 : Int32))])) (fun t k => XS.iloadN X9.here hx rfl (hb hby dos_9) rfl k) ?_
  refine own_go (U' := T9.setTop (mkF m 11 #[.val .null, .val (.ref z), .val (.int (6 : Int32)), .val (.int (4 : Int32)), .val (.ref en3)] [(.int (6 : Int32)), (.int (4 : Int32))])) (fun t k => XS.iloadN X9.here hx rfl (hb hby dos_10) rfl k) ?_
  refine own_go (U' := T9.setTop (mkF m 14 #[.val .null, .val (.ref z), .val (.int (6 : Int32)), .val (.int (4 : Int32)), .val (.ref en3)] [])) (fun t k => XS.icmpNo X9.here hx rfl (hb hby dos_11) rfl (tlt (by decide)).2.1 k) ?_
  refine own_go (U' := T9.setTop (mkF m 15 #[.val .null, .val (.ref z), .val (.int (6 : Int32)), .val (.int (4 : Int32)), .val (.ref en3)] [(.ref z)])) (fun t k => XS.aloadN X9.here hx rfl (hb hby dos_14) rfl rfl k) ?_
  refine own_go (U' := T9.setTop (mkF m 16 #[.val .null, .val (.ref z), .val (.int (6 : Int32)), .val (.int (4 : Int32)), .val (.ref en3)] [(.int (4 : Int32)), (.ref z)])) (fun t k => XS.iloadN X9.here hx rfl (hb hby dos_15) rfl k) ?_
  refine own_go (U' := T9.setTop (mkF m 17 #[.val .null, .val (.ref z), .val (.int (6 : Int32)), .val (.int (4 : Int32)), .val (.ref en3)] [(.ref en4)])) (own_aaload X9 hx hZ e9 V_z rfl (j := (4 : Int32)) (by decide) (i := 4) rfl (v := (.ref en4)) rfl (g := (mkF m 16 #[.val .null, .val (.ref z), .val (.int (6 : Int32)), .val (.int (4 : Int32)), .val (.ref en3)] [(.int (4 : Int32)), (.ref z)])) rfl rfl (hb hby dos_16)) ?_
  refine own_go (U' := T9.setTop (mkF m 19 #[.val .null, .val (.ref z), .val (.int (6 : Int32)), .val (.int (4 : Int32)), .val (.ref en4)] [])) (fun t k => XS.astore X9.here hx rfl (hb hby dos_17) rfl rfl (l' := #[.val .null, .val (.ref z), .val (.int (6 : Int32)), .val (.int (4 : Int32)), .val (.ref en4)]) rfl k) ?_
  refine own_go (U' := T9.setTop (mkF m 21 #[.val .null, .val (.ref z), .val (.int (6 : Int32)), .val (.int (4 : Int32)), .val (.ref en4)] [(.ref en4)])) (fun t k => XS.aload X9.here hx rfl (hb hby dos_19) rfl rfl k) ?_
  obtain ⟨T10, X10, e10, st10⟩ := getF X9 hx hZ hown (host := "") (Or.inl (hw _ (List.mem_of_getElem? (i := 51) rfl))) Via.refl e9 (FT4.ext O.2) (g := (mkF m 21 #[.val .null, .val (.ref z), .val (.int (6 : Int32)), .val (.int (4 : Int32)), .val (.ref en4)] [(.ref en4)])) rfl rfl (hb hby dos_21)
  refine own_go (U' := T10.setTop (mkF m 24 #[.val .null, .val (.ref z), .val (.int (6 : Int32)), .val (.int (4 : Int32)), .val (.ref en4)] [(.ref tx4)])) st10 ?_
  refine own_go (U' := T10.setTop (mkF m 25 #[.val .null, .val (.ref z), .val (.int (6 : Int32)), .val (.int (4 : Int32)), .val (.ref en4)] [.null, (.ref tx4)])) (fun t k => XS.aloadN X10.here hx rfl (hb hby dos_24) rfl rfl k) ?_
  obtain ⟨v11, T11, h11, L11, e11, X11, hQ11, st11⟩ := own_callV X10 hx hZ (y := (⟨"java/lang/String", "equals", "(Ljava/lang/Object;)Z"⟩ : MethodName)) (z := (⟨"java/lang/String", "equals", "(Ljava/lang/Object;)Z"⟩ : MethodName)) hown (hw _ (List.mem_of_getElem? (i := 53) rfl)) (hw _ (List.mem_of_getElem? (i := 54) rfl)) (notFace_of_selects (args := #[]) (mvT hZ (hw _ (List.mem_of_getElem? (i := 56) rfl)))) (hw _ (List.mem_of_getElem? (i := 56) rfl)) (hw _ (List.mem_of_getElem? (i := 55) rfl)) (hw _ (List.mem_of_getElem? (i := 7) rfl)) (hw _ (List.mem_of_getElem? (i := 57) rfl)) (by decide) E_t4 (own_rmeqn l Z a0 hw tx4 h1) (W := 0) (by decide) (by decide) (g := (mkF m 25 #[.val .null, .val (.ref z), .val (.int (6 : Int32)), .val (.int (4 : Int32)), .val (.ref en4)] [.null, (.ref tx4)])) rfl (by rw [hml]; rfl) (argsL := [.null]) (rest := []) (lenOf own_pd7 rfl) rfl rfl (by show 2 * 0 + _ ≤ _; exact Nat.le_of_eq rfl) (hb hby dos_25) e10 (by decide) (by decide)
  obtain ⟨rfl, rfl, eh11⟩ := hQ11
  have e11 := e11.trans eh11
  rw [List.append_nil] at X11
  refine own_go (U' := T11.setTop (mkF m 28 #[.val .null, .val (.ref z), .val (.int (6 : Int32)), .val (.int (4 : Int32)), .val (.ref en4)] [(.int (0 : Int32))])) st11 ?_
  refine own_go (U' := T11.setTop (mkF m 34 #[.val .null, .val (.ref z), .val (.int (6 : Int32)), .val (.int (4 : Int32)), .val (.ref en4)] [])) (fun t k => XS.ifYes X11.here hx rfl (pc0 := 28) (pc' := 34) rfl (hb hby dos_28) rfl ((if0 _ _).trans (teq (by decide)).1) (by decide) (by decide) k) ?_
  refine own_go (U' := T11.setTop (mkF m 37 #[.val .null, .val (.ref z), .val (.int (6 : Int32)), .val (.int (5 : Int32)), .val (.ref en4)] [])) (fun t k => XS.iinc X11.here hx rfl (hb hby dos_34) rfl (l' := #[.val .null, .val (.ref z), .val (.int (6 : Int32)), .val (.int (5 : Int32)), .val (.ref en4)]) rfl k) ?_
  refine own_go (U' := T11.setTop (mkF m 9 #[.val .null, .val (.ref z), .val (.int (6 : Int32)), .val (.int (5 : Int32)), .val (.ref en4)] [])) (fun t k => XS.goto X11.here hx rfl (pc0 := 37) (pc' := 9) rfl (hb hby dos_37) (by decide) (by decide) k) ?_
  refine own_go (U' := T11.setTop (mkF m 10 #[.val .null, .val (.ref z), .val (.int (6 : Int32)), .val (.int (5 : Int32)), .val (.ref en4)] [(.int (5 : Int32))])) (fun t k => XS.iloadN X11.here hx rfl (hb hby dos_9) rfl k) ?_
  refine own_go (U' := T11.setTop (mkF m 11 #[.val .null, .val (.ref z), .val (.int (6 : Int32)), .val (.int (5 : Int32)), .val (.ref en4)] [(.int (6 : Int32)), (.int (5 : Int32))])) (fun t k => XS.iloadN X11.here hx rfl (hb hby dos_10) rfl k) ?_
  refine own_go (U' := T11.setTop (mkF m 14 #[.val .null, .val (.ref z), .val (.int (6 : Int32)), .val (.int (5 : Int32)), .val (.ref en4)] [])) (fun t k => XS.icmpNo X11.here hx rfl (hb hby dos_11) rfl (tlt (by decide)).2.1 k) ?_
  refine own_go (U' := T11.setTop (mkF m 15 #[.val .null, .val (.ref z), .val (.int (6 : Int32)), .val (.int (5 : Int32)), .val (.ref en4)] [(.ref z)])) (fun t k => XS.aloadN X11.here hx rfl (hb hby dos_14) rfl rfl k) ?_
  refine own_go (U' := T11.setTop (mkF m 16 #[.val .null, .val (.ref z), .val (.int (6 : Int32)), .val (.int (5 : Int32)), .val (.ref en4)] [(.int (5 : Int32)), (.ref z)])) (fun t k => XS.iloadN X11.here hx rfl (hb hby dos_15) rfl k) ?_
  refine own_go (U' := T11.setTop (mkF m 17 #[.val .null, .val (.ref z), .val (.int (6 : Int32)), .val (.int (5 : Int32)), .val (.ref en4)] [(.ref en5)])) (own_aaload X11 hx hZ e11 V_z rfl (j := (5 : Int32)) (by decide) (i := 5) rfl (v := (.ref en5)) rfl (g := (mkF m 16 #[.val .null, .val (.ref z), .val (.int (6 : Int32)), .val (.int (5 : Int32)), .val (.ref en4)] [(.int (5 : Int32)), (.ref z)])) rfl rfl (hb hby dos_16)) ?_
  refine own_go (U' := T11.setTop (mkF m 19 #[.val .null, .val (.ref z), .val (.int (6 : Int32)), .val (.int (5 : Int32)), .val (.ref en5)] [])) (fun t k => XS.astore X11.here hx rfl (hb hby dos_17) rfl rfl (l' := #[.val .null, .val (.ref z), .val (.int (6 : Int32)), .val (.int (5 : Int32)), .val (.ref en5)]) rfl k) ?_
  refine own_go (U' := T11.setTop (mkF m 21 #[.val .null, .val (.ref z), .val (.int (6 : Int32)), .val (.int (5 : Int32)), .val (.ref en5)] [(.ref en5)])) (fun t k => XS.aload X11.here hx rfl (hb hby dos_19) rfl rfl k) ?_
  obtain ⟨T12, X12, e12, st12⟩ := getF X11 hx hZ hown (host := "") (Or.inl (hw _ (List.mem_of_getElem? (i := 51) rfl))) Via.refl e11 (FT5.ext O.2) (g := (mkF m 21 #[.val .null, .val (.ref z), .val (.int (6 : Int32)), .val (.int (5 : Int32)), .val (.ref en5)] [(.ref en5)])) rfl rfl (hb hby dos_21)
  refine own_go (U' := T12.setTop (mkF m 24 #[.val .null, .val (.ref z), .val (.int (6 : Int32)), .val (.int (5 : Int32)), .val (.ref en5)] [(.ref tx5)])) st12 ?_
  refine own_go (U' := T12.setTop (mkF m 25 #[.val .null, .val (.ref z), .val (.int (6 : Int32)), .val (.int (5 : Int32)), .val (.ref en5)] [.null, (.ref tx5)])) (fun t k => XS.aloadN X12.here hx rfl (hb hby dos_24) rfl rfl k) ?_
  obtain ⟨v13, T13, h13, L13, e13, X13, hQ13, st13⟩ := own_callV X12 hx hZ (y := (⟨"java/lang/String", "equals", "(Ljava/lang/Object;)Z"⟩ : MethodName)) (z := (⟨"java/lang/String", "equals", "(Ljava/lang/Object;)Z"⟩ : MethodName)) hown (hw _ (List.mem_of_getElem? (i := 53) rfl)) (hw _ (List.mem_of_getElem? (i := 54) rfl)) (notFace_of_selects (args := #[]) (mvT hZ (hw _ (List.mem_of_getElem? (i := 56) rfl)))) (hw _ (List.mem_of_getElem? (i := 56) rfl)) (hw _ (List.mem_of_getElem? (i := 55) rfl)) (hw _ (List.mem_of_getElem? (i := 7) rfl)) (hw _ (List.mem_of_getElem? (i := 57) rfl)) (by decide) E_t5 (own_rmeqn l Z a0 hw tx5 h1) (W := 0) (by decide) (by decide) (g := (mkF m 25 #[.val .null, .val (.ref z), .val (.int (6 : Int32)), .val (.int (5 : Int32)), .val (.ref en5)] [.null, (.ref tx5)])) rfl (by rw [hml]; rfl) (argsL := [.null]) (rest := []) (lenOf own_pd7 rfl) rfl rfl (by show 2 * 0 + _ ≤ _; exact Nat.le_of_eq rfl) (hb hby dos_25) e12 (by decide) (by decide)
  obtain ⟨rfl, rfl, eh13⟩ := hQ13
  have e13 := e13.trans eh13
  rw [List.append_nil] at X13
  refine own_go (U' := T13.setTop (mkF m 28 #[.val .null, .val (.ref z), .val (.int (6 : Int32)), .val (.int (5 : Int32)), .val (.ref en5)] [(.int (0 : Int32))])) st13 ?_
  refine own_go (U' := T13.setTop (mkF m 34 #[.val .null, .val (.ref z), .val (.int (6 : Int32)), .val (.int (5 : Int32)), .val (.ref en5)] [])) (fun t k => XS.ifYes X13.here hx rfl (pc0 := 28) (pc' := 34) rfl (hb hby dos_28) rfl ((if0 _ _).trans (teq (by decide)).1) (by decide) (by decide) k) ?_
  refine own_go (U' := T13.setTop (mkF m 37 #[.val .null, .val (.ref z), .val (.int (6 : Int32)), .val (.int (6 : Int32)), .val (.ref en5)] [])) (fun t k => XS.iinc X13.here hx rfl (hb hby dos_34) rfl (l' := #[.val .null, .val (.ref z), .val (.int (6 : Int32)), .val (.int (6 : Int32)), .val (.ref en5)]) rfl k) ?_
  refine own_go (U' := T13.setTop (mkF m 9 #[.val .null, .val (.ref z), .val (.int (6 : Int32)), .val (.int (6 : Int32)), .val (.ref en5)] [])) (fun t k => XS.goto X13.here hx rfl (pc0 := 37) (pc' := 9) rfl (hb hby dos_37) (by decide) (by decide) k) ?_
  refine own_go (U' := T13.setTop (mkF m 10 #[.val .null, .val (.ref z), .val (.int (6 : Int32)), .val (.int (6 : Int32)), .val (.ref en5)] [(.int (6 : Int32))])) (fun t k => XS.iloadN X13.here hx rfl (hb hby dos_9) rfl k) ?_
  refine own_go (U' := T13.setTop (mkF m 11 #[.val .null, .val (.ref z), .val (.int (6 : Int32)), .val (.int (6 : Int32)), .val (.ref en5)] [(.int (6 : Int32)), (.int (6 : Int32))])) (fun t k => XS.iloadN X13.here hx rfl (hb hby dos_10) rfl k) ?_
  refine own_go (U' := T13.setTop (mkF m 40 #[.val .null, .val (.ref z), .val (.int (6 : Int32)), .val (.int (6 : Int32)), .val (.ref en5)] [])) (fun t k => XS.icmpYes X13.here hx rfl (pc0 := 11) (pc' := 40) rfl (hb hby dos_11) rfl (flt (by decide)).2.1 (by decide) (by decide) k) ?_
  refine own_go (U' := T13.setTop (mkF m 41 #[.val .null, .val (.ref z), .val (.int (6 : Int32)), .val (.int (6 : Int32)), .val (.ref en5)] [.null])) (fun t k => XS.aconstNull X13.here hx rfl (hb hby dos_40) k) ?_
  refine own_retA X13 hx (t := (.object "com/example/pagemark/pagemark/statements/Restriction$Operator")) hret rfl hlk rfl (hb hby dos_41) ?_ (by decide) (by decide)
  rw [e13]
  refine ⟨?_, rfl, K⟩
  rfl
theorem own_efos0 (m : MethodId) (x : Addr) : entryFrame m #[(.ref x)] 5 = mkF m 0 #[.val (.ref x), .unset, .unset, .unset, .unset] [] := by first | (simp [entryFrame, mkF, argsToLocals, Value.category]; done) | rfl
set_option maxRecDepth 65536 in
set_option maxHeartbeats 40000000 in
theorem own_rmos0 (l : Launch) (Z : State) (a0 : Array Value) (hw : ∀ d ∈ tables_1, d.before a0 Z = true) (x : Addr) (h0 : Heap) (n0 : Nat) (en0 en1 en2 en3 en4 en5 : Addr) (O : Old Z n0 h0) (vv : Addr) (kv : ClassId) (S_v : Sta Z Z.heap "com/example/pagemark/pagemark/statements/Restriction$Operator" "$VALUES" "[Lcom/example/pagemark/pagemark/statements/Restriction$Operator;" (.ref vv)) (V_v : own_Ar Z Z.heap vv kv (.object "com/example/pagemark/pagemark/statements/Restriction$Operator") [(.ref en0), (.ref en1), (.ref en2), (.ref en3), (.ref en4), (.ref en5)]) (E_v : Exa Z Z.heap vv "[Lcom/example/pagemark/pagemark/statements/Restriction$Operator;") (tx0 tx1 tx2 tx3 tx4 tx5 bx0 bx1 bx2 bx3 bx4 bx5 : Addr) (kx0 kx1 kx2 kx3 kx4 kx5 : ClassId) (FT0 : Fld Z Z.heap en0 "com/example/pagemark/pagemark/statements/Restriction$Operator" "text" "Ljava/lang/String;" (.ref tx0)) (ET0 : Exa Z Z.heap tx0 "java/lang/String") (FC0 : Fld Z Z.heap tx0 "java/lang/String" "coder" "B" (.int 0)) (FV0 : Fld Z Z.heap tx0 "java/lang/String" "value" "[B" (.ref bx0)) (VB0 : own_Ar Z Z.heap bx0 kx0 .byte [.int (61 : Int32)]) (FT1 : Fld Z Z.heap en1 "com/example/pagemark/pagemark/statements/Restriction$Operator" "text" "Ljava/lang/String;" (.ref tx1)) (ET1 : Exa Z Z.heap tx1 "java/lang/String") (FC1 : Fld Z Z.heap tx1 "java/lang/String" "coder" "B" (.int 0)) (FV1 : Fld Z Z.heap tx1 "java/lang/String" "value" "[B" (.ref bx1)) (VB1 : own_Ar Z Z.heap bx1 kx1 .byte [.int (60 : Int32)]) (FT2 : Fld Z Z.heap en2 "com/example/pagemark/pagemark/statements/Restriction$Operator" "text" "Ljava/lang/String;" (.ref tx2)) (ET2 : Exa Z Z.heap tx2 "java/lang/String") (FC2 : Fld Z Z.heap tx2 "java/lang/String" "coder" "B" (.int 0)) (FV2 : Fld Z Z.heap tx2 "java/lang/String" "value" "[B" (.ref bx2)) (VB2 : own_Ar Z Z.heap bx2 kx2 .byte [.int (60 : Int32), .int (61 : Int32)]) (FT3 : Fld Z Z.heap en3 "com/example/pagemark/pagemark/statements/Restriction$Operator" "text" "Ljava/lang/String;" (.ref tx3)) (ET3 : Exa Z Z.heap tx3 "java/lang/String") (FC3 : Fld Z Z.heap tx3 "java/lang/String" "coder" "B" (.int 0)) (FV3 : Fld Z Z.heap tx3 "java/lang/String" "value" "[B" (.ref bx3)) (VB3 : own_Ar Z Z.heap bx3 kx3 .byte [.int (62 : Int32)]) (FT4 : Fld Z Z.heap en4 "com/example/pagemark/pagemark/statements/Restriction$Operator" "text" "Ljava/lang/String;" (.ref tx4)) (ET4 : Exa Z Z.heap tx4 "java/lang/String") (FC4 : Fld Z Z.heap tx4 "java/lang/String" "coder" "B" (.int 0)) (FV4 : Fld Z Z.heap tx4 "java/lang/String" "value" "[B" (.ref bx4)) (VB4 : own_Ar Z Z.heap bx4 kx4 .byte [.int (62 : Int32), .int (61 : Int32)]) (FT5 : Fld Z Z.heap en5 "com/example/pagemark/pagemark/statements/Restriction$Operator" "text" "Ljava/lang/String;" (.ref tx5)) (ET5 : Exa Z Z.heap tx5 "java/lang/String") (FC5 : Fld Z Z.heap tx5 "java/lang/String" "coder" "B" (.int 0)) (FV5 : Fld Z Z.heap tx5 "java/lang/String" "value" "[B" (.ref bx5)) (VB5 : own_Ar Z Z.heap bx5 kx5 .byte [.int (73 : Int32), .int (78 : Int32)]) (cs : Int32) (hcs : cs ≠ 0) (S_cs : Sta Z Z.heap "java/lang/String" "COMPACT_STRINGS" "Z" (.int cs)) (y : Addr) (ky : ClassId) (E_x : Exa Z h0 x "java/lang/String") (F_coder_x : Fld Z h0 x "java/lang/String" "coder" "B" (.int 0)) (F_value_x : Fld Z h0 x "java/lang/String" "value" "[B" (.ref y)) (V_y : own_Ar Z h0 y ky .byte []) :
    own_C l Z (⟨"com/example/pagemark/pagemark/statements/Restriction$Operator", "ofSymbol", "(Ljava/lang/String;)Lcom/example/pagemark/pagemark/statements/Restriction$Operator;"⟩ : MethodName) prog_34_method_4_code 5 (some (.object "com/example/pagemark/pagemark/statements/Restriction$Operator")) [] ({ frames := 2, cells := 1, slots := 6, locals := 60 } : Room) #[(.ref x)] h0 (fun v h L => v = some .null ∧ L = [] ∧ Keep h0 h []) := by
  refine own_body (plainFor_of_name own_pn4) fun p e s m below meth c s₁ hx hby hml hret hlk hown hnm hZ X0 e0 => ?_
  rw [own_efos0 m x]
  have N0 := Fr.nil n0
  have K := Keep.refl h0 []
  obtain ⟨v1, T1, h1, L1, e1, X1, hQ1, st1⟩ := own_callS X0 hx hZ (y := (⟨"com/example/pagemark/pagemark/statements/Restriction$Operator", "values", "()[Lcom/example/pagemark/pagemark/statements/Restriction$Operator;"⟩ : MethodName)) hown (hw _ (List.mem_of_getElem? (i := 30) rfl)) (hw _ (List.mem_of_getElem? (i := 31) rfl)) (hw _ (List.mem_of_getElem? (i := 28) rfl)) (hw _ (List.mem_of_getElem? (i := 32) rfl)) (by decide) (own_rmva l Z a0 hw h0 n0 en0 en1 en2 en3 en4 en5 O vv kv S_v V_v E_v) (W := 0) (by decide) (by decide) (g := (mkF m 0 #[.val (.ref x), .unset, .unset, .unset, .unset] [])) rfl (by rw [hml]; rfl) (argsL := []) (rest := []) (lenOf own_pd9 rfl) rfl rfl (by show 2 * 0 + _ ≤ _; exact Nat.le_of_eq rfl) (hb hby dos_0) e0 (by decide) (by decide)
  obtain ⟨z, rfl, rfl, Kq, sz_z, V_z⟩ := hQ1
  rw [List.append_nil] at X1
  have K := K.trans Kq all0
  have O := O.keep Kq all0
  have E_x := E_x.keep Kq
  have F_coder_x := F_coder_x.keep Kq nin0
  have F_value_x := F_value_x.keep Kq nin0
  have V_y := V_y.keep Kq nin0
  refine own_go (U' := T1.setTop (mkF m 3 #[.val (.ref x), .unset, .unset, .unset, .unset] [(.ref z)])) st1 ?_
  have E_t0 := ET0.ext O.2
  have E_t1 := ET1.ext O.2
  have E_t2 := ET2.ext O.2
  have E_t3 := ET3.ext O.2
  have E_t4 := ET4.ext O.2
  have E_t5 := ET5.ext O.2
  refine own_go (U' := T1.setTop (mkF m 4 #[.val (.ref x), .val (.ref z), .unset, .unset, .unset] [])) (fun t k => XS.astoreN X1.here hx rfl (hb hby dos_3) rfl rfl (l' := #[.val (.ref x), .val (.ref z), .unset, .unset, .unset]) rfl k) ?_
  refine own_go (U' := T1.setTop (mkF m 5 #[.val (.ref x), .val (.ref z), .unset, .unset, .unset] [(.ref z)])) (fun t k => XS.aloadN X1.here hx rfl (hb hby dos_4) rfl rfl k) ?_
  refine own_go (U' := T1.setTop (mkF m 6 #[.val (.ref x), .val (.ref z), .unset, .unset, .unset] [(.int (6 : Int32))])) (own_arrlen X1 hx hZ e1 V_z (n := (6 : Int32)) rfl (g := (mkF m 5 #[.val (.ref x), .val (.ref z), .unset, .unset, .unset] [(.ref z)])) rfl rfl (hb hby dos_5)) ?_
  refine own_go (U' := T1.setTop (mkF m 7 #[.val (.ref x), .val (.ref z), .val (.int (6 : Int32)), .unset, .unset] [])) (fun t k => XS.istoreN X1.here hx rfl (hb hby dos_6) rfl (l' := #[.val (.ref x), .val (.ref z), .val (.int (6 : Int32)), .unset, .unset]) rfl k) ?_
  refine own_go (U' := T1.setTop (mkF m 8 #[.val (.ref x), .val (.ref z), .val (.int (6 : Int32)), .unset, .unset] [(.int (0 : Int32))])) (fun t k => XS.iconst X1.here hx rfl (hb hby dos_7) k) ?_
  refine own_go (U' := T1.setTop (mkF m 9 #[.val (.ref x), .val (.ref z), .val (.int (6 : Int32)), .val (.int (0 : Int32)), .unset] [])) (fun t k => XS.istoreN X1.here hx rfl (hb hby dos_8) rfl (l' := #[.val (.ref x), .val (.ref z), .val (.int (6 : Int32)), .val (.int (0 : Int32)), .unset]) rfl k) ?_
  refine own_go (U' := T1.setTop (mkF m 10 #[.val (.ref x), .val (.ref z), .val (.int (6 : Int32)), .val (.int (0 : Int32)), .unset] [(.int (0 : Int32))])) (fun t k => XS.iloadN X1.here hx rfl (hb hby dos_9) rfl k) ?_
  refine own_go (U' := T1.setTop (mkF m 11 #[.val (.ref x), .val (.ref z), .val (.int (6 : Int32)), .val (.int (0 : Int32)), .unset] [(.int (6 : Int32)), (.int (0 : Int32))])) (fun t k => XS.iloadN X1.here hx rfl (hb hby dos_10) rfl k) ?_
  refine own_go (U' := T1.setTop (mkF m 14 #[.val (.ref x), .val (.ref z), .val (.int (6 : Int32)), .val (.int (0 : Int32)), .unset] [])) (fun t k => XS.icmpNo X1.here hx rfl (hb hby dos_11) rfl (tlt (by decide)).2.1 k) ?_
  refine own_go (U' := T1.setTop (mkF m 15 #[.val (.ref x), .val (.ref z), .val (.int (6 : Int32)), .val (.int (0 : Int32)), .unset] [(.ref z)])) (fun t k => XS.aloadN X1.here hx rfl (hb hby dos_14) rfl rfl k) ?_
  refine own_go (U' := T1.setTop (mkF m 16 #[.val (.ref x), .val (.ref z), .val (.int (6 : Int32)), .val (.int (0 : Int32)), .unset] [(.int (0 : Int32)), (.ref z)])) (fun t k => XS.iloadN X1.here hx rfl (hb hby dos_15) rfl k) ?_
  refine own_go (U' := T1.setTop (mkF m 17 #[.val (.ref x), .val (.ref z), .val (.int (6 : Int32)), .val (.int (0 : Int32)), .unset] [(.ref en0)])) (own_aaload X1 hx hZ e1 V_z rfl (j := (0 : Int32)) (by decide) (i := 0) rfl (v := (.ref en0)) rfl (g := (mkF m 16 #[.val (.ref x), .val (.ref z), .val (.int (6 : Int32)), .val (.int (0 : Int32)), .unset] [(.int (0 : Int32)), (.ref z)])) rfl rfl (hb hby dos_16)) ?_
  refine own_go (U' := T1.setTop (mkF m 19 #[.val (.ref x), .val (.ref z), .val (.int (6 : Int32)), .val (.int (0 : Int32)), .val (.ref en0)] [])) (fun t k => XS.astore X1.here hx rfl (hb hby dos_17) rfl rfl (l' := #[.val (.ref x), .val (.ref z), .val (.int (6 : Int32)), .val (.int (0 : Int32)), .val (.ref en0)]) rfl k) ?_
  refine own_go (U' := T1.setTop (mkF m 21 #[.val (.ref x), .val (.ref z), .val (.int (6 : Int32)), .val (.int (0 : Int32)), .val (.ref en0)] [(.ref en0)])) (fun t k => XS.aload X1.here hx rfl (hb hby dos_19) rfl rfl k) ?_
  obtain ⟨T2, X2, e2, st2⟩ := getF X1 hx hZ hown (host := "") (Or.inl (hw _ (List.mem_of_getElem? (i := 51) rfl))) Via.refl e1 (FT0.ext O.2) (g := (mkF m 21 #[.val (.ref x), .val (.ref z), .val (.int (6 : Int32)), .val (.int (0 : Int32)), .val (.ref en0)] [(.ref en0)])) rfl rfl (hb hby dos_21)
  refine own_go (U' := T2.setTop (mkF m 24 #[.val (.ref x), .val (.ref z), .val (.int (6 : Int32)), .val (.int (0 : Int32)), .val (.ref en0)] [(.ref tx0)])) st2 ?_
  refine own_go (U' := T2.setTop (mkF m 25 #[.val (.ref x), .val (.ref z), .val (.int (6 : Int32)), .val (.int (0 : Int32)), .val (.ref en0)] [(.ref x), (.ref tx0)])) (fun t k => XS.aloadN X2.here hx rfl (hb hby dos_24) rfl rfl k) ?_
  obtain ⟨v3, T3, h3, L3, e3, X3, hQ3, st3⟩ := own_callV X2 hx hZ (y := (⟨"java/lang/String", "equals", "(Ljava/lang/Object;)Z"⟩ : MethodName)) (z := (⟨"java/lang/String", "equals", "(Ljava/lang/Object;)Z"⟩ : MethodName)) hown (hw _ (List.mem_of_getElem? (i := 53) rfl)) (hw _ (List.mem_of_getElem? (i := 54) rfl)) (notFace_of_selects (args := #[]) (mvT hZ (hw _ (List.mem_of_getElem? (i := 56) rfl)))) (hw _ (List.mem_of_getElem? (i := 56) rfl)) (hw _ (List.mem_of_getElem? (i := 55) rfl)) (hw _ (List.mem_of_getElem? (i := 7) rfl)) (hw _ (List.mem_of_getElem? (i := 57) rfl)) (by decide) E_t0 (own_rmeq10 l Z a0 hw tx0 x h1 n0 O cs hcs S_cs (61) _ _ _ _ E_t0 (FC0.ext O.2) (FV0.ext O.2) (VB0.ext O.2) E_x F_coder_x F_value_x V_y) (W := 0) (by decide) (by decide) (g := (mkF m 25 #[.val (.ref x), .val (.ref z), .val (.int (6 : Int32)), .val (.int (0 : Int32)), .val (.ref en0)] [(.ref x), (.ref tx0)])) rfl (by rw [hml]; rfl) (argsL := [(.ref x)]) (rest := []) (lenOf own_pd7 rfl) rfl rfl (by show 2 * 0 + _ ≤ _; exact Nat.le_of_eq rfl) (hb hby dos_25) e2 (by decide) (by decide)
  obtain ⟨rfl, rfl, eh3⟩ := hQ3
  have e3 := e3.trans eh3
  rw [List.append_nil] at X3
  refine own_go (U' := T3.setTop (mkF m 28 #[.val (.ref x), .val (.ref z), .val (.int (6 : Int32)), .val (.int (0 : Int32)), .val (.ref en0)] [(.int (0 : Int32))])) st3 ?_
  refine own_go (U' := T3.setTop (mkF m 34 #[.val (.ref x), .val (.ref z), .val (.int (6 : Int32)), .val (.int (0 : Int32)), .val (.ref en0)] [])) (fun t k => XS.ifYes X3.here hx rfl (pc0 := 28) (pc' := 34) rfl (hb hby dos_28) rfl ((if0 _ _).trans (teq (by decide)).1) (by decide) (by decide) k) ?_
  refine own_go (U' := T3.setTop (mkF m 37 #[.val (.ref x), .val (.ref z), .val (.int (6 : Int32)), .val (.int (1 : Int32)), .val (.ref en0)] [])) (fun t k => XS.iinc X3.here hx rfl (hb hby dos_34) rfl (l' := #[.val (.ref x), .val (.ref z), .val (.int (6 : Int32)), .val (.int (1 : Int32)), .val (.ref en0)]) rfl k) ?_
  refine own_go (U' := T3.setTop (mkF m 9 #[.val (.ref x), .val (.ref z), .val (.int (6 : Int32)), .val (.int (1 : Int32)), .val (.ref en0)] [])) (fun t k => XS.goto X3.here hx rfl (pc0 := 37) (pc' := 9) rfl (hb hby dos_37) (by decide) (by decide) k) ?_
  refine own_go (U' := T3.setTop (mkF m 10 #[.val (.ref x), .val (.ref z), .val (.int (6 : Int32)), .val (.int (1 : Int32)), .val (.ref en0)] [(.int (1 : Int32))])) (fun t k => XS.iloadN X3.here hx rfl (hb hby dos_9) rfl k) ?_
  refine own_go (U' := T3.setTop (mkF m 11 #[.val (.ref x), .val (.ref z), .val (.int (6 : Int32)), .val (.int (1 : Int32)), .val (.ref en0)] [(.int (6 : Int32)), (.int (1 : Int32))])) (fun t k => XS.iloadN X3.here hx rfl (hb hby dos_10) rfl k) ?_
  refine own_go (U' := T3.setTop (mkF m 14 #[.val (.ref x), .val (.ref z), .val (.int (6 : Int32)), .val (.int (1 : Int32)), .val (.ref en0)] [])) (fun t k => XS.icmpNo X3.here hx rfl (hb hby dos_11) rfl (tlt (by decide)).2.1 k) ?_
  refine own_go (U' := T3.setTop (mkF m 15 #[.val (.ref x), .val (.ref z), .val (.int (6 : Int32)), .val (.int (1 : Int32)), .val (.ref en0)] [(.ref z)])) (fun t k => XS.aloadN X3.here hx rfl (hb hby dos_14) rfl rfl k) ?_
  refine own_go (U' := T3.setTop (mkF m 16 #[.val (.ref x), .val (.ref z), .val (.int (6 : Int32)), .val (.int (1 : Int32)), .val (.ref en0)] [(.int (1 : Int32)), (.ref z)])) (fun t k => XS.iloadN X3.here hx rfl (hb hby dos_15) rfl k) ?_
  refine own_go (U' := T3.setTop (mkF m 17 #[.val (.ref x), .val (.ref z), .val (.int (6 : Int32)), .val (.int (1 : Int32)), .val (.ref en0)] [(.ref en1)])) (own_aaload X3 hx hZ e3 V_z rfl (j := (1 : Int32)) (by decide) (i := 1) rfl (v := (.ref en1)) rfl (g := (mkF m 16 #[.val (.ref x), .val (.ref z), .val (.int (6 : Int32)), .val (.int (1 : Int32)), .val (.ref en0)] [(.int (1 : Int32)), (.ref z)])) rfl rfl (hb hby dos_16)) ?_
  refine own_go (U' := T3.setTop (mkF m 19 #[.val (.ref x), .val (.ref z), .val (.int (6 : Int32)), .val (.int (1 : Int32)), .val (.ref en1)] [])) (fun t k => XS.astore X3.here hx rfl (hb hby dos_17) rfl rfl (l' := #[.val (.ref x), .val (.ref z), .val (.int (6 : Int32)), .val (.int (1 : Int32)), .val (.ref en1)]) rfl k) ?_
  refine own_go (U' := T3.setTop (mkF m 21 #[.val (.ref x), .val (.ref z), .val (.int (6 : Int32)), .val (.int (1 : Int32)), .val (.ref en1)] [(.ref en1)])) (fun t k => XS.aload X3.here hx rfl (hb hby dos_19) rfl rfl k) ?_
  obtain ⟨T4, X4, e4, st4⟩ := getF X3 hx hZ hown (host := "") (Or.inl (hw _ (List.mem_of_getElem? (i := 51) rfl))) Via.refl e3 (FT1.ext O.2) (g := (mkF m 21 #[.val (.ref x), .val (.ref z), .val (.int (6 : Int32)), .val (.int (1 : Int32)), .val (.ref en1)] [(.ref en1)])) rfl rfl (hb hby dos_21)
  refine own_go (U' := T4.setTop (mkF m 24 #[.val (.ref x), .val (.ref z), .val (.int (6 : Int32)), .val (.int (1 : Int32)), .val (.ref en1)] [(.ref tx1)])) st4 ?_
  refine own_go (U' := T4.setTop (mkF m 25 #[.val (.ref x), .val (.ref z), .val (.int (6 : Int32)), .val (.int (1 : Int32)), .val (.ref en1)] [(.ref x), (.ref tx1)])) (fun t k => XS.aloadN X4.here hx rfl (hb hby dos_24) rfl rfl k) ?_
  obtain ⟨v5, T5, h5, L5, e5, X5, hQ5, st5⟩ := own_callV X4 hx hZ (y := (⟨"java/lang/String", "equals", "(Ljava/lang/Object;)Z"⟩ : MethodName)) (z := (⟨"java/lang/String", "equals", "(Ljava/lang/Object;)Z"⟩ : MethodName)) hown (hw _ (List.mem_of_getElem? (i := 53) rfl)) (hw _ (List.mem_of_getElem? (i := 54) rfl)) (notFace_of_selects (args := #[]) (mvT hZ (hw _ (List.mem_of_getElem? (i := 56) rfl)))) (hw _ (List.mem_of_getElem? (i := 56) rfl)) (hw _ (List.mem_of_getElem? (i := 55) rfl)) (hw _ (List.mem_of_getElem? (i := 7) rfl)) (hw _ (List.mem_of_getElem? (i := 57) rfl)) (by decide) E_t1 (own_rmeq10 l Z a0 hw tx1 x h1 n0 O cs hcs S_cs (60) _ _ _ _ E_t1 (FC1.ext O.2) (FV1.ext O.2) (VB1.ext O.2) E_x F_coder_x F_value_x V_y) (W := 0) (by decide) (by decide) (g := (mkF m 25 #[.val (.ref x), .val (.ref z), .val (.int (6 : Int32)), .val (.int (1 : Int32)), .val (.ref en1)] [(.ref x), (.ref tx1)])) rfl (by rw [hml]; rfl) (argsL := [(.ref x)]) (rest := []) (lenOf own_pd7 rfl) rfl rfl (by show 2 * 0 + _ ≤ _; exact Nat.le_of_eq rfl) (hb hby dos_25) e4 (by decide) (by decide)
  obtain ⟨rfl, rfl, eh5⟩ := hQ5
  have e5 := e5.trans eh5
  rw [List.append_nil] at X5
  refine own_go (U' := T5.setTop (mkF m 28 #[.val (.ref x), .val (.ref z), .val (.int (6 : Int32)), .val (.int (1 : Int32)), .val (.ref en1)] [(.int (0 : Int32))])) st5 ?_
  refine own_go (U' := T5.setTop (mkF m 34 #[.val (.ref x), .val (.ref z), .val (.int (6 : Int32)), .val (.int (1 : Int32)), .val (.ref en1)] [])) (fun t k => XS.ifYes X5.here hx rfl (pc0 := 28) (pc' := 34) rfl (hb hby dos_28) rfl ((if0 _ _).trans (teq (by decide)).1) (by decide) (by decide) k) ?_
  refine own_go (U' := T5.setTop (mkF m 37 #[.val (.ref x), .val (.ref z), .val (.int (6 : Int32)), .val (.int (2 : Int32)), .val (.ref en1)] [])) (fun t k => XS.iinc X5.here hx rfl (hb hby dos_34) rfl (l' := #[.val (.ref x), .val (.ref z), .val (.int (6 : Int32)), .val (.int (2 : Int32)), .val (.ref en1)]) rfl k) ?_
  refine own_go (U' := T5.setTop (mkF m 9 #[.val (.ref x), .val (.ref z), .val (.int (6 : Int32)), .val (.int (2 : Int32)), .val (.ref en1)] [])) (fun t k => XS.goto X5.here hx rfl (pc0 := 37) (pc' := 9) rfl (hb hby dos_37) (by decide) (by decide) k) ?_
  refine own_go (U' := T5.setTop (mkF m 10 #[.val (.ref x), .val (.ref z), .val (.int (6 : Int32)), .val (.int (2 : Int32)), .val (.ref en1)] [(.int (2 : Int32))])) (fun t k => XS.iloadN X5.here hx rfl (hb hby dos_9) rfl k) ?_
  refine own_go (U' := T5.setTop (mkF m 11 #[.val (.ref x), .val (.ref z), .val (.int (6 : Int32)), .val (.int (2 : Int32)), .val (.ref en1)] [(.int (6 : Int32)), (.int (2 : Int32))])) (fun t k => XS.iloadN X5.here hx rfl (hb hby dos_10) rfl k) ?_
  refine own_go (U' := T5.setTop (mkF m 14 #[.val (.ref x), .val (.ref z), .val (.int (6 : Int32)), .val (.int (2 : Int32)), .val (.ref en1)] [])) (fun t k => XS.icmpNo X5.here hx rfl (hb hby dos_11) rfl (tlt (by decide)).2.1 k) ?_
  refine own_go (U' := T5.setTop (mkF m 15 #[.val (.ref x), .val (.ref z), .val (.int (6 : Int32)), .val (.int (2 : Int32)), .val (.ref en1)] [(.ref z)])) (fun t k => XS.aloadN X5.here hx rfl (hb hby dos_14) rfl rfl k) ?_
  refine own_go (U' := T5.setTop (mkF m 16 #[.val (.ref x), .val (.ref z), .val (.int (6 : Int32)), .val (.int (2 : Int32)), .val (.ref en1)] [(.int (2 : Int32)), (.ref z)])) (fun t k => XS.iloadN X5.here hx rfl (hb hby dos_15) rfl k) ?_
  refine own_go (U' := T5.setTop (mkF m 17 #[.val (.ref x), .val (.ref z), .val (.int (6 : Int32)), .val (.int (2 : Int32)), .val (.ref en1)] [(.ref en2)])) (own_aaload X5 hx hZ e5 V_z rfl (j := (2 : Int32)) (by decide) (i := 2) rfl (v := (.ref en2)) rfl (g := (mkF m 16 #[.val (.ref x), .val (.ref z), .val (.int (6 : Int32)), .val (.int (2 : Int32)), .val (.ref en1)] [(.int (2 : Int32)), (.ref z)])) rfl rfl (hb hby dos_16)) ?_
  refine own_go (U' := T5.setTop (mkF m 19 #[.val (.ref x), .val (.ref z), .val (.int (6 : Int32)), .val (.int (2 : Int32)), .val (.ref en2)] [])) (fun t k => XS.astore X5.here hx rfl (hb hby dos_17) rfl rfl (l' := #[.val (.ref x), .val (.ref z), .val (.int (6 : Int32)), .val (.int (2 : Int32)), .val (.ref en2)]) rfl k) ?_
  refine own_go (U' := T5.setTop (mkF m 21 #[.val (.ref x), .val (.ref z), .val (.int (6 : Int32)), .val (.int (2 : Int32)), .val (.ref en2)] [(.ref en2)])) (fun t k => XS.aload X5.here hx rfl (hb hby dos_19) rfl rfl k) ?_
  obtain ⟨T6, X6, e6, st6⟩ := getF X5 hx hZ hown (host := "") (Or.inl (hw _ (List.mem_of_getElem? (i := 51) rfl))) Via.refl e5 (FT2.ext O.2) (g := (mkF m 21 #[.val (.ref x), .val (.ref z), .val (.int (6 : Int32)), .val (.int (2 : Int32)), .val (.ref en2)] [(.ref en2)])) rfl rfl (hb hby dos_21)
  refine own_go (U' := T6.setTop (mkF m 24 #[.val (.ref x), .val (.ref z), .val (.int (6 : Int32)), .val (.int (2 : Int32)), .val (.ref en2)] [(.ref tx2)])) st6 ?_
  refine own_go (U' := T6.setTop (mkF m 25 #[.val (.ref x), .val (.ref z), .val (.int (6 : Int32)), .val (.int (2 : Int32)), .val (.ref en2)] [(.ref x), (.ref tx2)])) (fun t k => XS.aloadN X6.here hx rfl (hb hby dos_24) rfl rfl k) ?_
  obtain ⟨v7, T7, h7, L7, e7, X7, hQ7, st7⟩ := own_callV X6 hx hZ (y := (⟨"java/lang/String", "equals", "(Ljava/lang/Object;)Z"⟩ : MethodName)) (z := (⟨"java/lang/String", "equals", "(Ljava/lang/Object;)Z"⟩ : MethodName)) hown (hw _ (List.mem_of_getElem? (i := 53) rfl)) (hw _ (List.mem_of_getElem? (i := 54) rfl)) (notFace_of_selects (args := #[]) (mvT hZ (hw _ (List.mem_of_getElem? (i := 56) rfl)))) (hw _ (List.mem_of_getElem? (i := 56) rfl)) (hw _ (List.mem_of_getElem? (i := 55) rfl)) (hw _ (List.mem_of_getElem? (i := 7) rfl)) (hw _ (List.mem_of_getElem? (i := 57) rfl)) (by decide) E_t2 (own_rmeq20 l Z a0 hw tx2 x h1 n0 O cs hcs S_cs (60) (61) _ _ _ _ E_t2 (FC2.ext O.2) (FV2.ext O.2) (VB2.ext O.2) E_x F_coder_x F_value_x V_y) (W := 0) (by decide) (by decide) (g := (mkF m 25 #[.val (.ref x), .val (.ref z), .val (.int (6 : Int32)), .val (.int (2 : Int32)), .val (.ref en2)] [(.ref x), (.ref tx2)])) rfl (by rw [hml]; rfl) (argsL := [(.ref x)]) (rest := []) (lenOf own_pd7 rfl) rfl rfl (by show 2 * 0 + _ ≤ _; exact Nat.le_of_eq rfl) (hb hby dos_25) e6 (by decide) (by decide)
  obtain ⟨rfl, rfl, eh7⟩ := hQ7
  have e7 := e7.trans eh7
  rw [List.append_nil] at X7
  refine own_go (U' := T7.setTop (mkF m 28 #[.val (.ref x), .val (.ref z), .val (.int (6 : Int32)), .val (.int (2 : Int32)), .val (.ref en2)] [(.int (0 : Int32))])) st7 ?_
  refine own_go (U' := T7.setTop (mkF m 34 #[.val (.ref x), .val (.ref z), .val (.int (6 : Int32)), .val (.int (2 : Int32)), .val (.ref en2)] [])) (fun t k => XS.ifYes X7.here hx rfl (pc0 := 28) (pc' := 34) rfl (hb hby dos_28) rfl ((if0 _ _).trans (teq (by decide)).1) (by decide) (by decide) k) ?_
  refine own_go (U' := T7.setTop (mkF m 37 #[.val (.ref x), .val (.ref z), .val (.int (6 : Int32)), .val (.int (3 : Int32)), .val (.ref en2)] [])) (fun t k => XS.iinc X7.here hx rfl (hb hby dos_34) rfl (l' := #[.val (.ref x), .val (.ref z), .val (.int (6 : Int32)), .val (.int (3 : Int32)), .val (.ref en2)]) rfl k) ?_
  refine own_go (U' := T7.setTop (mkF m 9 #[.val (.ref x), .val (.ref z), .val (.int (6 : Int32)), .val (.int (3 : Int32)), .val (.ref en2)] [])) (fun t k => XS.goto X7.here hx rfl (pc0 := 37) (pc' := 9) rfl (hb hby dos_37) (by decide) (by decide) k) ?_
  refine own_go (U' := T7.setTop (mkF m 10 #[.val (.ref x), .val (.ref z), .val (.int (6 : Int32)), .val (.int (3 : Int32)), .val (.ref en2)] [(.int (3 : Int32))])) (fun t k => XS.iloadN X7.here hx rfl (hb hby dos_9) rfl k) ?_
  refine own_go (U' := T7.setTop (mkF m 11 #[.val (.ref x), .val (.ref z), .val (.int (6 : Int32)), .val (.int (3 : Int32)), .val (.ref en2)] [(.int (6 : Int32)), (.int (3 : Int32))])) (fun t k => XS.iloadN X7.here hx rfl (hb hby dos_10) rfl k) ?_
  refine own_go (U' := T7.setTop (mkF m 14 #[.val (.ref x), .val (.ref z), .val (.int (6 : Int32)), .val (.int (3 : Int32)), .val (.ref en2)] [])) (fun t k => XS.icmpNo X7.here hx rfl (hb hby dos_11) rfl (tlt (by decide)).2.1 k) ?_
  refine own_go (U' := T7.setTop (mkF m 15 #[.val (.ref x), .val (.ref z), .val (.int (6 : Int32)), .val (.int (3 : Int32)), .val (.ref en2)] [(.ref z)])) (fun t k => XS.aloadN X7.here hx rfl (hb hby dos_14) rfl rfl k) ?_
  refine own_go (U' := T7.setTop (mkF m 16 #[.val (.ref x), .val (.ref z), .val (.int (6 : Int32)), .val (.int (3 : Int32)), .val (.ref en2)] [(.int (3 : Int32)), (.ref z)])) (fun t k => XS.iloadN X7.here hx rfl (hb hby dos_15) rfl k) ?_
  refine own_go (U' := T7.setTop (mkF m 17 #[.val (.ref x), .val (.ref z), .val (.int (6 : Int32)), .val (.int (3 : Int32)), .val (.ref en2)] [(.ref en3)])) (own_aaload X7 hx hZ e7 V_z rfl (j := (3 : Int32)) (by decide) (i := 3) rfl (v := (.ref en3)) rfl (g := (mkF m 16 #[.val (.ref x), .val (.ref z), .val (.int (6 : Int32)), .val (.int (3 : Int32)), .val (.ref en2)] [(.int (3 : Int32)), (.ref z)])) rfl rfl (hb hby dos_16)) ?_
  refine own_go (U' := T7.setTop (mkF m 19 #[.val (.ref x), .val (.ref z), .val (.int (6 : Int32)), .val (.int (3 : Int32)), .val (.ref en3)] [])) (fun t k => XS.astore X7.here hx rfl (hb hby dos_17) rfl rfl (l' := #[.val (.ref x), .val (.ref z), .val (.int (6 : Int32)), .val (.int (3 : Int32)), .val (.ref en3)]) rfl k) ?_
  refine own_go (U' := T7.setTop (mkF m 21 #[.val (.ref x), .val (.ref z), .val (.int (6 : Int32)), .val (.int (3 : Int32)), .val (.ref en3)] [(.ref en3)])) (fun t k => XS.aload X7.here hx rfl (hb hby dos_19) rfl rfl k) ?_
  obtain ⟨T8, X8, e8, st8⟩ := getF X7 hx hZ hown (host := "") (Or.inl (hw _ (List.mem_of_getElem? (i := 51) rfl))) Via.refl e7 (FT3.ext O.2) (g := (mkF m 21 #[.val (.ref x), .val (.ref z), .val (.int (6 : Int32)), .val (.int (3 : Int32)), .val (.ref en3)] [(.ref en3)])) rfl rfl (hb hby dos_21)
  refine own_go (U' := T8.setTop (mkF m 24 #[.val (.ref x), .val (.ref z), .val (.int (6 : Int32)), .val (.int (3 : Int32)), .val (.ref en3)] [(.ref tx3)])) st8 ?_
  refine own_go (U' := T8.setTop (mkF m 25 #[.val (.ref x), .val (.ref z), .val (.int (6 : Int32)), .val (.int (3 : Int32)), .val (.ref en3)] [(.ref x), (.ref tx3)])) (fun t k => XS.aloadN X8.here hx rfl (hb hby dos_24) rfl rfl k) ?_
  obtain ⟨v9, T9, h9, L9, e9, X9, hQ9, st9⟩ := own_callV X8 hx hZ (y := (⟨"java/lang/String", "equals", "(Ljava/lang/Object;)Z"⟩ : MethodName)) (z := (⟨"java/lang/String", "equals", "(Ljava/lang/Object;)Z"⟩ : MethodName)) hown (hw _ (List.mem_of_getElem? (i := 53) rfl)) (hw _ (List.mem_of_getElem? (i := 54) rfl)) (notFace_of_selects (args := #[]) (mvT hZ (hw _ (List.mem_of_getElem? (i := 56) rfl)))) (hw _ (List.mem_of_getElem? (i := 56) rfl)) (hw _ (List.mem_of_getElem? (i := 55) rfl)) (hw _ (List.mem_of_getElem? (i := 7) rfl)) (hw _ (List.mem_of_getElem? (i := 57) rfl)) (by decide) E_t3 (own_rmeq10 l Z a0 hw tx3 x h1 n0 O cs hcs S_cs (62) _ _ _ _ E_t3 (FC3.ext O.2) (FV3.ext O.2) (VB3.ext O.2) E_x F_coder_x F_value_x V_y) (W := 0) (by decide) (by decide) (g := (mkF m 25 #[.val (.ref x), .val (.ref z), .val (.int (6 : Int32)), .val (.int (3 : Int32)), .val (.ref en3)] [(.ref x), (.ref tx3)])) rfl (by rw [hml]; rfl) (argsL := [(.ref x)]) (rest := []) (lenOf own_pd7 rfl) rfl rfl (by show 2 * 0 + _ ≤ _; exact Nat.le_of_eq rfl) (hb hby dos_25) e8 (by decide) (by decide)
  obtain ⟨rfl, rfl, eh9⟩ := hQ9
  have e9 := e9.trans eh9
  rw [List.append_nil] at X9
  refine own_go (U' := T9.setTop (mkF m 28 #[.val (.ref x), .val (.ref z), .val (.int (6 : Int32)), .val (.int (3 : Int32)), .val (.ref en3)] [(.int (0 : Int32))])) st9 ?_
  refine own_go (U' := T9.setTop (mkF m 34 #[.val (.ref x), .val (.ref z), .val (.int (6 : Int32)), .val (.int (3 : Int32)), .val (.ref en3)] [])) (fun t k => XS.ifYes X9.here hx rfl (pc0 := 28) (pc' := 34) rfl (hb hby dos_28) rfl ((if0 _ _).trans (teq (by decide)).1) (by decide) (by decide) k) ?_
  refine own_go (U' := T9.setTop (mkF m 37 #[.val (.ref x), .val (.ref z), .val (.int (6 : Int32)), .val (.int (4 : Int32)), .val (.ref en3)] [])) (fun t k => XS.iinc X9.here hx rfl (hb hby dos_34) rfl (l' := #[.val (.ref x), .val (.ref z), .val (.int (6 : Int32)), .val (.int (4 : Int32)), .val (.ref en3)]) rfl k) ?_
  refine own_go (U' := T9.setTop (mkF m 9 #[.val (.ref x), .val (.ref z), .val (.int (6 : Int32)), .val (.int (4 : Int32)), .val (.ref en3)] [])) (fun t k => XS.goto X9.here hx rfl (pc0 := 37) (pc' := 9) rfl (hb hby dos_37) (by decide) (by decide) k) ?_
  refine own_go (U' := T9.setTop (mkF m 10 #[.val (.ref x), .val (.ref z), .val (.int (6 : Int32)), .val (.int (4 : Int32)), .val (.ref en3)] [(.int (4 : Int32))])) (fun t k => XS.iloadN X9.here hx rfl (hb hby dos_9) rfl k) ?_
  refine own_go (U' := T9.setTop (mkF m 11 #[.val (.ref x), .val (.ref z), .val (.int (6 : Int32)), .val (.int (4 : Int32)), .val (.ref en3)] [(.int (6 : Int32)), (.int (4 : Int32))])) (fun t k => XS.iloadN X9.here hx rfl (hb hby dos_10) rfl k) ?_
  refine own_go (U' := T9.setTop (mkF m 14 #[.val (.ref x), .val (.ref z), .val (.int (6 : Int32)), .val (.int (4 : Int32)), .val (.ref en3)] [])) (fun t k => XS.icmpNo X9.here hx rfl (hb hby dos_11) rfl (tlt (by decide)).2.1 k) ?_
  refine own_go (U' := T9.setTop (mkF m 15 #[.val (.ref x), .val (.ref z), .val (.int (6 : Int32)), .val (.int (4 : Int32)), .val (.ref en3)] [(.ref z)])) (fun t k => XS.aloadN X9.here hx rfl (hb hby dos_14) rfl rfl k) ?_
  refine own_go (U' := T9.setTop (mkF m 16 #[.val (.ref x), .val (.ref z), .val (.int (6 : Int32)), .val (.int (4 : Int32)), .val (.ref en3)] [(.int (4 : Int32)), (.ref z)])) (fun t k => XS.iloadN X9.here hx rfl (hb hby dos_15) rfl k) ?_
  refine own_go (U' := T9.setTop (mkF m 17 #[.val (.ref x), .val (.ref z), .val (.int (6 : Int32)), .val (.int (4 : Int32)), .val (.ref en3)] [(.ref en4)])) (own_aaload X9 hx hZ e9 V_z rfl (j := (4 : Int32)) (by decide) (i := 4) rfl (v := (.ref en4)) rfl (g := (mkF m 16 #[.val (.ref x), .val (.ref z), .val (.int (6 : Int32)), .val (.int (4 : Int32)), .val (.ref en3)] [(.int (4 : Int32)), (.ref z)])) rfl rfl (hb hby dos_16)) ?_
  refine own_go (U' := T9.setTop (mkF m 19 #[.val (.ref x), .val (.ref z), .val (.int (6 : Int32)), .val (.int (4 : Int32)), .val (.ref en4)] [])) (fun t k => XS.astore X9.here hx rfl (hb hby dos_17) rfl rfl (l' := #[.val (.ref x), .val (.ref z), .val (.int (6 : Int32)), .val (.int (4 : Int32)), .val (.ref en4)]) rfl k) ?_
  refine own_go (U' := T9.setTop (mkF m 21 #[.val (.ref x), .val (.ref z), .val (.int (6 : Int32)), .val (.int (4 : Int32)), .val (.ref en4)] [(.ref en4)])) (fun t k => XS.aload X9.here hx rfl (hb hby dos_19) rfl rfl k) ?_
  obtain ⟨T10, X10, e10, st10⟩ := getF X9 hx hZ hown (host := "") (Or.inl (hw _ (List.mem_of_getElem? (i := 51) rfl))) Via.refl e9 (FT4.ext O.2) (g := (mkF m 21 #[.val (.ref x), .val (.ref z), .val (.int (6 : Int32)), .val (.int (4 : Int32)), .val (.ref en4)] [(.ref en4)])) rfl rfl (hb hby dos_21)
  refine own_go (U' := T10.setTop (mkF m 24 #[.val (.ref x), .val (.ref z), .val (.int (6 : Int32)), .val (.int (4 : Int32)), .val (.ref en4)] [(.ref tx4)])) st10 ?_
  refine own_go (U' := T10.setTop (mkF m 25 #[.val (.ref x), .val (.ref z), .val (.int (6 : Int32)), .val (.int (4 : Int32)), .val (.ref en4)] [(.ref x), (.ref tx4)])) (fun t k => XS.aloadN X10.here hx rfl (hb hby dos_24) rfl rfl k) ?_
  obtain ⟨v11, T11, h11, L11, e11, X11, hQ11, st11⟩ := own_callV X10 hx hZ (y := (⟨"java/lang/String", "equals", "(Ljava/lang/Object;)Z"⟩ : MethodName)) (z := (⟨"java/lang/String", "equals", "(Ljava/lang/Object;)Z"⟩ : MethodName)) hown (hw _ (List.mem_of_getElem? (i := 53) rfl)) (hw _ (List.mem_of_getElem? (i := 54) rfl)) (notFace_of_selects (args := #[]) (mvT hZ (hw _ (List.mem_of_getElem? (i := 56) rfl)))) (hw _ (List.mem_of_getElem? (i := 56) rfl)) (hw _ (List.mem_of_getElem? (i := 55) rfl)) (hw _ (List.mem_of_getElem? (i := 7) rfl)) (hw _ (List.mem_of_getElem? (i := 57) rfl)) (by decide) E_t4 (own_rmeq20 l Z a0 hw tx4 x h1 n0 O cs hcs S_cs (62) (61) _ _ _ _ E_t4 (FC4.ext O.2) (FV4.ext O.2) (VB4.ext O.2) E_x F_coder_x F_value_x V_y) (W := 0) (by decide) (by decide) (g := (mkF m 25 #[.val (.ref x), .val (.ref z), .val (.int (6 : Int32)), .val (.int (4 : Int32)), .val (.ref en4)] [(.ref x), (.ref tx4)])) rfl (by rw [hml]; rfl) (argsL := [(.ref x)]) (rest := []) (lenOf own_pd7 rfl) rfl rfl (by show 2 * 0 + _ ≤ _; exact Nat.le_of_eq rfl) (hb hby dos_25) e10 (by decide) (by decide)
  obtain ⟨rfl, rfl, eh11⟩ := hQ11
  have e11 := e11.trans eh11
  rw [List.append_nil] at X11
  refine own_go (U' := T11.setTop (mkF m 28 #[.val (.ref x), .val (.ref z), .val (.int (6 : Int32)), .val (.int (4 : Int32)), .val (.ref en4)] [(.int (0 : Int32))])) st11 ?_
  refine own_go (U' := T11.setTop (mkF m 34 #[.val (.ref x), .val (.ref z), .val (.int (6 : Int32)), .val (.int (4 : Int32)), .val (.ref en4)] [])) (fun t k => XS.ifYes X11.here hx rfl (pc0 := 28) (pc' := 34) rfl (hb hby dos_28) rfl ((if0 _ _).trans (teq (by decide)).1) (by decide) (by decide) k) ?_
  refine own_go (U' := T11.setTop (mkF m 37 #[.val (.ref x), .val (.ref z), .val (.int (6 : Int32)), .val (.int (5 : Int32)), .val (.ref en4)] [])) (fun t k => XS.iinc X11.here hx rfl (hb hby dos_34) rfl (l' := #[.val (.ref x), .val (.ref z), .val (.int (6 : Int32)), .val (.int (5 : Int32)), .val (.ref en4)]) rfl k) ?_
  refine own_go (U' := T11.setTop (mkF m 9 #[.val (.ref x), .val (.ref z), .val (.int (6 : Int32)), .val (.int (5 : Int32)), .val (.ref en4)] [])) (fun t k => XS.goto X11.here hx rfl (pc0 := 37) (pc' := 9) rfl (hb hby dos_37) (by decide) (by decide) k) ?_
  refine own_go (U' := T11.setTop (mkF m 10 #[.val (.ref x), .val (.ref z), .val (.int (6 : Int32)), .val (.int (5 : Int32)), .val (.ref en4)] [(.int (5 : Int32))])) (fun t k => XS.iloadN X11.here hx rfl (hb hby dos_9) rfl k) ?_
  refine own_go (U' := T11.setTop (mkF m 11 #[.val (.ref x), .val (.ref z), .val (.int (6 : Int32)), .val (.int (5 : Int32)), .val (.ref en4)] [(.int (6 : Int32)), (.int (5 : Int32))])) (fun t k => XS.iloadN X11.here hx rfl (hb hby dos_10) rfl k) ?_
  refine own_go (U' := T11.setTop (mkF m 14 #[.val (.ref x), .val (.ref z), .val (.int (6 : Int32)), .val (.int (5 : Int32)), .val (.ref en4)] [])) (fun t k => XS.icmpNo X11.here hx rfl (hb hby dos_11) rfl (tlt (by decide)).2.1 k) ?_
  refine own_go (U' := T11.setTop (mkF m 15 #[.val (.ref x), .val (.ref z), .val (.int (6 : Int32)), .val (.int (5 : Int32)), .val (.ref en4)] [(.ref z)])) (fun t k => XS.aloadN X11.here hx rfl (hb hby dos_14) rfl rfl k) ?_
  refine own_go (U' := T11.setTop (mkF m 16 #[.val (.ref x), .val (.ref z), .val (.int (6 : Int32)), .val (.int (5 : Int32)), .val (.ref en4)] [(.int (5 : Int32)), (.ref z)])) (fun t k => XS.iloadN X11.here hx rfl (hb hby dos_15) rfl k) ?_
  refine own_go (U' := T11.setTop (mkF m 17 #[.val (.ref x), .val (.ref z), .val (.int (6 : Int32)), .val (.int (5 : Int32)), .val (.ref en4)] [(.ref en5)])) (own_aaload X11 hx hZ e11 V_z rfl (j := (5 : Int32)) (by decide) (i := 5) rfl (v := (.ref en5)) rfl (g := (mkF m 16 #[.val (.ref x), .val (.ref z), .val (.int (6 : Int32)), .val (.int (5 : Int32)), .val (.ref en4)] [(.int (5 : Int32)), (.ref z)])) rfl rfl (hb hby dos_16)) ?_
  refine own_go (U' := T11.setTop (mkF m 19 #[.val (.ref x), .val (.ref z), .val (.int (6 : Int32)), .val (.int (5 : Int32)), .val (.ref en5)] [])) (fun t k => XS.astore X11.here hx rfl (hb hby dos_17) rfl rfl (l' := #[.val (.ref x), .val (.ref z), .val (.int (6 : Int32)), .val (.int (5 : Int32)), .val (.ref en5)]) rfl k) ?_
  refine own_go (U' := T11.setTop (mkF m 21 #[.val (.ref x), .val (.ref z), .val (.int (6 : Int32)), .val (.int (5 : Int32)), .val (.ref en5)] [(.ref en5)])) (fun t k => XS.aload X11.here hx rfl (hb hby dos_19) rfl rfl k) ?_
  obtain ⟨T12, X12, e12, st12⟩ := getF X11 hx hZ hown (host := "") (Or.inl (hw _ (List.mem_of_getElem? (i := 51) rfl))) Via.refl e11 (FT5.ext O.2) (g := (mkF m 21 #[.val (.ref x), .val (.ref z), .val (.int (6 : Int32)), .val (.int (5 : Int32)), .val (.ref en5)] [(.ref en5)])) rfl rfl (hb hby dos_21)
  refine own_go (U' := T12.setTop (mkF m 24 #[.val (.ref x), .val (.ref z), .val (.int (6 : Int32)), .val (.int (5 : Int32)), .val (.ref en5)] [(.ref tx5)])) st12 ?_
  refine own_go (U' := T12.setTop (mkF m 25 #[.val (.ref x), .val (.ref z), .val (.int (6 : Int32)), .val (.int (5 : Int32)), .val (.ref en5)] [(.ref x), (.ref tx5)])) (fun t k => XS.aloadN X12.here hx rfl (hb hby dos_24) rfl rfl k) ?_
  obtain ⟨v13, T13, h13, L13, e13, X13, hQ13, st13⟩ := own_callV X12 hx hZ (y := (⟨"java/lang/String", "equals", "(Ljava/lang/Object;)Z"⟩ : MethodName)) (z := (⟨"java/lang/String", "equals", "(Ljava/lang/Object;)Z"⟩ : MethodName)) hown (hw _ (List.mem_of_getElem? (i := 53) rfl)) (hw _ (List.mem_of_getElem? (i := 54) rfl)) (notFace_of_selects (args := #[]) (mvT hZ (hw _ (List.mem_of_getElem? (i := 56) rfl)))) (hw _ (List.mem_of_getElem? (i := 56) rfl)) (hw _ (List.mem_of_getElem? (i := 55) rfl)) (hw _ (List.mem_of_getElem? (i := 7) rfl)) (hw _ (List.mem_of_getElem? (i := 57) rfl)) (by decide) E_t5 (own_rmeq20 l Z a0 hw tx5 x h1 n0 O cs hcs S_cs (73) (78) _ _ _ _ E_t5 (FC5.ext O.2) (FV5.ext O.2) (VB5.ext O.2) E_x F_coder_x F_value_x V_y) (W := 0) (by decide) (by decide) (g := (mkF m 25 #[.val (.ref x), .val (.ref z), .val (.int (6 : Int32)), .val (.int (5 : Int32)), .val (.ref en5)] [(.ref x), (.ref tx5)])) rfl (by rw [hml]; rfl) (argsL := [(.ref x)]) (rest := []) (lenOf own_pd7 rfl) rfl rfl (by show 2 * 0 + _ ≤ _; exact Nat.le_of_eq rfl) (hb hby dos_25) e12 (by decide) (by decide)
  obtain ⟨rfl, rfl, eh13⟩ := hQ13
  have e13 := e13.trans eh13
  rw [List.append_nil] at X13
  refine own_go (U' := T13.setTop (mkF m 28 #[.val (.ref x), .val (.ref z), .val (.int (6 : Int32)), .val (.int (5 : Int32)), .val (.ref en5)] [(.int (0 : Int32))])) st13 ?_
  refine own_go (U' := T13.setTop (mkF m 34 #[.val (.ref x), .val (.ref z), .val (.int (6 : Int32)), .val (.int (5 : Int32)), .val (.ref en5)] [])) (fun t k => XS.ifYes X13.here hx rfl (pc0 := 28) (pc' := 34) rfl (hb hby dos_28) rfl ((if0 _ _).trans (teq (by decide)).1) (by decide) (by decide) k) ?_
  refine own_go (U' := T13.setTop (mkF m 37 #[.val (.ref x), .val (.ref z), .val (.int (6 : Int32)), .val (.int (6 : Int32)), .val (.ref en5)] [])) (fun t k => XS.iinc X13.here hx rfl (hb hby dos_34) rfl (l' := #[.val (.ref x), .val (.ref z), .val (.int (6 : Int32)), .val (.int (6 : Int32)), .val (.ref en5)]) rfl k) ?_
  refine own_go (U' := T13.setTop (mkF m 9 #[.val (.ref x), .val (.ref z), .val (.int (6 : Int32)), .val (.int (6 : Int32)), .val (.ref en5)] [])) (fun t k => XS.goto X13.here hx rfl (pc0 := 37) (pc' := 9) rfl (hb hby dos_37) (by decide) (by decide) k) ?_
  refine own_go (U' := T13.setTop (mkF m 10 #[.val (.ref x), .val (.ref z), .val (.int (6 : Int32)), .val (.int (6 : Int32)), .val (.ref en5)] [(.int (6 : Int32))])) (fun t k => XS.iloadN X13.here hx rfl (hb hby dos_9) rfl k) ?_
  refine own_go (U' := T13.setTop (mkF m 11 #[.val (.ref x), .val (.ref z), .val (.int (6 : Int32)), .val (.int (6 : Int32)), .val (.ref en5)] [(.int (6 : Int32)), (.int (6 : Int32))])) (fun t k => XS.iloadN X13.here hx rfl (hb hby dos_10) rfl k) ?_
  refine own_go (U' := T13.setTop (mkF m 40 #[.val (.ref x), .val (.ref z), .val (.int (6 : Int32)), .val (.int (6 : Int32)), .val (.ref en5)] [])) (fun t k => XS.icmpYes X13.here hx rfl (pc0 := 11) (pc' := 40) rfl (hb hby dos_11) rfl (flt (by decide)).2.1 (by decide) (by decide) k) ?_
  refine own_go (U' := T13.setTop (mkF m 41 #[.val (.ref x), .val (.ref z), .val (.int (6 : Int32)), .val (.int (6 : Int32)), .val (.ref en5)] [.null])) (fun t k => XS.aconstNull X13.here hx rfl (hb hby dos_40) k) ?_
  refine own_retA X13 hx (t := (.object "com/example/pagemark/pagemark/statements/Restriction$Operator")) hret rfl hlk rfl (hb hby dos_41) ?_ (by decide) (by decide)
  rw [e13]
  refine ⟨?_, rfl, K⟩
  rfl
theorem own_efos1 (m : MethodId) (x : Addr) : entryFrame m #[(.ref x)] 5 = mkF m 0 #[.val (.ref x), .unset, .unset, .unset, .unset] [] := by first | (simp [entryFrame, mkF, argsToLocals, Value.category]; done) | rfl
set_option maxRecDepth 65536 in
set_option maxHeartbeats 40000000 in
theorem own_rmos1 (l : Launch) (Z : State) (a0 : Array Value) (hw : ∀ d ∈ tables_1, d.before a0 Z = true) (x : Addr) (h0 : Heap) (n0 : Nat) (en0 en1 en2 en3 en4 en5 : Addr) (O : Old Z n0 h0) (vv : Addr) (kv : ClassId) (S_v : Sta Z Z.heap "com/example/pagemark/pagemark/statements/Restriction$Operator" "$VALUES" "[Lcom/example/pagemark/pagemark/statements/Restriction$Operator;" (.ref vv)) (V_v : own_Ar Z Z.heap vv kv (.object "com/example/pagemark/pagemark/statements/Restriction$Operator") [(.ref en0), (.ref en1), (.ref en2), (.ref en3), (.ref en4), (.ref en5)]) (E_v : Exa Z Z.heap vv "[Lcom/example/pagemark/pagemark/statements/Restriction$Operator;") (tx0 tx1 tx2 tx3 tx4 tx5 bx0 bx1 bx2 bx3 bx4 bx5 : Addr) (kx0 kx1 kx2 kx3 kx4 kx5 : ClassId) (FT0 : Fld Z Z.heap en0 "com/example/pagemark/pagemark/statements/Restriction$Operator" "text" "Ljava/lang/String;" (.ref tx0)) (ET0 : Exa Z Z.heap tx0 "java/lang/String") (FC0 : Fld Z Z.heap tx0 "java/lang/String" "coder" "B" (.int 0)) (FV0 : Fld Z Z.heap tx0 "java/lang/String" "value" "[B" (.ref bx0)) (VB0 : own_Ar Z Z.heap bx0 kx0 .byte [.int (61 : Int32)]) (FT1 : Fld Z Z.heap en1 "com/example/pagemark/pagemark/statements/Restriction$Operator" "text" "Ljava/lang/String;" (.ref tx1)) (ET1 : Exa Z Z.heap tx1 "java/lang/String") (FC1 : Fld Z Z.heap tx1 "java/lang/String" "coder" "B" (.int 0)) (FV1 : Fld Z Z.heap tx1 "java/lang/String" "value" "[B" (.ref bx1)) (VB1 : own_Ar Z Z.heap bx1 kx1 .byte [.int (60 : Int32)]) (FT2 : Fld Z Z.heap en2 "com/example/pagemark/pagemark/statements/Restriction$Operator" "text" "Ljava/lang/String;" (.ref tx2)) (ET2 : Exa Z Z.heap tx2 "java/lang/String") (FC2 : Fld Z Z.heap tx2 "java/lang/String" "coder" "B" (.int 0)) (FV2 : Fld Z Z.heap tx2 "java/lang/String" "value" "[B" (.ref bx2)) (VB2 : own_Ar Z Z.heap bx2 kx2 .byte [.int (60 : Int32), .int (61 : Int32)]) (FT3 : Fld Z Z.heap en3 "com/example/pagemark/pagemark/statements/Restriction$Operator" "text" "Ljava/lang/String;" (.ref tx3)) (ET3 : Exa Z Z.heap tx3 "java/lang/String") (FC3 : Fld Z Z.heap tx3 "java/lang/String" "coder" "B" (.int 0)) (FV3 : Fld Z Z.heap tx3 "java/lang/String" "value" "[B" (.ref bx3)) (VB3 : own_Ar Z Z.heap bx3 kx3 .byte [.int (62 : Int32)]) (FT4 : Fld Z Z.heap en4 "com/example/pagemark/pagemark/statements/Restriction$Operator" "text" "Ljava/lang/String;" (.ref tx4)) (ET4 : Exa Z Z.heap tx4 "java/lang/String") (FC4 : Fld Z Z.heap tx4 "java/lang/String" "coder" "B" (.int 0)) (FV4 : Fld Z Z.heap tx4 "java/lang/String" "value" "[B" (.ref bx4)) (VB4 : own_Ar Z Z.heap bx4 kx4 .byte [.int (62 : Int32), .int (61 : Int32)]) (FT5 : Fld Z Z.heap en5 "com/example/pagemark/pagemark/statements/Restriction$Operator" "text" "Ljava/lang/String;" (.ref tx5)) (ET5 : Exa Z Z.heap tx5 "java/lang/String") (FC5 : Fld Z Z.heap tx5 "java/lang/String" "coder" "B" (.int 0)) (FV5 : Fld Z Z.heap tx5 "java/lang/String" "value" "[B" (.ref bx5)) (VB5 : own_Ar Z Z.heap bx5 kx5 .byte [.int (73 : Int32), .int (78 : Int32)]) (cs : Int32) (hcs : cs ≠ 0) (S_cs : Sta Z Z.heap "java/lang/String" "COMPACT_STRINGS" "Z" (.int cs)) (y0 : Int32) (y : Addr) (ky : ClassId) (E_x : Exa Z h0 x "java/lang/String") (F_coder_x : Fld Z h0 x "java/lang/String" "coder" "B" (.int 0)) (F_value_x : Fld Z h0 x "java/lang/String" "value" "[B" (.ref y)) (V_y : own_Ar Z h0 y ky .byte [.int y0]) :
    own_C l Z (⟨"com/example/pagemark/pagemark/statements/Restriction$Operator", "ofSymbol", "(Ljava/lang/String;)Lcom/example/pagemark/pagemark/statements/Restriction$Operator;"⟩ : MethodName) prog_34_method_4_code 5 (some (.object "com/example/pagemark/pagemark/statements/Restriction$Operator")) [] ({ frames := 2, cells := 1, slots := 6, locals := 60 } : Room) #[(.ref x)] h0 (fun v h L => v = some (own_o1 en0 en1 en3 y0) ∧ L = [] ∧ Keep h0 h []) := by
  refine own_body (plainFor_of_name own_pn4) fun p e s m below meth c s₁ hx hby hml hret hlk hown hnm hZ X0 e0 => ?_
  rw [own_efos1 m x]
  have N0 := Fr.nil n0
  have K := Keep.refl h0 []
  obtain ⟨v1, T1, h1, L1, e1, X1, hQ1, st1⟩ := own_callS X0 hx hZ (y := (⟨"com/example/pagemark/pagemark/statements/Restriction$Operator", "values", "()[Lcom/example/pagemark/pagemark/statements/Restriction$Operator;"⟩ : MethodName)) hown (hw _ (List.mem_of_getElem? (i := 30) rfl)) (hw _ (List.mem_of_getElem? (i := 31) rfl)) (hw _ (List.mem_of_getElem? (i := 28) rfl)) (hw _ (List.mem_of_getElem? (i := 32) rfl)) (by decide) (own_rmva l Z a0 hw h0 n0 en0 en1 en2 en3 en4 en5 O vv kv S_v V_v E_v) (W := 0) (by decide) (by decide) (g := (mkF m 0 #[.val (.ref x), .unset, .unset, .unset, .unset] [])) rfl (by rw [hml]; rfl) (argsL := []) (rest := []) (lenOf own_pd9 rfl) rfl rfl (by show 2 * 0 + _ ≤ _; exact Nat.le_of_eq rfl) (hb hby dos_0) e0 (by decide) (by decide)
  obtain ⟨z, rfl, rfl, Kq, sz_z, V_z⟩ := hQ1
  rw [List.append_nil] at X1
  have K := K.trans Kq all0
  have O := O.keep Kq all0
  have E_x := E_x.keep Kq
  have F_coder_x := F_coder_x.keep Kq nin0
  have F_value_x := F_value_x.keep Kq nin0
  have V_y := V_y.keep Kq nin0
  refine own_go (U' := T1.setTop (mkF m 3 #[.val (.ref x), .unset, .unset, .unset, .unset] [(.ref z)])) st1 ?_
  have E_t0 := ET0.ext O.2
  have E_t1 := ET1.ext O.2
  have E_t2 := ET2.ext O.2
  have E_t3 := ET3.ext O.2
  have E_t4 := ET4.ext O.2
  have E_t5 := ET5.ext O.2
  refine own_go (U' := T1.setTop (mkF m 4 #[.val (.ref x), .val (.ref z), .unset, .unset, .unset] [])) (fun t k => XS.astoreN X1.here hx rfl (hb hby dos_3) rfl rfl (l' := #[.val (.ref x), .val (.ref z), .unset, .unset, .unset]) rfl k) ?_
  refine own_go (U' := T1.setTop (mkF m 5 #[.val (.ref x), .val (.ref z), .unset, .unset, .unset] [(.ref z)])) (fun t k => XS.aloadN X1.here hx rfl (hb hby dos_4) rfl rfl k) ?_
  refine own_go (U' := T1.setTop (mkF m 6 #[.val (.ref x), .val (.ref z), .unset, .unset, .unset] [(.int (6 : Int32))])) (own_arrlen X1 hx hZ e1 V_z (n := (6 : Int32)) rfl (g := (mkF m 5 #[.val (.ref x), .val (.ref z), .unset, .unset, .unset] [(.ref z)])) rfl rfl (hb hby dos_5)) ?_
  refine own_go (U' := T1.setTop (mkF m 7 #[.val (.ref x), .val (.ref z), .val (.int (6 : Int32)), .unset, .unset] [])) (fun t k => XS.istoreN X1.here hx rfl (hb hby dos_6) rfl (l' := #[.val (.ref x), .val (.ref z), .val (.int (6 : Int32)), .unset, .unset]) rfl k) ?_
  refine own_go (U' := T1.setTop (mkF m 8 #[.val (.ref x), .val (.ref z), .val (.int (6 : Int32)), .unset, .unset] [(.int (0 : Int32))])) (fun t k => XS.iconst X1.here hx rfl (hb hby dos_7) k) ?_
  refine own_go (U' := T1.setTop (mkF m 9 #[.val (.ref x), .val (.ref z), .val (.int (6 : Int32)), .val (.int (0 : Int32)), .unset] [])) (fun t k => XS.istoreN X1.here hx rfl (hb hby dos_8) rfl (l' := #[.val (.ref x), .val (.ref z), .val (.int (6 : Int32)), .val (.int (0 : Int32)), .unset]) rfl k) ?_
  refine own_go (U' := T1.setTop (mkF m 10 #[.val (.ref x), .val (.ref z), .val (.int (6 : Int32)), .val (.int (0 : Int32)), .unset] [(.int (0 : Int32))])) (fun t k => XS.iloadN X1.here hx rfl (hb hby dos_9) rfl k) ?_
  refine own_go (U' := T1.setTop (mkF m 11 #[.val (.ref x), .val (.ref z), .val (.int (6 : Int32)), .val (.int (0 : Int32)), .unset] [(.int (6 : Int32)), (.int (0 : Int32))])) (fun t k => XS.iloadN X1.here hx rfl (hb hby dos_10) rfl k) ?_
  refine own_go (U' := T1.setTop (mkF m 14 #[.val (.ref x), .val (.ref z), .val (.int (6 : Int32)), .val (.int (0 : Int32)), .unset] [])) (fun t k => XS.icmpNo X1.here hx rfl (hb hby dos_11) rfl (tlt (by decide)).2.1 k) ?_
  refine own_go (U' := T1.setTop (mkF m 15 #[.val (.ref x), .val (.ref z), .val (.int (6 : Int32)), .val (.int (0 : Int32)), .unset] [(.ref z)])) (fun t k => XS.aloadN X1.here hx rfl (hb hby dos_14) rfl rfl k) ?_
  refine own_go (U' := T1.setTop (mkF m 16 #[.val (.ref x), .val (.ref z), .val (.int (6 : Int32)), .val (.int (0 : Int32)), .unset] [(.int (0 : Int32)), (.ref z)])) (fun t k => XS.iloadN X1.here hx rfl (hb hby dos_15) rfl k) ?_
  refine own_go (U' := T1.setTop (mkF m 17 #[.val (.ref x), .val (.ref z), .val (.int (6 : Int32)), .val (.int (0 : Int32)), .unset] [(.ref en0)])) (own_aaload X1 hx hZ e1 V_z rfl (j := (0 : Int32)) (by decide) (i := 0) rfl (v := (.ref en0)) rfl (g := (mkF m 16 #[.val (.ref x), .val (.ref z), .val (.int (6 : Int32)), .val (.int (0 : Int32)), .unset] [(.int (0 : Int32)), (.ref z)])) rfl rfl (hb hby dos_16)) ?_
  refine own_go (U' := T1.setTop (mkF m 19 #[.val (.ref x), .val (.ref z), .val (.int (6 : Int32)), .val (.int (0 : Int32)), .val (.ref en0)] [])) (fun t k => XS.astore X1.here hx rfl (hb hby dos_17) rfl rfl (l' := #[.val (.ref x), .val (.ref z), .val (.int (6 : Int32)), .val (.int (0 : Int32)), .val (.ref en0)]) rfl k) ?_
  refine own_go (U' := T1.setTop (mkF m 21 #[.val (.ref x), .val (.ref z), .val (.int (6 : Int32)), .val (.int (0 : Int32)), .val (.ref en0)] [(.ref en0)])) (fun t k => XS.aload X1.here hx rfl (hb hby dos_19) rfl rfl k) ?_
  obtain ⟨T2, X2, e2, st2⟩ := getF X1 hx hZ hown (host := "") (Or.inl (hw _ (List.mem_of_getElem? (i := 51) rfl))) Via.refl e1 (FT0.ext O.2) (g := (mkF m 21 #[.val (.ref x), .val (.ref z), .val (.int (6 : Int32)), .val (.int (0 : Int32)), .val (.ref en0)] [(.ref en0)])) rfl rfl (hb hby dos_21)
  refine own_go (U' := T2.setTop (mkF m 24 #[.val (.ref x), .val (.ref z), .val (.int (6 : Int32)), .val (.int (0 : Int32)), .val (.ref en0)] [(.ref tx0)])) st2 ?_
  refine own_go (U' := T2.setTop (mkF m 25 #[.val (.ref x), .val (.ref z), .val (.int (6 : Int32)), .val (.int (0 : Int32)), .val (.ref en0)] [(.ref x), (.ref tx0)])) (fun t k => XS.aloadN X2.here hx rfl (hb hby dos_24) rfl rfl k) ?_
  obtain ⟨v3, T3, h3, L3, e3, X3, hQ3, st3⟩ := own_callV X2 hx hZ (y := (⟨"java/lang/String", "equals", "(Ljava/lang/Object;)Z"⟩ : MethodName)) (z := (⟨"java/lang/String", "equals", "(Ljava/lang/Object;)Z"⟩ : MethodName)) hown (hw _ (List.mem_of_getElem? (i := 53) rfl)) (hw _ (List.mem_of_getElem? (i := 54) rfl)) (notFace_of_selects (args := #[]) (mvT hZ (hw _ (List.mem_of_getElem? (i := 56) rfl)))) (hw _ (List.mem_of_getElem? (i := 56) rfl)) (hw _ (List.mem_of_getElem? (i := 55) rfl)) (hw _ (List.mem_of_getElem? (i := 7) rfl)) (hw _ (List.mem_of_getElem? (i := 57) rfl)) (by decide) E_t0 (own_rmeq11 l Z a0 hw tx0 x h1 n0 O cs hcs S_cs (61) y0 _ _ _ _ E_t0 (FC0.ext O.2) (FV0.ext O.2) (VB0.ext O.2) E_x F_coder_x F_value_x V_y) (W := 0) (by decide) (by decide) (g := (mkF m 25 #[.val (.ref x), .val (.ref z), .val (.int (6 : Int32)), .val (.int (0 : Int32)), .val (.ref en0)] [(.ref x), (.ref tx0)])) rfl (by rw [hml]; rfl) (argsL := [(.ref x)]) (rest := []) (lenOf own_pd7 rfl) rfl rfl (by show 2 * 0 + _ ≤ _; exact Nat.le_of_eq rfl) (hb hby dos_25) e2 (by decide) (by decide)
  obtain ⟨rfl, rfl, eh3⟩ := hQ3
  have e3 := e3.trans eh3
  rw [List.append_nil] at X3
  refine own_go (U' := T3.setTop (mkF m 28 #[.val (.ref x), .val (.ref z), .val (.int (6 : Int32)), .val (.int (0 : Int32)), .val (.ref en0)] [(.int (if (61 : Int32) = y0 then (1 : Int32) else 0))])) st3 ?_
  by_cases hi0 : (61 : Int32) = y0
  · rw [if_pos hi0]
    refine own_go (U' := T3.setTop (mkF m 31 #[.val (.ref x), .val (.ref z), .val (.int (6 : Int32)), .val (.int (0 : Int32)), .val (.ref en0)] [])) (fun t k => XS.ifNo X3.here hx rfl (hb hby dos_28) rfl ((if0 _ _).trans (feq (by decide)).1) k) ?_
    refine own_go (U' := T3.setTop (mkF m 33 #[.val (.ref x), .val (.ref z), .val (.int (6 : Int32)), .val (.int (0 : Int32)), .val (.ref en0)] [(.ref en0)])) (fun t k => XS.aload X3.here hx rfl (hb hby dos_31) rfl rfl k) ?_
    refine own_retA X3 hx (t := (.object "com/example/pagemark/pagemark/statements/Restriction$Operator")) hret rfl hlk rfl (hb hby dos_33) ?_ (by decide) (by decide)
    rw [e3]
    refine ⟨?_, rfl, K⟩
    rw [own_o1, if_pos hi0]
  · rw [if_neg hi0]
    refine own_go (U' := T3.setTop (mkF m 34 #[.val (.ref x), .val (.ref z), .val (.int (6 : Int32)), .val (.int (0 : Int32)), .val (.ref en0)] [])) (fun t k => XS.ifYes X3.here hx rfl (pc0 := 28) (pc' := 34) rfl (hb hby dos_28) rfl ((if0 _ _).trans (teq (by decide)).1) (by decide) (by decide) k) ?_
    refine own_go (U' := T3.setTop (mkF m 37 #[.val (.ref x), .val (.ref z), .val (.int (6 : Int32)), .val (.int (1 : Int32)), .val (.ref en0)] [])) (fun t k => XS.iinc X3.here hx rfl (hb hby dos_34) rfl (l' := #[.val (.ref x), .val (.ref z), .val (.int (6 : Int32)), .val (.int (1 : Int32)), .val (.ref en0)]) rfl k) ?_
    refine own_go (U' := T3.setTop (mkF m 9 #[.val (.ref x), .val (.ref z), .val (.int (6 : Int32)), .val (.int (1 : Int32)), .val (.ref en0)] [])) (fun t k => XS.goto X3.here hx rfl (pc0 := 37) (pc' := 9) rfl (hb hby dos_37) (by decide) (by decide) k) ?_
    refine own_go (U' := T3.setTop (mkF m 10 #[.val (.ref x), .val (.ref z), .val (.int (6 : Int32)), .val (.int (1 : Int32)), .val (.ref en0)] [(.int (1 : Int32))])) (fun t k => XS.iloadN X3.here hx rfl (hb hby dos_9) rfl k) ?_
    refine own_go (U' := T3.setTop (mkF m 11 #[.val (.ref x), .val (.ref z), .val (.int (6 : Int32)), .val (.int (1 : Int32)), .val (.ref en0)] [(.int (6 : Int32)), (.int (1 : Int32))])) (fun t k => XS.iloadN X3.here hx rfl (hb hby dos_10) rfl k) ?_
    refine own_go (U' := T3.setTop (mkF m 14 #[.val (.ref x), .val (.ref z), .val (.int (6 : Int32)), .val (.int (1 : Int32)), .val (.ref en0)] [])) (fun t k => XS.icmpNo X3.here hx rfl (hb hby dos_11) rfl (tlt (by decide)).2.1 k) ?_
    refine own_go (U' := T3.setTop (mkF m 15 #[.val (.ref x), .val (.ref z), .val (.int (6 : Int32)), .val (.int (1 : Int32)), .val (.ref en0)] [(.ref z)])) (fun t k => XS.aloadN X3.here hx rfl (hb hby dos_14) rfl rfl k) ?_
    refine own_go (U' := T3.setTop (mkF m 16 #[.val (.ref x), .val (.ref z), .val (.int (6 : Int32)), .val (.int (1 : Int32)), .val (.ref en0)] [(.int (1 : Int32)), (.ref z)])) (fun t k => XS.iloadN X3.here hx rfl (hb hby dos_15) rfl k) ?_
    refine own_go (U' := T3.setTop (mkF m 17 #[.val (.ref x), .val (.ref z), .val (.int (6 : Int32)), .val (.int (1 : Int32)), .val (.ref en0)] [(.ref en1)])) (own_aaload X3 hx hZ e3 V_z rfl (j := (1 : Int32)) (by decide) (i := 1) rfl (v := (.ref en1)) rfl (g := (mkF m 16 #[.val (.ref x), .val (.ref z), .val (.int (6 : Int32)), .val (.int (1 : Int32)), .val (.ref en0)] [(.int (1 : Int32)), (.ref z)])) rfl rfl (hb hby dos_16)) ?_
    refine own_go (U' := T3.setTop (mkF m 19 #[.val (.ref x), .val (.ref z), .val (.int (6 : Int32)), .val (.int (1 : Int32)), .val (.ref en1)] [])) (fun t k => XS.astore X3.here hx rfl (hb hby dos_17) rfl rfl (l' := #[.val (.ref x), .val (.ref z), .val (.int (6 : Int32)), .val (.int (1 : Int32)), .val (.ref en1)]) rfl k) ?_
    refine own_go (U' := T3.setTop (mkF m 21 #[.val (.ref x), .val (.ref z), .val (.int (6 : Int32)), .val (.int (1 : Int32)), .val (.ref en1)] [(.ref en1)])) (fun t k => XS.aload X3.here hx rfl (hb hby dos_19) rfl rfl k) ?_
    obtain ⟨T4, X4, e4, st4⟩ := getF X3 hx hZ hown (host := "") (Or.inl (hw _ (List.mem_of_getElem? (i := 51) rfl))) Via.refl e3 (FT1.ext O.2) (g := (mkF m 21 #[.val (.ref x), .val (.ref z), .val (.int (6 : Int32)), .val (.int (1 : Int32)), .val (.ref en1)] [(.ref en1)])) rfl rfl (hb hby dos_21)
    refine own_go (U' := T4.setTop (mkF m 24 #[.val (.ref x), .val (.ref z), .val (.int (6 : Int32)), .val (.int (1 : Int32)), .val (.ref en1)] [(.ref tx1)])) st4 ?_
    refine own_go (U' := T4.setTop (mkF m 25 #[.val (.ref x), .val (.ref z), .val (.int (6 : Int32)), .val (.int (1 : Int32)), .val (.ref en1)] [(.ref x), (.ref tx1)])) (fun t k => XS.aloadN X4.here hx rfl (hb hby dos_24) rfl rfl k) ?_
    obtain ⟨v5, T5, h5, L5, e5, X5, hQ5, st5⟩ := own_callV X4 hx hZ (y := (⟨"java/lang/String", "equals", "(Ljava/lang/Object;)Z"⟩ : MethodName)) (z := (⟨"java/lang/String", "equals", "(Ljava/lang/Object;)Z"⟩ : MethodName)) hown (hw _ (List.mem_of_getElem? (i := 53) rfl)) (hw _ (List.mem_of_getElem? (i := 54) rfl)) (notFace_of_selects (args := #[]) (mvT hZ (hw _ (List.mem_of_getElem? (i := 56) rfl)))) (hw _ (List.mem_of_getElem? (i := 56) rfl)) (hw _ (List.mem_of_getElem? (i := 55) rfl)) (hw _ (List.mem_of_getElem? (i := 7) rfl)) (hw _ (List.mem_of_getElem? (i := 57) rfl)) (by decide) E_t1 (own_rmeq11 l Z a0 hw tx1 x h1 n0 O cs hcs S_cs (60) y0 _ _ _ _ E_t1 (FC1.ext O.2) (FV1.ext O.2) (VB1.ext O.2) E_x F_coder_x F_value_x V_y) (W := 0) (by decide) (by decide) (g := (mkF m 25 #[.val (.ref x), .val (.ref z), .val (.int (6 : Int32)), .val (.int (1 : Int32)), .val (.ref en1)] [(.ref x), (.ref tx1)])) rfl (by rw [hml]; rfl) (argsL := [(.ref x)]) (rest := []) (lenOf own_pd7 rfl) rfl rfl (by show 2 * 0 + _ ≤ _; exact Nat.le_of_eq rfl) (hb hby dos_25) e4 (by decide) (by decide)
    obtain ⟨rfl, rfl, eh5⟩ := hQ5
    have e5 := e5.trans eh5
    rw [List.append_nil] at X5
    refine own_go (U' := T5.setTop (mkF m 28 #[.val (.ref x), .val (.ref z), .val (.int (6 : Int32)), .val (.int (1 : Int32)), .val (.ref en1)] [(.int (if (60 : Int32) = y0 then (1 : Int32) else 0))])) st5 ?_
    by_cases hi1 : (60 : Int32) = y0
    · rw [if_pos hi1]
      refine own_go (U' := T5.setTop (mkF m 31 #[.val (.ref x), .val (.ref z), .val (.int (6 : Int32)), .val (.int (1 : Int32)), .val (.ref en1)] [])) (fun t k => XS.ifNo X5.here hx rfl (hb hby dos_28) rfl ((if0 _ _).trans (feq (by decide)).1) k) ?_
      refine own_go (U' := T5.setTop (mkF m 33 #[.val (.ref x), .val (.ref z), .val (.int (6 : Int32)), .val (.int (1 : Int32)), .val (.ref en1)] [(.ref en1)])) (fun t k => XS.aload X5.here hx rfl (hb hby dos_31) rfl rfl k) ?_
      refine own_retA X5 hx (t := (.object "com/example/pagemark/pagemark/statements/Restriction$Operator")) hret rfl hlk rfl (hb hby dos_33) ?_ (by decide) (by decide)
      rw [e5]
      refine ⟨?_, rfl, K⟩
      rw [own_o1, if_neg hi0, if_pos hi1]
    · rw [if_neg hi1]
      refine own_go (U' := T5.setTop (mkF m 34 #[.val (.ref x), .val (.ref z), .val (.int (6 : Int32)), .val (.int (1 : Int32)), .val (.ref en1)] [])) (fun t k => XS.ifYes X5.here hx rfl (pc0 := 28) (pc' := 34) rfl (hb hby dos_28) rfl ((if0 _ _).trans (teq (by decide)).1) (by decide) (by decide) k) ?_
      refine own_go (U' := T5.setTop (mkF m 37 #[.val (.ref x), .val (.ref z), .val (.int (6 : Int32)), .val (.int (2 : Int32)), .val (.ref en1)] [])) (fun t k => XS.iinc X5.here hx rfl (hb hby dos_34) rfl (l' := #[.val (.ref x), .val (.ref z), .val (.int (6 : Int32)), .val (.int (2 : Int32)), .val (.ref en1)]) rfl k) ?_
      refine own_go (U' := T5.setTop (mkF m 9 #[.val (.ref x), .val (.ref z), .val (.int (6 : Int32)), .val (.int (2 : Int32)), .val (.ref en1)] [])) (fun t k => XS.goto X5.here hx rfl (pc0 := 37) (pc' := 9) rfl (hb hby dos_37) (by decide) (by decide) k) ?_
      refine own_go (U' := T5.setTop (mkF m 10 #[.val (.ref x), .val (.ref z), .val (.int (6 : Int32)), .val (.int (2 : Int32)), .val (.ref en1)] [(.int (2 : Int32))])) (fun t k => XS.iloadN X5.here hx rfl (hb hby dos_9) rfl k) ?_
      refine own_go (U' := T5.setTop (mkF m 11 #[.val (.ref x), .val (.ref z), .val (.int (6 : Int32)), .val (.int (2 : Int32)), .val (.ref en1)] [(.int (6 : Int32)), (.int (2 : Int32))])) (fun t k => XS.iloadN X5.here hx rfl (hb hby dos_10) rfl k) ?_
      refine own_go (U' := T5.setTop (mkF m 14 #[.val (.ref x), .val (.ref z), .val (.int (6 : Int32)), .val (.int (2 : Int32)), .val (.ref en1)] [])) (fun t k => XS.icmpNo X5.here hx rfl (hb hby dos_11) rfl (tlt (by decide)).2.1 k) ?_
      refine own_go (U' := T5.setTop (mkF m 15 #[.val (.ref x), .val (.ref z), .val (.int (6 : Int32)), .val (.int (2 : Int32)), .val (.ref en1)] [(.ref z)])) (fun t k => XS.aloadN X5.here hx rfl (hb hby dos_14) rfl rfl k) ?_
      refine own_go (U' := T5.setTop (mkF m 16 #[.val (.ref x), .val (.ref z), .val (.int (6 : Int32)), .val (.int (2 : Int32)), .val (.ref en1)] [(.int (2 : Int32)), (.ref z)])) (fun t k => XS.iloadN X5.here hx rfl (hb hby dos_15) rfl k) ?_
      refine own_go (U' := T5.setTop (mkF m 17 #[.val (.ref x), .val (.ref z), .val (.int (6 : Int32)), .val (.int (2 : Int32)), .val (.ref en1)] [(.ref en2)])) (own_aaload X5 hx hZ e5 V_z rfl (j := (2 : Int32)) (by decide) (i := 2) rfl (v := (.ref en2)) rfl (g := (mkF m 16 #[.val (.ref x), .val (.ref z), .val (.int (6 : Int32)), .val (.int (2 : Int32)), .val (.ref en1)] [(.int (2 : Int32)), (.ref z)])) rfl rfl (hb hby dos_16)) ?_
      refine own_go (U' := T5.setTop (mkF m 19 #[.val (.ref x), .val (.ref z), .val (.int (6 : Int32)), .val (.int (2 : Int32)), .val (.ref en2)] [])) (fun t k => XS.astore X5.here hx rfl (hb hby dos_17) rfl rfl (l' := #[.val (.ref x), .val (.ref z), .val (.int (6 : Int32)), .val (.int (2 : Int32)), .val (.ref en2)]) rfl k) ?_
      refine own_go (U' := T5.setTop (mkF m 21 #[.val (.ref x), .val (.ref z), .val (.int (6 : Int32)), .val (.int (2 : Int32)), .val (.ref en2)] [(.ref en2)])) (fun t k => XS.aload X5.here hx rfl (hb hby dos_19) rfl rfl k) ?_
      obtain ⟨T6, X6, e6, st6⟩ := getF X5 hx hZ hown (host := "") (Or.inl (hw _ (List.mem_of_getElem? (i := 51) rfl))) Via.refl e5 (FT2.ext O.2) (g := (mkF m 21 #[.val (.ref x), .val (.ref z), .val (.int (6 : Int32)), .val (.int (2 : Int32)), .val (.ref en2)] [(.ref en2)])) rfl rfl (hb hby dos_21)
      refine own_go (U' := T6.setTop (mkF m 24 #[.val (.ref x), .val (.ref z), .val (.int (6 : Int32)), .val (.int (2 : Int32)), .val (.ref en2)] [(.ref tx2)])) st6 ?_
      refine own_go (U' := T6.setTop (mkF m 25 #[.val (.ref x), .val (.ref z), .val (.int (6 : Int32)), .val (.int (2 : Int32)), .val (.ref en2)] [(.ref x), (.ref tx2)])) (fun t k => XS.aloadN X6.here hx rfl (hb hby dos_24) rfl rfl k) ?_
      obtain ⟨v7, T7, h7, L7, e7, X7, hQ7, st7⟩ := own_callV X6 hx hZ (y := (⟨"java/lang/String", "equals", "(Ljava/lang/Object;)Z"⟩ : MethodName)) (z := (⟨"java/lang/String", "equals", "(Ljava/lang/Object;)Z"⟩ : MethodName)) hown (hw _ (List.mem_of_getElem? (i := 53) rfl)) (hw _ (List.mem_of_getElem? (i := 54) rfl)) (notFace_of_selects (args := #[]) (mvT hZ (hw _ (List.mem_of_getElem? (i := 56) rfl)))) (hw _ (List.mem_of_getElem? (i := 56) rfl)) (hw _ (List.mem_of_getElem? (i := 55) rfl)) (hw _ (List.mem_of_getElem? (i := 7) rfl)) (hw _ (List.mem_of_getElem? (i := 57) rfl)) (by decide) E_t2 (own_rmeq21 l Z a0 hw tx2 x h1 n0 O cs hcs S_cs (60) (61) y0 _ _ _ _ E_t2 (FC2.ext O.2) (FV2.ext O.2) (VB2.ext O.2) E_x F_coder_x F_value_x V_y) (W := 0) (by decide) (by decide) (g := (mkF m 25 #[.val (.ref x), .val (.ref z), .val (.int (6 : Int32)), .val (.int (2 : Int32)), .val (.ref en2)] [(.ref x), (.ref tx2)])) rfl (by rw [hml]; rfl) (argsL := [(.ref x)]) (rest := []) (lenOf own_pd7 rfl) rfl rfl (by show 2 * 0 + _ ≤ _; exact Nat.le_of_eq rfl) (hb hby dos_25) e6 (by decide) (by decide)
      obtain ⟨rfl, rfl, eh7⟩ := hQ7
      have e7 := e7.trans eh7
      rw [List.append_nil] at X7
      refine own_go (U' := T7.setTop (mkF m 28 #[.val (.ref x), .val (.ref z), .val (.int (6 : Int32)), .val (.int (2 : Int32)), .val (.ref en2)] [(.int (0 : Int32))])) st7 ?_
      refine own_go (U' := T7.setTop (mkF m 34 #[.val (.ref x), .val (.ref z), .val (.int (6 : Int32)), .val (.int (2 : Int32)), .val (.ref en2)] [])) (fun t k => XS.ifYes X7.here hx rfl (pc0 := 28) (pc' := 34) rfl (hb hby dos_28) rfl ((if0 _ _).trans (teq (by decide)).1) (by decide) (by decide) k) ?_
      refine own_go (U' := T7.setTop (mkF m 37 #[.val (.ref x), .val (.ref z), .val (.int (6 : Int32)), .val (.int (3 : Int32)), .val (.ref en2)] [])) (fun t k => XS.iinc X7.here hx rfl (hb hby dos_34) rfl (l' := #[.val (.ref x), .val (.ref z), .val (.int (6 : Int32)), .val (.int (3 : Int32)), .val (.ref en2)]) rfl k) ?_
      refine own_go (U' := T7.setTop (mkF m 9 #[.val (.ref x), .val (.ref z), .val (.int (6 : Int32)), .val (.int (3 : Int32)), .val (.ref en2)] [])) (fun t k => XS.goto X7.here hx rfl (pc0 := 37) (pc' := 9) rfl (hb hby dos_37) (by decide) (by decide) k) ?_
      refine own_go (U' := T7.setTop (mkF m 10 #[.val (.ref x), .val (.ref z), .val (.int (6 : Int32)), .val (.int (3 : Int32)), .val (.ref en2)] [(.int (3 : Int32))])) (fun t k => XS.iloadN X7.here hx rfl (hb hby dos_9) rfl k) ?_
      refine own_go (U' := T7.setTop (mkF m 11 #[.val (.ref x), .val (.ref z), .val (.int (6 : Int32)), .val (.int (3 : Int32)), .val (.ref en2)] [(.int (6 : Int32)), (.int (3 : Int32))])) (fun t k => XS.iloadN X7.here hx rfl (hb hby dos_10) rfl k) ?_
      refine own_go (U' := T7.setTop (mkF m 14 #[.val (.ref x), .val (.ref z), .val (.int (6 : Int32)), .val (.int (3 : Int32)), .val (.ref en2)] [])) (fun t k => XS.icmpNo X7.here hx rfl (hb hby dos_11) rfl (tlt (by decide)).2.1 k) ?_
      refine own_go (U' := T7.setTop (mkF m 15 #[.val (.ref x), .val (.ref z), .val (.int (6 : Int32)), .val (.int (3 : Int32)), .val (.ref en2)] [(.ref z)])) (fun t k => XS.aloadN X7.here hx rfl (hb hby dos_14) rfl rfl k) ?_
      refine own_go (U' := T7.setTop (mkF m 16 #[.val (.ref x), .val (.ref z), .val (.int (6 : Int32)), .val (.int (3 : Int32)), .val (.ref en2)] [(.int (3 : Int32)), (.ref z)])) (fun t k => XS.iloadN X7.here hx rfl (hb hby dos_15) rfl k) ?_
      refine own_go (U' := T7.setTop (mkF m 17 #[.val (.ref x), .val (.ref z), .val (.int (6 : Int32)), .val (.int (3 : Int32)), .val (.ref en2)] [(.ref en3)])) (own_aaload X7 hx hZ e7 V_z rfl (j := (3 : Int32)) (by decide) (i := 3) rfl (v := (.ref en3)) rfl (g := (mkF m 16 #[.val (.ref x), .val (.ref z), .val (.int (6 : Int32)), .val (.int (3 : Int32)), .val (.ref en2)] [(.int (3 : Int32)), (.ref z)])) rfl rfl (hb hby dos_16)) ?_
      refine own_go (U' := T7.setTop (mkF m 19 #[.val (.ref x), .val (.ref z), .val (.int (6 : Int32)), .val (.int (3 : Int32)), .val (.ref en3)] [])) (fun t k => XS.astore X7.here hx rfl (hb hby dos_17) rfl rfl (l' := #[.val (.ref x), .val (.ref z), .val (.int (6 : Int32)), .val (.int (3 : Int32)), .val (.ref en3)]) rfl k) ?_
      refine own_go (U' := T7.setTop (mkF m 21 #[.val (.ref x), .val (.ref z), .val (.int (6 : Int32)), .val (.int (3 : Int32)), .val (.ref en3)] [(.ref en3)])) (fun t k => XS.aload X7.here hx rfl (hb hby dos_19) rfl rfl k) ?_
      obtain ⟨T8, X8, e8, st8⟩ := getF X7 hx hZ hown (host := "") (Or.inl (hw _ (List.mem_of_getElem? (i := 51) rfl))) Via.refl e7 (FT3.ext O.2) (g := (mkF m 21 #[.val (.ref x), .val (.ref z), .val (.int (6 : Int32)), .val (.int (3 : Int32)), .val (.ref en3)] [(.ref en3)])) rfl rfl (hb hby dos_21)
      refine own_go (U' := T8.setTop (mkF m 24 #[.val (.ref x), .val (.ref z), .val (.int (6 : Int32)), .val (.int (3 : Int32)), .val (.ref en3)] [(.ref tx3)])) st8 ?_
      refine own_go (U' := T8.setTop (mkF m 25 #[.val (.ref x), .val (.ref z), .val (.int (6 : Int32)), .val (.int (3 : Int32)), .val (.ref en3)] [(.ref x), (.ref tx3)])) (fun t k => XS.aloadN X8.here hx rfl (hb hby dos_24) rfl rfl k) ?_
      obtain ⟨v9, T9, h9, L9, e9, X9, hQ9, st9⟩ := own_callV X8 hx hZ (y := (⟨"java/lang/String", "equals", "(Ljava/lang/Object;)Z"⟩ : MethodName)) (z := (⟨"java/lang/String", "equals", "(Ljava/lang/Object;)Z"⟩ : MethodName)) hown (hw _ (List.mem_of_getElem? (i := 53) rfl)) (hw _ (List.mem_of_getElem? (i := 54) rfl)) (notFace_of_selects (args := #[]) (mvT hZ (hw _ (List.mem_of_getElem? (i := 56) rfl)))) (hw _ (List.mem_of_getElem? (i := 56) rfl)) (hw _ (List.mem_of_getElem? (i := 55) rfl)) (hw _ (List.mem_of_getElem? (i := 7) rfl)) (hw _ (List.mem_of_getElem? (i := 57) rfl)) (by decide) E_t3 (own_rmeq11 l Z a0 hw tx3 x h1 n0 O cs hcs S_cs (62) y0 _ _ _ _ E_t3 (FC3.ext O.2) (FV3.ext O.2) (VB3.ext O.2) E_x F_coder_x F_value_x V_y) (W := 0) (by decide) (by decide) (g := (mkF m 25 #[.val (.ref x), .val (.ref z), .val (.int (6 : Int32)), .val (.int (3 : Int32)), .val (.ref en3)] [(.ref x), (.ref tx3)])) rfl (by rw [hml]; rfl) (argsL := [(.ref x)]) (rest := []) (lenOf own_pd7 rfl) rfl rfl (by show 2 * 0 + _ ≤ _; exact Nat.le_of_eq rfl) (hb hby dos_25) e8 (by decide) (by decide)
      obtain ⟨rfl, rfl, eh9⟩ := hQ9
      have e9 := e9.trans eh9
      rw [List.append_nil] at X9
      refine own_go (U' := T9.setTop (mkF m 28 #[.val (.ref x), .val (.ref z), .val (.int (6 : Int32)), .val (.int (3 : Int32)), .val (.ref en3)] [(.int (if (62 : Int32) = y0 then (1 : Int32) else 0))])) st9 ?_
      by_cases hi3 : (62 : Int32) = y0
      · rw [if_pos hi3]
        refine own_go (U' := T9.setTop (mkF m 31 #[.val (.ref x), .val (.ref z), .val (.int (6 : Int32)), .val (.int (3 : Int32)), .val (.ref en3)] [])) (fun t k => XS.ifNo X9.here hx rfl (hb hby dos_28) rfl ((if0 _ _).trans (feq (by decide)).1) k) ?_
        refine own_go (U' := T9.setTop (mkF m 33 #[.val (.ref x), .val (.ref z), .val (.int (6 : Int32)), .val (.int (3 : Int32)), .val (.ref en3)] [(.ref en3)])) (fun t k => XS.aload X9.here hx rfl (hb hby dos_31) rfl rfl k) ?_
        refine own_retA X9 hx (t := (.object "com/example/pagemark/pagemark/statements/Restriction$Operator")) hret rfl hlk rfl (hb hby dos_33) ?_ (by decide) (by decide)
        rw [e9]
        refine ⟨?_, rfl, K⟩
        rw [own_o1, if_neg hi0, if_neg hi1, if_pos hi3]
      · rw [if_neg hi3]
        refine own_go (U' := T9.setTop (mkF m 34 #[.val (.ref x), .val (.ref z), .val (.int (6 : Int32)), .val (.int (3 : Int32)), .val (.ref en3)] [])) (fun t k => XS.ifYes X9.here hx rfl (pc0 := 28) (pc' := 34) rfl (hb hby dos_28) rfl ((if0 _ _).trans (teq (by decide)).1) (by decide) (by decide) k) ?_
        refine own_go (U' := T9.setTop (mkF m 37 #[.val (.ref x), .val (.ref z), .val (.int (6 : Int32)), .val (.int (4 : Int32)), .val (.ref en3)] [])) (fun t k => XS.iinc X9.here hx rfl (hb hby dos_34) rfl (l' := #[.val (.ref x), .val (.ref z), .val (.int (6 : Int32)), .val (.int (4 : Int32)), .val (.ref en3)]) rfl k) ?_
        refine own_go (U' := T9.setTop (mkF m 9 #[.val (.ref x), .val (.ref z), .val (.int (6 : Int32)), .val (.int (4 : Int32)), .val (.ref en3)] [])) (fun t k => XS.goto X9.here hx rfl (pc0 := 37) (pc' := 9) rfl (hb hby dos_37) (by decide) (by decide) k) ?_
        refine own_go (U' := T9.setTop (mkF m 10 #[.val (.ref x), .val (.ref z), .val (.int (6 : Int32)), .val (.int (4 : Int32)), .val (.ref en3)] [(.int (4 : Int32))])) (fun t k => XS.iloadN X9.here hx rfl (hb hby dos_9) rfl k) ?_
        refine own_go (U' := T9.setTop (mkF m 11 #[.val (.ref x), .val (.ref z), .val (.int (6 : Int32)), .val (.int (4 : Int32)), .val (.ref en3)] [(.int (6 : Int32)), (.int (4 : Int32))])) (fun t k => XS.iloadN X9.here hx rfl (hb hby dos_10) rfl k) ?_
        refine own_go (U' := T9.setTop (mkF m 14 #[.val (.ref x), .val (.ref z), .val (.int (6 : Int32)), .val (.int (4 : Int32)), .val (.ref en3)] [])) (fun t k => XS.icmpNo X9.here hx rfl (hb hby dos_11) rfl (tlt (by decide)).2.1 k) ?_
        refine own_go (U' := T9.setTop (mkF m 15 #[.val (.ref x), .val (.ref z), .val (.int (6 : Int32)), .val (.int (4 : Int32)), .val (.ref en3)] [(.ref z)])) (fun t k => XS.aloadN X9.here hx rfl (hb hby dos_14) rfl rfl k) ?_
        refine own_go (U' := T9.setTop (mkF m 16 #[.val (.ref x), .val (.ref z), .val (.int (6 : Int32)), .val (.int (4 : Int32)), .val (.ref en3)] [(.int (4 : Int32)), (.ref z)])) (fun t k => XS.iloadN X9.here hx rfl (hb hby dos_15) rfl k) ?_
        refine own_go (U' := T9.setTop (mkF m 17 #[.val (.ref x), .val (.ref z), .val (.int (6 : Int32)), .val (.int (4 : Int32)), .val (.ref en3)] [(.ref en4)])) (own_aaload X9 hx hZ e9 V_z rfl (j := (4 : Int32)) (by decide) (i := 4) rfl (v := (.ref en4)) rfl (g := (mkF m 16 #[.val (.ref x), .val (.ref z), .val (.int (6 : Int32)), .val (.int (4 : Int32)), .val (.ref en3)] [(.int (4 : Int32)), (.ref z)])) rfl rfl (hb hby dos_16)) ?_
        refine own_go (U' := T9.setTop (mkF m 19 #[.val (.ref x), .val (.ref z), .val (.int (6 : Int32)), .val (.int (4 : Int32)), .val (.ref en4)] [])) (fun t k => XS.astore X9.here hx rfl (hb hby dos_17) rfl rfl (l' := #[.val (.ref x), .val (.ref z), .val (.int (6 : Int32)), .val (.int (4 : Int32)), .val (.ref en4)]) rfl k) ?_
        refine own_go (U' := T9.setTop (mkF m 21 #[.val (.ref x), .val (.ref z), .val (.int (6 : Int32)), .val (.int (4 : Int32)), .val (.ref en4)] [(.ref en4)])) (fun t k => XS.aload X9.here hx rfl (hb hby dos_19) rfl rfl k) ?_
        obtain ⟨T10, X10, e10, st10⟩ := getF X9 hx hZ hown (host := "") (Or.inl (hw _ (List.mem_of_getElem? (i := 51) rfl))) Via.refl e9 (FT4.ext O.2) (g := (mkF m 21 #[.val (.ref x), .val (.ref z), .val (.int (6 : Int32)), .val (.int (4 : Int32)), .val (.ref en4)] [(.ref en4)])) rfl rfl (hb hby dos_21)
        refine own_go (U' := T10.setTop (mkF m 24 #[.val (.ref x), .val (.ref z), .val (.int (6 : Int32)), .val (.int (4 : Int32)), .val (.ref en4)] [(.ref tx4)])) st10 ?_
        refine own_go (U' := T10.setTop (mkF m 25 #[.val (.ref x), .val (.ref z), .val (.int (6 : Int32)), .val (.int (4 : Int32)), .val (.ref en4)] [(.ref x), (.ref tx4)])) (fun t k => XS.aloadN X10.here hx rfl (hb hby dos_24) rfl rfl k) ?_
        obtain ⟨v11, T11, h11, L11, e11, X11, hQ11, st11⟩ := own_callV X10 hx hZ (y := (⟨"java/lang/String", "equals", "(Ljava/lang/Object;)Z"⟩ : MethodName)) (z := (⟨"java/lang/String", "equals", "(Ljava/lang/Object;)Z"⟩ : MethodName)) hown (hw _ (List.mem_of_getElem? (i := 53) rfl)) (hw _ (List.mem_of_getElem? (i := 54) rfl)) (notFace_of_selects (args := #[]) (mvT hZ (hw _ (List.mem_of_getElem? (i := 56) rfl)))) (hw _ (List.mem_of_getElem? (i := 56) rfl)) (hw _ (List.mem_of_getElem? (i := 55) rfl)) (hw _ (List.mem_of_getElem? (i := 7) rfl)) (hw _ (List.mem_of_getElem? (i := 57) rfl)) (by decide) E_t4 (own_rmeq21 l Z a0 hw tx4 x h1 n0 O cs hcs S_cs (62) (61) y0 _ _ _ _ E_t4 (FC4.ext O.2) (FV4.ext O.2) (VB4.ext O.2) E_x F_coder_x F_value_x V_y) (W := 0) (by decide) (by decide) (g := (mkF m 25 #[.val (.ref x), .val (.ref z), .val (.int (6 : Int32)), .val (.int (4 : Int32)), .val (.ref en4)] [(.ref x), (.ref tx4)])) rfl (by rw [hml]; rfl) (argsL := [(.ref x)]) (rest := []) (lenOf own_pd7 rfl) rfl rfl (by show 2 * 0 + _ ≤ _; exact Nat.le_of_eq rfl) (hb hby dos_25) e10 (by decide) (by decide)
        obtain ⟨rfl, rfl, eh11⟩ := hQ11
        have e11 := e11.trans eh11
        rw [List.append_nil] at X11
        refine own_go (U' := T11.setTop (mkF m 28 #[.val (.ref x), .val (.ref z), .val (.int (6 : Int32)), .val (.int (4 : Int32)), .val (.ref en4)] [(.int (0 : Int32))])) st11 ?_
        refine own_go (U' := T11.setTop (mkF m 34 #[.val (.ref x), .val (.ref z), .val (.int (6 : Int32)), .val (.int (4 : Int32)), .val (.ref en4)] [])) (fun t k => XS.ifYes X11.here hx rfl (pc0 := 28) (pc' := 34) rfl (hb hby dos_28) rfl ((if0 _ _).trans (teq (by decide)).1) (by decide) (by decide) k) ?_
        refine own_go (U' := T11.setTop (mkF m 37 #[.val (.ref x), .val (.ref z), .val (.int (6 : Int32)), .val (.int (5 : Int32)), .val (.ref en4)] [])) (fun t k => XS.iinc X11.here hx rfl (hb hby dos_34) rfl (l' := #[.val (.ref x), .val (.ref z), .val (.int (6 : Int32)), .val (.int (5 : Int32)), .val (.ref en4)]) rfl k) ?_
        refine own_go (U' := T11.setTop (mkF m 9 #[.val (.ref x), .val (.ref z), .val (.int (6 : Int32)), .val (.int (5 : Int32)), .val (.ref en4)] [])) (fun t k => XS.goto X11.here hx rfl (pc0 := 37) (pc' := 9) rfl (hb hby dos_37) (by decide) (by decide) k) ?_
        refine own_go (U' := T11.setTop (mkF m 10 #[.val (.ref x), .val (.ref z), .val (.int (6 : Int32)), .val (.int (5 : Int32)), .val (.ref en4)] [(.int (5 : Int32))])) (fun t k => XS.iloadN X11.here hx rfl (hb hby dos_9) rfl k) ?_
        refine own_go (U' := T11.setTop (mkF m 11 #[.val (.ref x), .val (.ref z), .val (.int (6 : Int32)), .val (.int (5 : Int32)), .val (.ref en4)] [(.int (6 : Int32)), (.int (5 : Int32))])) (fun t k => XS.iloadN X11.here hx rfl (hb hby dos_10) rfl k) ?_
        refine own_go (U' := T11.setTop (mkF m 14 #[.val (.ref x), .val (.ref z), .val (.int (6 : Int32)), .val (.int (5 : Int32)), .val (.ref en4)] [])) (fun t k => XS.icmpNo X11.here hx rfl (hb hby dos_11) rfl (tlt (by decide)).2.1 k) ?_
        refine own_go (U' := T11.setTop (mkF m 15 #[.val (.ref x), .val (.ref z), .val (.int (6 : Int32)), .val (.int (5 : Int32)), .val (.ref en4)] [(.ref z)])) (fun t k => XS.aloadN X11.here hx rfl (hb hby dos_14) rfl rfl k) ?_
        refine own_go (U' := T11.setTop (mkF m 16 #[.val (.ref x), .val (.ref z), .val (.int (6 : Int32)), .val (.int (5 : Int32)), .val (.ref en4)] [(.int (5 : Int32)), (.ref z)])) (fun t k => XS.iloadN X11.here hx rfl (hb hby dos_15) rfl k) ?_
        refine own_go (U' := T11.setTop (mkF m 17 #[.val (.ref x), .val (.ref z), .val (.int (6 : Int32)), .val (.int (5 : Int32)), .val (.ref en4)] [(.ref en5)])) (own_aaload X11 hx hZ e11 V_z rfl (j := (5 : Int32)) (by decide) (i := 5) rfl (v := (.ref en5)) rfl (g := (mkF m 16 #[.val (.ref x), .val (.ref z), .val (.int (6 : Int32)), .val (.int (5 : Int32)), .val (.ref en4)] [(.int (5 : Int32)), (.ref z)])) rfl rfl (hb hby dos_16)) ?_
        refine own_go (U' := T11.setTop (mkF m 19 #[.val (.ref x), .val (.ref z), .val (.int (6 : Int32)), .val (.int (5 : Int32)), .val (.ref en5)] [])) (fun t k => XS.astore X11.here hx rfl (hb hby dos_17) rfl rfl (l' := #[.val (.ref x), .val (.ref z), .val (.int (6 : Int32)), .val (.int (5 : Int32)), .val (.ref en5)]) rfl k) ?_
        refine own_go (U' := T11.setTop (mkF m 21 #[.val (.ref x), .val (.ref z), .val (.int (6 : Int32)), .val (.int (5 : Int32)), .val (.ref en5)] [(.ref en5)])) (fun t k => XS.aload X11.here hx rfl (hb hby dos_19) rfl rfl k) ?_
        obtain ⟨T12, X12, e12, st12⟩ := getF X11 hx hZ hown (host := "") (Or.inl (hw _ (List.mem_of_getElem? (i := 51) rfl))) Via.refl e11 (FT5.ext O.2) (g := (mkF m 21 #[.val (.ref x), .val (.ref z), .val (.int (6 : Int32)), .val (.int (5 : Int32)), .val (.ref en5)] [(.ref en5)])) rfl rfl (hb hby dos_21)
        refine own_go (U' := T12.setTop (mkF m 24 #[.val (.ref x), .val (.ref z), .val (.int (6 : Int32)), .val (.int (5 : Int32)), .val (.ref en5)] [(.ref tx5)])) st12 ?_
        refine own_go (U' := T12.setTop (mkF m 25 #[.val (.ref x), .val (.ref z), .val (.int (6 : Int32)), .val (.int (5 : Int32)), .val (.ref en5)] [(.ref x), (.ref tx5)])) (fun t k => XS.aloadN X12.here hx rfl (hb hby dos_24) rfl rfl k) ?_
        obtain ⟨v13, T13, h13, L13, e13, X13, hQ13, st13⟩ := own_callV X12 hx hZ (y := (⟨"java/lang/String", "equals", "(Ljava/lang/Object;)Z"⟩ : MethodName)) (z := (⟨"java/lang/String", "equals", "(Ljava/lang/Object;)Z"⟩ : MethodName)) hown (hw _ (List.mem_of_getElem? (i := 53) rfl)) (hw _ (List.mem_of_getElem? (i := 54) rfl)) (notFace_of_selects (args := #[]) (mvT hZ (hw _ (List.mem_of_getElem? (i := 56) rfl)))) (hw _ (List.mem_of_getElem? (i := 56) rfl)) (hw _ (List.mem_of_getElem? (i := 55) rfl)) (hw _ (List.mem_of_getElem? (i := 7) rfl)) (hw _ (List.mem_of_getElem? (i := 57) rfl)) (by decide) E_t5 (own_rmeq21 l Z a0 hw tx5 x h1 n0 O cs hcs S_cs (73) (78) y0 _ _ _ _ E_t5 (FC5.ext O.2) (FV5.ext O.2) (VB5.ext O.2) E_x F_coder_x F_value_x V_y) (W := 0) (by decide) (by decide) (g := (mkF m 25 #[.val (.ref x), .val (.ref z), .val (.int (6 : Int32)), .val (.int (5 : Int32)), .val (.ref en5)] [(.ref x), (.ref tx5)])) rfl (by rw [hml]; rfl) (argsL := [(.ref x)]) (rest := []) (lenOf own_pd7 rfl) rfl rfl (by show 2 * 0 + _ ≤ _; exact Nat.le_of_eq rfl) (hb hby dos_25) e12 (by decide) (by decide)
        obtain ⟨rfl, rfl, eh13⟩ := hQ13
        have e13 := e13.trans eh13
        rw [List.append_nil] at X13
        refine own_go (U' := T13.setTop (mkF m 28 #[.val (.ref x), .val (.ref z), .val (.int (6 : Int32)), .val (.int (5 : Int32)), .val (.ref en5)] [(.int (0 : Int32))])) st13 ?_
        refine own_go (U' := T13.setTop (mkF m 34 #[.val (.ref x), .val (.ref z), .val (.int (6 : Int32)), .val (.int (5 : Int32)), .val (.ref en5)] [])) (fun t k => XS.ifYes X13.here hx rfl (pc0 := 28) (pc' := 34) rfl (hb hby dos_28) rfl ((if0 _ _).trans (teq (by decide)).1) (by decide) (by decide) k) ?_
        refine own_go (U' := T13.setTop (mkF m 37 #[.val (.ref x), .val (.ref z), .val (.int (6 : Int32)), .val (.int (6 : Int32)), .val (.ref en5)] [])) (fun t k => XS.iinc X13.here hx rfl (hb hby dos_34) rfl (l' := #[.val (.ref x), .val (.ref z), .val (.int (6 : Int32)), .val (.int (6 : Int32)), .val (.ref en5)]) rfl k) ?_
        refine own_go (U' := T13.setTop (mkF m 9 #[.val (.ref x), .val (.ref z), .val (.int (6 : Int32)), .val (.int (6 : Int32)), .val (.ref en5)] [])) (fun t k => XS.goto X13.here hx rfl (pc0 := 37) (pc' := 9) rfl (hb hby dos_37) (by decide) (by decide) k) ?_
        refine own_go (U' := T13.setTop (mkF m 10 #[.val (.ref x), .val (.ref z), .val (.int (6 : Int32)), .val (.int (6 : Int32)), .val (.ref en5)] [(.int (6 : Int32))])) (fun t k => XS.iloadN X13.here hx rfl (hb hby dos_9) rfl k) ?_
        refine own_go (U' := T13.setTop (mkF m 11 #[.val (.ref x), .val (.ref z), .val (.int (6 : Int32)), .val (.int (6 : Int32)), .val (.ref en5)] [(.int (6 : Int32)), (.int (6 : Int32))])) (fun t k => XS.iloadN X13.here hx rfl (hb hby dos_10) rfl k) ?_
        refine own_go (U' := T13.setTop (mkF m 40 #[.val (.ref x), .val (.ref z), .val (.int (6 : Int32)), .val (.int (6 : Int32)), .val (.ref en5)] [])) (fun t k => XS.icmpYes X13.here hx rfl (pc0 := 11) (pc' := 40) rfl (hb hby dos_11) rfl (flt (by decide)).2.1 (by decide) (by decide) k) ?_
        refine own_go (U' := T13.setTop (mkF m 41 #[.val (.ref x), .val (.ref z), .val (.int (6 : Int32)), .val (.int (6 : Int32)), .val (.ref en5)] [.null])) (fun t k => XS.aconstNull X13.here hx rfl (hb hby dos_40) k) ?_
        refine own_retA X13 hx (t := (.object "com/example/pagemark/pagemark/statements/Restriction$Operator")) hret rfl hlk rfl (hb hby dos_41) ?_ (by decide) (by decide)
        rw [e13]
        refine ⟨?_, rfl, K⟩
        rw [own_o1, if_neg hi0, if_neg hi1, if_neg hi3]
theorem own_efos2 (m : MethodId) (x : Addr) : entryFrame m #[(.ref x)] 5 = mkF m 0 #[.val (.ref x), .unset, .unset, .unset, .unset] [] := by first | (simp [entryFrame, mkF, argsToLocals, Value.category]; done) | rfl
set_option maxRecDepth 65536 in
set_option maxHeartbeats 40000000 in
theorem own_rmos2 (l : Launch) (Z : State) (a0 : Array Value) (hw : ∀ d ∈ tables_1, d.before a0 Z = true) (x : Addr) (h0 : Heap) (n0 : Nat) (en0 en1 en2 en3 en4 en5 : Addr) (O : Old Z n0 h0) (vv : Addr) (kv : ClassId) (S_v : Sta Z Z.heap "com/example/pagemark/pagemark/statements/Restriction$Operator" "$VALUES" "[Lcom/example/pagemark/pagemark/statements/Restriction$Operator;" (.ref vv)) (V_v : own_Ar Z Z.heap vv kv (.object "com/example/pagemark/pagemark/statements/Restriction$Operator") [(.ref en0), (.ref en1), (.ref en2), (.ref en3), (.ref en4), (.ref en5)]) (E_v : Exa Z Z.heap vv "[Lcom/example/pagemark/pagemark/statements/Restriction$Operator;") (tx0 tx1 tx2 tx3 tx4 tx5 bx0 bx1 bx2 bx3 bx4 bx5 : Addr) (kx0 kx1 kx2 kx3 kx4 kx5 : ClassId) (FT0 : Fld Z Z.heap en0 "com/example/pagemark/pagemark/statements/Restriction$Operator" "text" "Ljava/lang/String;" (.ref tx0)) (ET0 : Exa Z Z.heap tx0 "java/lang/String") (FC0 : Fld Z Z.heap tx0 "java/lang/String" "coder" "B" (.int 0)) (FV0 : Fld Z Z.heap tx0 "java/lang/String" "value" "[B" (.ref bx0)) (VB0 : own_Ar Z Z.heap bx0 kx0 .byte [.int (61 : Int32)]) (FT1 : Fld Z Z.heap en1 "com/example/pagemark/pagemark/statements/Restriction$Operator" "text" "Ljava/lang/String;" (.ref tx1)) (ET1 : Exa Z Z.heap tx1 "java/lang/String") (FC1 : Fld Z Z.heap tx1 "java/lang/String" "coder" "B" (.int 0)) (FV1 : Fld Z Z.heap tx1 "java/lang/String" "value" "[B" (.ref bx1)) (VB1 : own_Ar Z Z.heap bx1 kx1 .byte [.int (60 : Int32)]) (FT2 : Fld Z Z.heap en2 "com/example/pagemark/pagemark/statements/Restriction$Operator" "text" "Ljava/lang/String;" (.ref tx2)) (ET2 : Exa Z Z.heap tx2 "java/lang/String") (FC2 : Fld Z Z.heap tx2 "java/lang/String" "coder" "B" (.int 0)) (FV2 : Fld Z Z.heap tx2 "java/lang/String" "value" "[B" (.ref bx2)) (VB2 : own_Ar Z Z.heap bx2 kx2 .byte [.int (60 : Int32), .int (61 : Int32)]) (FT3 : Fld Z Z.heap en3 "com/example/pagemark/pagemark/statements/Restriction$Operator" "text" "Ljava/lang/String;" (.ref tx3)) (ET3 : Exa Z Z.heap tx3 "java/lang/String") (FC3 : Fld Z Z.heap tx3 "java/lang/String" "coder" "B" (.int 0)) (FV3 : Fld Z Z.heap tx3 "java/lang/String" "value" "[B" (.ref bx3)) (VB3 : own_Ar Z Z.heap bx3 kx3 .byte [.int (62 : Int32)]) (FT4 : Fld Z Z.heap en4 "com/example/pagemark/pagemark/statements/Restriction$Operator" "text" "Ljava/lang/String;" (.ref tx4)) (ET4 : Exa Z Z.heap tx4 "java/lang/String") (FC4 : Fld Z Z.heap tx4 "java/lang/String" "coder" "B" (.int 0)) (FV4 : Fld Z Z.heap tx4 "java/lang/String" "value" "[B" (.ref bx4)) (VB4 : own_Ar Z Z.heap bx4 kx4 .byte [.int (62 : Int32), .int (61 : Int32)]) (FT5 : Fld Z Z.heap en5 "com/example/pagemark/pagemark/statements/Restriction$Operator" "text" "Ljava/lang/String;" (.ref tx5)) (ET5 : Exa Z Z.heap tx5 "java/lang/String") (FC5 : Fld Z Z.heap tx5 "java/lang/String" "coder" "B" (.int 0)) (FV5 : Fld Z Z.heap tx5 "java/lang/String" "value" "[B" (.ref bx5)) (VB5 : own_Ar Z Z.heap bx5 kx5 .byte [.int (73 : Int32), .int (78 : Int32)]) (cs : Int32) (hcs : cs ≠ 0) (S_cs : Sta Z Z.heap "java/lang/String" "COMPACT_STRINGS" "Z" (.int cs)) (y0 y1 : Int32) (y : Addr) (ky : ClassId) (E_x : Exa Z h0 x "java/lang/String") (F_coder_x : Fld Z h0 x "java/lang/String" "coder" "B" (.int 0)) (F_value_x : Fld Z h0 x "java/lang/String" "value" "[B" (.ref y)) (V_y : own_Ar Z h0 y ky .byte [.int y0, .int y1]) :
    own_C l Z (⟨"com/example/pagemark/pagemark/statements/Restriction$Operator", "ofSymbol", "(Ljava/lang/String;)Lcom/example/pagemark/pagemark/statements/Restriction$Operator;"⟩ : MethodName) prog_34_method_4_code 5 (some (.object "com/example/pagemark/pagemark/statements/Restriction$Operator")) [] ({ frames := 2, cells := 1, slots := 6, locals := 60 } : Room) #[(.ref x)] h0 (fun v h L => v = some (own_o2 en2 en4 en5 y0 y1) ∧ L = [] ∧ Keep h0 h []) := by
  refine own_body (plainFor_of_name own_pn4) fun p e s m below meth c s₁ hx hby hml hret hlk hown hnm hZ X0 e0 => ?_
  rw [own_efos2 m x]
  have N0 := Fr.nil n0
  have K := Keep.refl h0 []
  obtain ⟨v1, T1, h1, L1, e1, X1, hQ1, st1⟩ := own_callS X0 hx hZ (y := (⟨"com/example/pagemark/pagemark/statements/Restriction$Operator", "values", "()[Lcom/example/pagemark/pagemark/statements/Restriction$Operator;"⟩ : MethodName)) hown (hw _ (List.mem_of_getElem? (i := 30) rfl)) (hw _ (List.mem_of_getElem? (i := 31) rfl)) (hw _ (List.mem_of_getElem? (i := 28) rfl)) (hw _ (List.mem_of_getElem? (i := 32) rfl)) (by decide) (own_rmva l Z a0 hw h0 n0 en0 en1 en2 en3 en4 en5 O vv kv S_v V_v E_v) (W := 0) (by decide) (by decide) (g := (mkF m 0 #[.val (.ref x), .unset, .unset, .unset, .unset] [])) rfl (by rw [hml]; rfl) (argsL := []) (rest := []) (lenOf own_pd9 rfl) rfl rfl (by show 2 * 0 + _ ≤ _; exact Nat.le_of_eq rfl) (hb hby dos_0) e0 (by decide) (by decide)
  obtain ⟨z, rfl, rfl, Kq, sz_z, V_z⟩ := hQ1
  rw [List.append_nil] at X1
  have K := K.trans Kq all0
  have O := O.keep Kq all0
  have E_x := E_x.keep Kq
  have F_coder_x := F_coder_x.keep Kq nin0
  have F_value_x := F_value_x.keep Kq nin0
  have V_y := V_y.keep Kq nin0
  refine own_go (U' := T1.setTop (mkF m 3 #[.val (.ref x), .unset, .unset, .unset, .unset] [(.ref z)])) st1 ?_
  have E_t0 := ET0.ext O.2
  have E_t1 := ET1.ext O.2
  have E_t2 := ET2.ext O.2
  have E_t3 := ET3.ext O.2
  have E_t4 := ET4.ext O.2
  have E_t5 := ET5.ext O.2
  refine own_go (U' := T1.setTop (mkF m 4 #[.val (.ref x), .val (.ref z), .unset, .unset, .unset] [])) (fun t k => XS.astoreN X1.here hx rfl (hb hby dos_3) rfl rfl (l' := #[.val (.ref x), .val (.ref z), .unset, .unset, .unset]) rfl k) ?_
  refine own_go (U' := T1.setTop (mkF m 5 #[.val (.ref x), .val (.ref z), .unset, .unset, .unset] [(.ref z)])) (fun t k => XS.aloadN X1.here hx rfl (hb hby dos_4) rfl rfl k) ?_
  refine own_go (U' := T1.setTop (mkF m 6 #[.val (.ref x), .val (.ref z), .unset, .unset, .unset] [(.int (6 : Int32))])) (own_arrlen X1 hx hZ e1 V_z (n := (6 : Int32)) rfl (g := (mkF m 5 #[.val (.ref x), .val (.ref z), .unset, .unset, .unset] [(.ref z)])) rfl rfl (hb hby dos_5)) ?_
  refine own_go (U' := T1.setTop (mkF m 7 #[.val (.ref x), .val (.ref z), .val (.int (6 : Int32)), .unset, .unset] [])) (fun t k => XS.istoreN X1.here hx rfl (hb hby dos_6) rfl (l' := #[.val (.ref x), .val (.ref z), .val (.int (6 : Int32)), .unset, .unset]) rfl k) ?_
  refine own_go (U' := T1.setTop (mkF m 8 #[.val (.ref x), .val (.ref z), .val (.int (6 : Int32)), .unset, .unset] [(.int (0 : Int32))])) (fun t k => XS.iconst X1.here hx rfl (hb hby dos_7) k) ?_
  refine own_go (U' := T1.setTop (mkF m 9 #[.val (.ref x), .val (.ref z), .val (.int (6 : Int32)), .val (.int (0 : Int32)), .unset] [])) (fun t k => XS.istoreN X1.here hx rfl (hb hby dos_8) rfl (l' := #[.val (.ref x), .val (.ref z), .val (.int (6 : Int32)), .val (.int (0 : Int32)), .unset]) rfl k) ?_
  refine own_go (U' := T1.setTop (mkF m 10 #[.val (.ref x), .val (.ref z), .val (.int (6 : Int32)), .val (.int (0 : Int32)), .unset] [(.int (0 : Int32))])) (fun t k => XS.iloadN X1.here hx rfl (hb hby dos_9) rfl k) ?_
  refine own_go (U' := T1.setTop (mkF m 11 #[.val (.ref x), .val (.ref z), .val (.int (6 : Int32)), .val (.int (0 : Int32)), .unset] [(.int (6 : Int32)), (.int (0 : Int32))])) (fun t k => XS.iloadN X1.here hx rfl (hb hby dos_10) rfl k) ?_
  refine own_go (U' := T1.setTop (mkF m 14 #[.val (.ref x), .val (.ref z), .val (.int (6 : Int32)), .val (.int (0 : Int32)), .unset] [])) (fun t k => XS.icmpNo X1.here hx rfl (hb hby dos_11) rfl (tlt (by decide)).2.1 k) ?_
  refine own_go (U' := T1.setTop (mkF m 15 #[.val (.ref x), .val (.ref z), .val (.int (6 : Int32)), .val (.int (0 : Int32)), .unset] [(.ref z)])) (fun t k => XS.aloadN X1.here hx rfl (hb hby dos_14) rfl rfl k) ?_
  refine own_go (U' := T1.setTop (mkF m 16 #[.val (.ref x), .val (.ref z), .val (.int (6 : Int32)), .val (.int (0 : Int32)), .unset] [(.int (0 : Int32)), (.ref z)])) (fun t k => XS.iloadN X1.here hx rfl (hb hby dos_15) rfl k) ?_
  refine own_go (U' := T1.setTop (mkF m 17 #[.val (.ref x), .val (.ref z), .val (.int (6 : Int32)), .val (.int (0 : Int32)), .unset] [(.ref en0)])) (own_aaload X1 hx hZ e1 V_z rfl (j := (0 : Int32)) (by decide) (i := 0) rfl (v := (.ref en0)) rfl (g := (mkF m 16 #[.val (.ref x), .val (.ref z), .val (.int (6 : Int32)), .val (.int (0 : Int32)), .unset] [(.int (0 : Int32)), (.ref z)])) rfl rfl (hb hby dos_16)) ?_
  refine own_go (U' := T1.setTop (mkF m 19 #[.val (.ref x), .val (.ref z), .val (.int (6 : Int32)), .val (.int (0 : Int32)), .val (.ref en0)] [])) (fun t k => XS.astore X1.here hx rfl (hb hby dos_17) rfl rfl (l' := #[.val (.ref x), .val (.ref z), .val (.int (6 : Int32)), .val (.int (0 : Int32)), .val (.ref en0)]) rfl k) ?_
  refine own_go (U' := T1.setTop (mkF m 21 #[.val (.ref x), .val (.ref z), .val (.int (6 : Int32)), .val (.int (0 : Int32)), .val (.ref en0)] [(.ref en0)])) (fun t k => XS.aload X1.here hx rfl (hb hby dos_19) rfl rfl k) ?_
  obtain ⟨T2, X2, e2, st2⟩ := getF X1 hx hZ hown (host := "") (Or.inl (hw _ (List.mem_of_getElem? (i := 51) rfl))) Via.refl e1 (FT0.ext O.2) (g := (mkF m 21 #[.val (.ref x), .val (.ref z), .val (.int (6 : Int32)), .val (.int (0 : Int32)), .val (.ref en0)] [(.ref en0)])) rfl rfl (hb hby dos_21)
  refine own_go (U' := T2.setTop (mkF m 24 #[.val (.ref x), .val (.ref z), .val (.int (6 : Int32)), .val (.int (0 : Int32)), .val (.ref en0)] [(.ref tx0)])) st2 ?_
  refine own_go (U' := T2.setTop (mkF m 25 #[.val (.ref x), .val (.ref z), .val (.int (6 : Int32)), .val (.int (0 : Int32)), .val (.ref en0)] [(.ref x), (.ref tx0)])) (fun t k => XS.aloadN X2.here hx rfl (hb hby dos_24) rfl rfl k) ?_
  obtain ⟨v3, T3, h3, L3, e3, X3, hQ3, st3⟩ := own_callV X2 hx hZ (y := (⟨"java/lang/String", "equals", "(Ljava/lang/Object;)Z"⟩ : MethodName)) (z := (⟨"java/lang/String", "equals", "(Ljava/lang/Object;)Z"⟩ : MethodName)) hown (hw _ (List.mem_of_getElem? (i := 53) rfl)) (hw _ (List.mem_of_getElem? (i := 54) rfl)) (notFace_of_selects (args := #[]) (mvT hZ (hw _ (List.mem_of_getElem? (i := 56) rfl)))) (hw _ (List.mem_of_getElem? (i := 56) rfl)) (hw _ (List.mem_of_getElem? (i := 55) rfl)) (hw _ (List.mem_of_getElem? (i := 7) rfl)) (hw _ (List.mem_of_getElem? (i := 57) rfl)) (by decide) E_t0 (own_rmeq12 l Z a0 hw tx0 x h1 n0 O cs hcs S_cs (61) y0 y1 _ _ _ _ E_t0 (FC0.ext O.2) (FV0.ext O.2) (VB0.ext O.2) E_x F_coder_x F_value_x V_y) (W := 0) (by decide) (by decide) (g := (mkF m 25 #[.val (.ref x), .val (.ref z), .val (.int (6 : Int32)), .val (.int (0 : Int32)), .val (.ref en0)] [(.ref x), (.ref tx0)])) rfl (by rw [hml]; rfl) (argsL := [(.ref x)]) (rest := []) (lenOf own_pd7 rfl) rfl rfl (by show 2 * 0 + _ ≤ _; exact Nat.le_of_eq rfl) (hb hby dos_25) e2 (by decide) (by decide)
  obtain ⟨rfl, rfl, eh3⟩ := hQ3
  have e3 := e3.trans eh3
  rw [List.append_nil] at X3
  refine own_go (U' := T3.setTop (mkF m 28 #[.val (.ref x), .val (.ref z), .val (.int (6 : Int32)), .val (.int (0 : Int32)), .val (.ref en0)] [(.int (0 : Int32))])) st3 ?_
  refine own_go (U' := T3.setTop (mkF m 34 #[.val (.ref x), .val (.ref z), .val (.int (6 : Int32)), .val (.int (0 : Int32)), .val (.ref en0)] [])) (fun t k => XS.ifYes X3.here hx rfl (pc0 := 28) (pc' := 34) rfl (hb hby dos_28) rfl ((if0 _ _).trans (teq (by decide)).1) (by decide) (by decide) k) ?_
  refine own_go (U' := T3.setTop (mkF m 37 #[.val (.ref x), .val (.ref z), .val (.int (6 : Int32)), .val (.int (1 : Int32)), .val (.ref en0)] [])) (fun t k => XS.iinc X3.here hx rfl (hb hby dos_34) rfl (l' := #[.val (.ref x), .val (.ref z), .val (.int (6 : Int32)), .val (.int (1 : Int32)), .val (.ref en0)]) rfl k) ?_
  refine own_go (U' := T3.setTop (mkF m 9 #[.val (.ref x), .val (.ref z), .val (.int (6 : Int32)), .val (.int (1 : Int32)), .val (.ref en0)] [])) (fun t k => XS.goto X3.here hx rfl (pc0 := 37) (pc' := 9) rfl (hb hby dos_37) (by decide) (by decide) k) ?_
  refine own_go (U' := T3.setTop (mkF m 10 #[.val (.ref x), .val (.ref z), .val (.int (6 : Int32)), .val (.int (1 : Int32)), .val (.ref en0)] [(.int (1 : Int32))])) (fun t k => XS.iloadN X3.here hx rfl (hb hby dos_9) rfl k) ?_
  refine own_go (U' := T3.setTop (mkF m 11 #[.val (.ref x), .val (.ref z), .val (.int (6 : Int32)), .val (.int (1 : Int32)), .val (.ref en0)] [(.int (6 : Int32)), (.int (1 : Int32))])) (fun t k => XS.iloadN X3.here hx rfl (hb hby dos_10) rfl k) ?_
  refine own_go (U' := T3.setTop (mkF m 14 #[.val (.ref x), .val (.ref z), .val (.int (6 : Int32)), .val (.int (1 : Int32)), .val (.ref en0)] [])) (fun t k => XS.icmpNo X3.here hx rfl (hb hby dos_11) rfl (tlt (by decide)).2.1 k) ?_
  refine own_go (U' := T3.setTop (mkF m 15 #[.val (.ref x), .val (.ref z), .val (.int (6 : Int32)), .val (.int (1 : Int32)), .val (.ref en0)] [(.ref z)])) (fun t k => XS.aloadN X3.here hx rfl (hb hby dos_14) rfl rfl k) ?_
  refine own_go (U' := T3.setTop (mkF m 16 #[.val (.ref x), .val (.ref z), .val (.int (6 : Int32)), .val (.int (1 : Int32)), .val (.ref en0)] [(.int (1 : Int32)), (.ref z)])) (fun t k => XS.iloadN X3.here hx rfl (hb hby dos_15) rfl k) ?_
  refine own_go (U' := T3.setTop (mkF m 17 #[.val (.ref x), .val (.ref z), .val (.int (6 : Int32)), .val (.int (1 : Int32)), .val (.ref en0)] [(.ref en1)])) (own_aaload X3 hx hZ e3 V_z rfl (j := (1 : Int32)) (by decide) (i := 1) rfl (v := (.ref en1)) rfl (g := (mkF m 16 #[.val (.ref x), .val (.ref z), .val (.int (6 : Int32)), .val (.int (1 : Int32)), .val (.ref en0)] [(.int (1 : Int32)), (.ref z)])) rfl rfl (hb hby dos_16)) ?_
  refine own_go (U' := T3.setTop (mkF m 19 #[.val (.ref x), .val (.ref z), .val (.int (6 : Int32)), .val (.int (1 : Int32)), .val (.ref en1)] [])) (fun t k => XS.astore X3.here hx rfl (hb hby dos_17) rfl rfl (l' := #[.val (.ref x), .val (.ref z), .val (.int (6 : Int32)), .val (.int (1 : Int32)), .val (.ref en1)]) rfl k) ?_
  refine own_go (U' := T3.setTop (mkF m 21 #[.val (.ref x), .val (.ref z), .val (.int (6 : Int32)), .val (.int (1 : Int32)), .val (.ref en1)] [(.ref en1)])) (fun t k => XS.aload X3.here hx rfl (hb hby dos_19) rfl rfl k) ?_
  obtain ⟨T4, X4, e4, st4⟩ := getF X3 hx hZ hown (host := "") (Or.inl (hw _ (List.mem_of_getElem? (i := 51) rfl))) Via.refl e3 (FT1.ext O.2) (g := (mkF m 21 #[.val (.ref x), .val (.ref z), .val (.int (6 : Int32)), .val (.int (1 : Int32)), .val (.ref en1)] [(.ref en1)])) rfl rfl (hb hby dos_21)
  refine own_go (U' := T4.setTop (mkF m 24 #[.val (.ref x), .val (.ref z), .val (.int (6 : Int32)), .val (.int (1 : Int32)), .val (.ref en1)] [(.ref tx1)])) st4 ?_
  refine own_go (U' := T4.setTop (mkF m 25 #[.val (.ref x), .val (.ref z), .val (.int (6 : Int32)), .val (.int (1 : Int32)), .val (.ref en1)] [(.ref x), (.ref tx1)])) (fun t k => XS.aloadN X4.here hx rfl (hb hby dos_24) rfl rfl k) ?_
  obtain ⟨v5, T5, h5, L5, e5, X5, hQ5, st5⟩ := own_callV X4 hx hZ (y := (⟨"java/lang/String", "equals", "(Ljava/lang/Object;)Z"⟩ : MethodName)) (z := (⟨"java/lang/String", "equals", "(Ljava/lang/Object;)Z"⟩ : MethodName)) hown (hw _ (List.mem_of_getElem? (i := 53) rfl)) (hw _ (List.mem_of_getElem? (i := 54) rfl)) (notFace_of_selects (args := #[]) (mvT hZ (hw _ (List.mem_of_getElem? (i := 56) rfl)))) (hw _ (List.mem_of_getElem? (i := 56) rfl)) (hw _ (List.mem_of_getElem? (i := 55) rfl)) (hw _ (List.mem_of_getElem? (i := 7) rfl)) (hw _ (List.mem_of_getElem? (i := 57) rfl)) (by decide) E_t1 (own_rmeq12 l Z a0 hw tx1 x h1 n0 O cs hcs S_cs (60) y0 y1 _ _ _ _ E_t1 (FC1.ext O.2) (FV1.ext O.2) (VB1.ext O.2) E_x F_coder_x F_value_x V_y) (W := 0) (by decide) (by decide) (g := (mkF m 25 #[.val (.ref x), .val (.ref z), .val (.int (6 : Int32)), .val (.int (1 : Int32)), .val (.ref en1)] [(.ref x), (.ref tx1)])) rfl (by rw [hml]; rfl) (argsL := [(.ref x)]) (rest := []) (lenOf own_pd7 rfl) rfl rfl (by show 2 * 0 + _ ≤ _; exact Nat.le_of_eq rfl) (hb hby dos_25) e4 (by decide) (by decide)
  obtain ⟨rfl, rfl, eh5⟩ := hQ5
  have e5 := e5.trans eh5
  rw [List.append_nil] at X5
  refine own_go (U' := T5.setTop (mkF m 28 #[.val (.ref x), .val (.ref z), .val (.int (6 : Int32)), .val (.int (1 : Int32)), .val (.ref en1)] [(.int (0 : Int32))])) st5 ?_
  refine own_go (U' := T5.setTop (mkF m 34 #[.val (.ref x), .val (.ref z), .val (.int (6 : Int32)), .val (.int (1 : Int32)), .val (.ref en1)] [])) (fun t k => XS.ifYes X5.here hx rfl (pc0 := 28) (pc' := 34) rfl (hb hby dos_28) rfl ((if0 _ _).trans (teq (by decide)).1) (by decide) (by decide) k) ?_
  refine own_go (U' := T5.setTop (mkF m 37 #[.val (.ref x), .val (.ref z), .val (.int (6 : Int32)), .val (.int (2 : Int32)), .val (.ref en1)] [])) (fun t k => XS.iinc X5.here hx rfl (hb hby dos_34) rfl (l' := #[.val (.ref x), .val (.ref z), .val (.int (6 : Int32)), .val (.int (2 : Int32)), .val (.ref en1)]) rfl k) ?_
  refine own_go (U' := T5.setTop (mkF m 9 #[.val (.ref x), .val (.ref z), .val (.int (6 : Int32)), .val (.int (2 : Int32)), .val (.ref en1)] [])) (fun t k => XS.goto X5.here hx rfl (pc0 := 37) (pc' := 9) rfl (hb hby dos_37) (by decide) (by decide) k) ?_
  refine own_go (U' := T5.setTop (mkF m 10 #[.val (.ref x), .val (.ref z), .val (.int (6 : Int32)), .val (.int (2 : Int32)), .val (.ref en1)] [(.int (2 : Int32))])) (fun t k => XS.iloadN X5.here hx rfl (hb hby dos_9) rfl k) ?_
  refine own_go (U' := T5.setTop (mkF m 11 #[.val (.ref x), .val (.ref z), .val (.int (6 : Int32)), .val (.int (2 : Int32)), .val (.ref en1)] [(.int (6 : Int32)), (.int (2 : Int32))])) (fun t k => XS.iloadN X5.here hx rfl (hb hby dos_10) rfl k) ?_
  refine own_go (U' := T5.setTop (mkF m 14 #[.val (.ref x), .val (.ref z), .val (.int (6 : Int32)), .val (.int (2 : Int32)), .val (.ref en1)] [])) (fun t k => XS.icmpNo X5.here hx rfl (hb hby dos_11) rfl (tlt (by decide)).2.1 k) ?_
  refine own_go (U' := T5.setTop (mkF m 15 #[.val (.ref x), .val (.ref z), .val (.int (6 : Int32)), .val (.int (2 : Int32)), .val (.ref en1)] [(.ref z)])) (fun t k => XS.aloadN X5.here hx rfl (hb hby dos_14) rfl rfl k) ?_
  refine own_go (U' := T5.setTop (mkF m 16 #[.val (.ref x), .val (.ref z), .val (.int (6 : Int32)), .val (.int (2 : Int32)), .val (.ref en1)] [(.int (2 : Int32)), (.ref z)])) (fun t k => XS.iloadN X5.here hx rfl (hb hby dos_15) rfl k) ?_
  refine own_go (U' := T5.setTop (mkF m 17 #[.val (.ref x), .val (.ref z), .val (.int (6 : Int32)), .val (.int (2 : Int32)), .val (.ref en1)] [(.ref en2)])) (own_aaload X5 hx hZ e5 V_z rfl (j := (2 : Int32)) (by decide) (i := 2) rfl (v := (.ref en2)) rfl (g := (mkF m 16 #[.val (.ref x), .val (.ref z), .val (.int (6 : Int32)), .val (.int (2 : Int32)), .val (.ref en1)] [(.int (2 : Int32)), (.ref z)])) rfl rfl (hb hby dos_16)) ?_
  refine own_go (U' := T5.setTop (mkF m 19 #[.val (.ref x), .val (.ref z), .val (.int (6 : Int32)), .val (.int (2 : Int32)), .val (.ref en2)] [])) (fun t k => XS.astore X5.here hx rfl (hb hby dos_17) rfl rfl (l' := #[.val (.ref x), .val (.ref z), .val (.int (6 : Int32)), .val (.int (2 : Int32)), .val (.ref en2)]) rfl k) ?_
  refine own_go (U' := T5.setTop (mkF m 21 #[.val (.ref x), .val (.ref z), .val (.int (6 : Int32)), .val (.int (2 : Int32)), .val (.ref en2)] [(.ref en2)])) (fun t k => XS.aload X5.here hx rfl (hb hby dos_19) rfl rfl k) ?_
  obtain ⟨T6, X6, e6, st6⟩ := getF X5 hx hZ hown (host := "") (Or.inl (hw _ (List.mem_of_getElem? (i := 51) rfl))) Via.refl e5 (FT2.ext O.2) (g := (mkF m 21 #[.val (.ref x), .val (.ref z), .val (.int (6 : Int32)), .val (.int (2 : Int32)), .val (.ref en2)] [(.ref en2)])) rfl rfl (hb hby dos_21)
  refine own_go (U' := T6.setTop (mkF m 24 #[.val (.ref x), .val (.ref z), .val (.int (6 : Int32)), .val (.int (2 : Int32)), .val (.ref en2)] [(.ref tx2)])) st6 ?_
  refine own_go (U' := T6.setTop (mkF m 25 #[.val (.ref x), .val (.ref z), .val (.int (6 : Int32)), .val (.int (2 : Int32)), .val (.ref en2)] [(.ref x), (.ref tx2)])) (fun t k => XS.aloadN X6.here hx rfl (hb hby dos_24) rfl rfl k) ?_
  obtain ⟨v7, T7, h7, L7, e7, X7, hQ7, st7⟩ := own_callV X6 hx hZ (y := (⟨"java/lang/String", "equals", "(Ljava/lang/Object;)Z"⟩ : MethodName)) (z := (⟨"java/lang/String", "equals", "(Ljava/lang/Object;)Z"⟩ : MethodName)) hown (hw _ (List.mem_of_getElem? (i := 53) rfl)) (hw _ (List.mem_of_getElem? (i := 54) rfl)) (notFace_of_selects (args := #[]) (mvT hZ (hw _ (List.mem_of_getElem? (i := 56) rfl)))) (hw _ (List.mem_of_getElem? (i := 56) rfl)) (hw _ (List.mem_of_getElem? (i := 55) rfl)) (hw _ (List.mem_of_getElem? (i := 7) rfl)) (hw _ (List.mem_of_getElem? (i := 57) rfl)) (by decide) E_t2 (own_rmeq22 l Z a0 hw tx2 x h1 n0 O cs hcs S_cs (60) (61) y0 y1 _ _ _ _ E_t2 (FC2.ext O.2) (FV2.ext O.2) (VB2.ext O.2) E_x F_coder_x F_value_x V_y) (W := 0) (by decide) (by decide) (g := (mkF m 25 #[.val (.ref x), .val (.ref z), .val (.int (6 : Int32)), .val (.int (2 : Int32)), .val (.ref en2)] [(.ref x), (.ref tx2)])) rfl (by rw [hml]; rfl) (argsL := [(.ref x)]) (rest := []) (lenOf own_pd7 rfl) rfl rfl (by show 2 * 0 + _ ≤ _; exact Nat.le_of_eq rfl) (hb hby dos_25) e6 (by decide) (by decide)
  obtain ⟨rfl, rfl, eh7⟩ := hQ7
  have e7 := e7.trans eh7
  rw [List.append_nil] at X7
  refine own_go (U' := T7.setTop (mkF m 28 #[.val (.ref x), .val (.ref z), .val (.int (6 : Int32)), .val (.int (2 : Int32)), .val (.ref en2)] [(.int (if (60 : Int32) = y0 ∧ (61 : Int32) = y1 then (1 : Int32) else 0))])) st7 ?_
  by_cases hi2 : (60 : Int32) = y0 ∧ (61 : Int32) = y1
  · rw [if_pos hi2]
    refine own_go (U' := T7.setTop (mkF m 31 #[.val (.ref x), .val (.ref z), .val (.int (6 : Int32)), .val (.int (2 : Int32)), .val (.ref en2)] [])) (fun t k => XS.ifNo X7.here hx rfl (hb hby dos_28) rfl ((if0 _ _).trans (feq (by decide)).1) k) ?_
    refine own_go (U' := T7.setTop (mkF m 33 #[.val (.ref x), .val (.ref z), .val (.int (6 : Int32)), .val (.int (2 : Int32)), .val (.ref en2)] [(.ref en2)])) (fun t k => XS.aload X7.here hx rfl (hb hby dos_31) rfl rfl k) ?_
    refine own_retA X7 hx (t := (.object "com/example/pagemark/pagemark/statements/Restriction$Operator")) hret rfl hlk rfl (hb hby dos_33) ?_ (by decide) (by decide)
    rw [e7]
    refine ⟨?_, rfl, K⟩
    rw [own_o2, if_pos hi2]
  · rw [if_neg hi2]
    refine own_go (U' := T7.setTop (mkF m 34 #[.val (.ref x), .val (.ref z), .val (.int (6 : Int32)), .val (.int (2 : Int32)), .val (.ref en2)] [])) (fun t k => XS.ifYes X7.here hx rfl (pc0 := 28) (pc' := 34) rfl (hb hby dos_28) rfl ((if0 _ _).trans (teq (by decide)).1) (by decide) (by decide) k) ?_
    refine own_go (U' := T7.setTop (mkF m 37 #[.val (.ref x), .val (.ref z), .val (.int (6 : Int32)), .val (.int (3 : Int32)), .val (.ref en2)] [])) (fun t k => XS.iinc X7.here hx rfl (hb hby dos_34) rfl (l' := #[.val (.ref x), .val (.ref z), .val (.int (6 : Int32)), .val (.int (3 : Int32)), .val (.ref en2)]) rfl k) ?_
    refine own_go (U' := T7.setTop (mkF m 9 #[.val (.ref x), .val (.ref z), .val (.int (6 : Int32)), .val (.int (3 : Int32)), .val (.ref en2)] [])) (fun t k => XS.goto X7.here hx rfl (pc0 := 37) (pc' := 9) rfl (hb hby dos_37) (by decide) (by decide) k) ?_
    refine own_go (U' := T7.setTop (mkF m 10 #[.val (.ref x), .val (.ref z), .val (.int (6 : Int32)), .val (.int (3 : Int32)), .val (.ref en2)] [(.int (3 : Int32))])) (fun t k => XS.iloadN X7.here hx rfl (hb hby dos_9) rfl k) ?_
    refine own_go (U' := T7.setTop (mkF m 11 #[.val (.ref x), .val (.ref z), .val (.int (6 : Int32)), .val (.int (3 : Int32)), .val (.ref en2)] [(.int (6 : Int32)), (.int (3 : Int32))])) (fun t k => XS.iloadN X7.here hx rfl (hb hby dos_10) rfl k) ?_
    refine own_go (U' := T7.setTop (mkF m 14 #[.val (.ref x), .val (.ref z), .val (.int (6 : Int32)), .val (.int (3 : Int32)), .val (.ref en2)] [])) (fun t k => XS.icmpNo X7.here hx rfl (hb hby dos_11) rfl (tlt (by decide)).2.1 k) ?_
    refine own_go (U' := T7.setTop (mkF m 15 #[.val (.ref x), .val (.ref z), .val (.int (6 : Int32)), .val (.int (3 : Int32)), .val (.ref en2)] [(.ref z)])) (fun t k => XS.aloadN X7.here hx rfl (hb hby dos_14) rfl rfl k) ?_
    refine own_go (U' := T7.setTop (mkF m 16 #[.val (.ref x), .val (.ref z), .val (.int (6 : Int32)), .val (.int (3 : Int32)), .val (.ref en2)] [(.int (3 : Int32)), (.ref z)])) (fun t k => XS.iloadN X7.here hx rfl (hb hby dos_15) rfl k) ?_
    refine own_go (U' := T7.setTop (mkF m 17 #[.val (.ref x), .val (.ref z), .val (.int (6 : Int32)), .val (.int (3 : Int32)), .val (.ref en2)] [(.ref en3)])) (own_aaload X7 hx hZ e7 V_z rfl (j := (3 : Int32)) (by decide) (i := 3) rfl (v := (.ref en3)) rfl (g := (mkF m 16 #[.val (.ref x), .val (.ref z), .val (.int (6 : Int32)), .val (.int (3 : Int32)), .val (.ref en2)] [(.int (3 : Int32)), (.ref z)])) rfl rfl (hb hby dos_16)) ?_
    refine own_go (U' := T7.setTop (mkF m 19 #[.val (.ref x), .val (.ref z), .val (.int (6 : Int32)), .val (.int (3 : Int32)), .val (.ref en3)] [])) (fun t k => XS.astore X7.here hx rfl (hb hby dos_17) rfl rfl (l' := #[.val (.ref x), .val (.ref z), .val (.int (6 : Int32)), .val (.int (3 : Int32)), .val (.ref en3)]) rfl k) ?_
    refine own_go (U' := T7.setTop (mkF m 21 #[.val (.ref x), .val (.ref z), .val (.int (6 : Int32)), .val (.int (3 : Int32)), .val (.ref en3)] [(.ref en3)])) (fun t k => XS.aload X7.here hx rfl (hb hby dos_19) rfl rfl k) ?_
    obtain ⟨T8, X8, e8, st8⟩ := getF X7 hx hZ hown (host := "") (Or.inl (hw _ (List.mem_of_getElem? (i := 51) rfl))) Via.refl e7 (FT3.ext O.2) (g := (mkF m 21 #[.val (.ref x), .val (.ref z), .val (.int (6 : Int32)), .val (.int (3 : Int32)), .val (.ref en3)] [(.ref en3)])) rfl rfl (hb hby dos_21)
    refine own_go (U' := T8.setTop (mkF m 24 #[.val (.ref x), .val (.ref z), .val (.int (6 : Int32)), .val (.int (3 : Int32)), .val (.ref en3)] [(.ref tx3)])) st8 ?_
    refine own_go (U' := T8.setTop (mkF m 25 #[.val (.ref x), .val (.ref z), .val (.int (6 : Int32)), .val (.int (3 : Int32)), .val (.ref en3)] [(.ref x), (.ref tx3)])) (fun t k => XS.aloadN X8.here hx rfl (hb hby dos_24) rfl rfl k) ?_
    obtain ⟨v9, T9, h9, L9, e9, X9, hQ9, st9⟩ := own_callV X8 hx hZ (y := (⟨"java/lang/String", "equals", "(Ljava/lang/Object;)Z"⟩ : MethodName)) (z := (⟨"java/lang/String", "equals", "(Ljava/lang/Object;)Z"⟩ : MethodName)) hown (hw _ (List.mem_of_getElem? (i := 53) rfl)) (hw _ (List.mem_of_getElem? (i := 54) rfl)) (notFace_of_selects (args := #[]) (mvT hZ (hw _ (List.mem_of_getElem? (i := 56) rfl)))) (hw _ (List.mem_of_getElem? (i := 56) rfl)) (hw _ (List.mem_of_getElem? (i := 55) rfl)) (hw _ (List.mem_of_getElem? (i := 7) rfl)) (hw _ (List.mem_of_getElem? (i := 57) rfl)) (by decide) E_t3 (own_rmeq12 l Z a0 hw tx3 x h1 n0 O cs hcs S_cs (62) y0 y1 _ _ _ _ E_t3 (FC3.ext O.2) (FV3.ext O.2) (VB3.ext O.2) E_x F_coder_x F_value_x V_y) (W := 0) (by decide) (by decide) (g := (mkF m 25 #[.val (.ref x), .val (.ref z), .val (.int (6 : Int32)), .val (.int (3 : Int32)), .val (.ref en3)] [(.ref x), (.ref tx3)])) rfl (by rw [hml]; rfl) (argsL := [(.ref x)]) (rest := []) (lenOf own_pd7 rfl) rfl rfl (by show 2 * 0 + _ ≤ _; exact Nat.le_of_eq rfl) (hb hby dos_25) e8 (by decide) (by decide)
    obtain ⟨rfl, rfl, eh9⟩ := hQ9
    have e9 := e9.trans eh9
    rw [List.append_nil] at X9
    refine own_go (U' := T9.setTop (mkF m 28 #[.val (.ref x), .val (.ref z), .val (.int (6 : Int32)), .val (.int (3 : Int32)), .val (.ref en3)] [(.int (0 : Int32))])) st9 ?_
    refine own_go (U' := T9.setTop (mkF m 34 #[.val (.ref x), .val (.ref z), .val (.int (6 : Int32)), .val (.int (3 : Int32)), .val (.ref en3)] [])) (fun t k => XS.ifYes X9.here hx rfl (pc0 := 28) (pc' := 34) rfl (hb hby dos_28) rfl ((if0 _ _).trans (teq (by decide)).1) (by decide) (by decide) k) ?_
    refine own_go (U' := T9.setTop (mkF m 37 #[.val (.ref x), .val (.ref z), .val (.int (6 : Int32)), .val (.int (4 : Int32)), .val (.ref en3)] [])) (fun t k => XS.iinc X9.here hx rfl (hb hby dos_34) rfl (l' := #[.val (.ref x), .val (.ref z), .val (.int (6 : Int32)), .val (.int (4 : Int32)), .val (.ref en3)]) rfl k) ?_
    refine own_go (U' := T9.setTop (mkF m 9 #[.val (.ref x), .val (.ref z), .val (.int (6 : Int32)), .val (.int (4 : Int32)), .val (.ref en3)] [])) (fun t k => XS.goto X9.here hx rfl (pc0 := 37) (pc' := 9) rfl (hb hby dos_37) (by decide) (by decide) k) ?_
    refine own_go (U' := T9.setTop (mkF m 10 #[.val (.ref x), .val (.ref z), .val (.int (6 : Int32)), .val (.int (4 : Int32)), .val (.ref en3)] [(.int (4 : Int32))])) (fun t k => XS.iloadN X9.here hx rfl (hb hby dos_9) rfl k) ?_
    refine own_go (U' := T9.setTop (mkF m 11 #[.val (.ref x), .val (.ref z), .val (.int (6 : Int32)), .val (.int (4 : Int32)), .val (.ref en3)] [(.int (6 : Int32)), (.int (4 : Int32))])) (fun t k => XS.iloadN X9.here hx rfl (hb hby dos_10) rfl k) ?_
    refine own_go (U' := T9.setTop (mkF m 14 #[.val (.ref x), .val (.ref z), .val (.int (6 : Int32)), .val (.int (4 : Int32)), .val (.ref en3)] [])) (fun t k => XS.icmpNo X9.here hx rfl (hb hby dos_11) rfl (tlt (by decide)).2.1 k) ?_
    refine own_go (U' := T9.setTop (mkF m 15 #[.val (.ref x), .val (.ref z), .val (.int (6 : Int32)), .val (.int (4 : Int32)), .val (.ref en3)] [(.ref z)])) (fun t k => XS.aloadN X9.here hx rfl (hb hby dos_14) rfl rfl k) ?_
    refine own_go (U' := T9.setTop (mkF m 16 #[.val (.ref x), .val (.ref z), .val (.int (6 : Int32)), .val (.int (4 : Int32)), .val (.ref en3)] [(.int (4 : Int32)), (.ref z)])) (fun t k => XS.iloadN X9.here hx rfl (hb hby dos_15) rfl k) ?_
    refine own_go (U' := T9.setTop (mkF m 17 #[.val (.ref x), .val (.ref z), .val (.int (6 : Int32)), .val (.int (4 : Int32)), .val (.ref en3)] [(.ref en4)])) (own_aaload X9 hx hZ e9 V_z rfl (j := (4 : Int32)) (by decide) (i := 4) rfl (v := (.ref en4)) rfl (g := (mkF m 16 #[.val (.ref x), .val (.ref z), .val (.int (6 : Int32)), .val (.int (4 : Int32)), .val (.ref en3)] [(.int (4 : Int32)), (.ref z)])) rfl rfl (hb hby dos_16)) ?_
    refine own_go (U' := T9.setTop (mkF m 19 #[.val (.ref x), .val (.ref z), .val (.int (6 : Int32)), .val (.int (4 : Int32)), .val (.ref en4)] [])) (fun t k => XS.astore X9.here hx rfl (hb hby dos_17) rfl rfl (l' := #[.val (.ref x), .val (.ref z), .val (.int (6 : Int32)), .val (.int (4 : Int32)), .val (.ref en4)]) rfl k) ?_
    refine own_go (U' := T9.setTop (mkF m 21 #[.val (.ref x), .val (.ref z), .val (.int (6 : Int32)), .val (.int (4 : Int32)), .val (.ref en4)] [(.ref en4)])) (fun t k => XS.aload X9.here hx rfl (hb hby dos_19) rfl rfl k) ?_
    obtain ⟨T10, X10, e10, st10⟩ := getF X9 hx hZ hown (host := "") (Or.inl (hw _ (List.mem_of_getElem? (i := 51) rfl))) Via.refl e9 (FT4.ext O.2) (g := (mkF m 21 #[.val (.ref x), .val (.ref z), .val (.int (6 : Int32)), .val (.int (4 : Int32)), .val (.ref en4)] [(.ref en4)])) rfl rfl (hb hby dos_21)
    refine own_go (U' := T10.setTop (mkF m 24 #[.val (.ref x), .val (.ref z), .val (.int (6 : Int32)), .val (.int (4 : Int32)), .val (.ref en4)] [(.ref tx4)])) st10 ?_
    refine own_go (U' := T10.setTop (mkF m 25 #[.val (.ref x), .val (.ref z), .val (.int (6 : Int32)), .val (.int (4 : Int32)), .val (.ref en4)] [(.ref x), (.ref tx4)])) (fun t k => XS.aloadN X10.here hx rfl (hb hby dos_24) rfl rfl k) ?_
    obtain ⟨v11, T11, h11, L11, e11, X11, hQ11, st11⟩ := own_callV X10 hx hZ (y := (⟨"java/lang/String", "equals", "(Ljava/lang/Object;)Z"⟩ : MethodName)) (z := (⟨"java/lang/String", "equals", "(Ljava/lang/Object;)Z"⟩ : MethodName)) hown (hw _ (List.mem_of_getElem? (i := 53) rfl)) (hw _ (List.mem_of_getElem? (i := 54) rfl)) (notFace_of_selects (args := #[]) (mvT hZ (hw _ (List.mem_of_getElem? (i := 56) rfl)))) (hw _ (List.mem_of_getElem? (i := 56) rfl)) (hw _ (List.mem_of_getElem? (i := 55) rfl)) (hw _ (List.mem_of_getElem? (i := 7) rfl)) (hw _ (List.mem_of_getElem? (i := 57) rfl)) (by decide) E_t4 (own_rmeq22 l Z a0 hw tx4 x h1 n0 O cs hcs S_cs (62) (61) y0 y1 _ _ _ _ E_t4 (FC4.ext O.2) (FV4.ext O.2) (VB4.ext O.2) E_x F_coder_x F_value_x V_y) (W := 0) (by decide) (by decide) (g := (mkF m 25 #[.val (.ref x), .val (.ref z), .val (.int (6 : Int32)), .val (.int (4 : Int32)), .val (.ref en4)] [(.ref x), (.ref tx4)])) rfl (by rw [hml]; rfl) (argsL := [(.ref x)]) (rest := []) (lenOf own_pd7 rfl) rfl rfl (by show 2 * 0 + _ ≤ _; exact Nat.le_of_eq rfl) (hb hby dos_25) e10 (by decide) (by decide)
    obtain ⟨rfl, rfl, eh11⟩ := hQ11
    have e11 := e11.trans eh11
    rw [List.append_nil] at X11
    refine own_go (U' := T11.setTop (mkF m 28 #[.val (.ref x), .val (.ref z), .val (.int (6 : Int32)), .val (.int (4 : Int32)), .val (.ref en4)] [(.int (if (62 : Int32) = y0 ∧ (61 : Int32) = y1 then (1 : Int32) else 0))])) st11 ?_
    by_cases hi4 : (62 : Int32) = y0 ∧ (61 : Int32) = y1
    · rw [if_pos hi4]
      refine own_go (U' := T11.setTop (mkF m 31 #[.val (.ref x), .val (.ref z), .val (.int (6 : Int32)), .val (.int (4 : Int32)), .val (.ref en4)] [])) (fun t k => XS.ifNo X11.here hx rfl (hb hby dos_28) rfl ((if0 _ _).trans (feq (by decide)).1) k) ?_
      refine own_go (U' := T11.setTop (mkF m 33 #[.val (.ref x), .val (.ref z), .val (.int (6 : Int32)), .val (.int (4 : Int32)), .val (.ref en4)] [(.ref en4)])) (fun t k => XS.aload X11.here hx rfl (hb hby dos_31) rfl rfl k) ?_
      refine own_retA X11 hx (t := (.object "com/example/pagemark/pagemark/statements/Restriction$Operator")) hret rfl hlk rfl (hb hby dos_33) ?_ (by decide) (by decide)
      rw [e11]
      refine ⟨?_, rfl, K⟩
      rw [own_o2, if_neg hi2, if_pos hi4]
    · rw [if_neg hi4]
      refine own_go (U' := T11.setTop (mkF m 34 #[.val (.ref x), .val (.ref z), .val (.int (6 : Int32)), .val (.int (4 : Int32)), .val (.ref en4)] [])) (fun t k => XS.ifYes X11.here hx rfl (pc0 := 28) (pc' := 34) rfl (hb hby dos_28) rfl ((if0 _ _).trans (teq (by decide)).1) (by decide) (by decide) k) ?_
      refine own_go (U' := T11.setTop (mkF m 37 #[.val (.ref x), .val (.ref z), .val (.int (6 : Int32)), .val (.int (5 : Int32)), .val (.ref en4)] [])) (fun t k => XS.iinc X11.here hx rfl (hb hby dos_34) rfl (l' := #[.val (.ref x), .val (.ref z), .val (.int (6 : Int32)), .val (.int (5 : Int32)), .val (.ref en4)]) rfl k) ?_
      refine own_go (U' := T11.setTop (mkF m 9 #[.val (.ref x), .val (.ref z), .val (.int (6 : Int32)), .val (.int (5 : Int32)), .val (.ref en4)] [])) (fun t k => XS.goto X11.here hx rfl (pc0 := 37) (pc' := 9) rfl (hb hby dos_37) (by decide) (by decide) k) ?_
      refine own_go (U' := T11.setTop (mkF m 10 #[.val (.ref x), .val (.ref z), .val (.int (6 : Int32)), .val (.int (5 : Int32)), .val (.ref en4)] [(.int (5 : Int32))])) (fun t k => XS.iloadN X11.here hx rfl (hb hby dos_9) rfl k) ?_
      refine own_go (U' := T11.setTop (mkF m 11 #[.val (.ref x), .val (.ref z), .val (.int (6 : Int32)), .val (.int (5 : Int32)), .val (.ref en4)] [(.int (6 : Int32)), (.int (5 : Int32))])) (fun t k => XS.iloadN X11.here hx rfl (hb hby dos_10) rfl k) ?_
      refine own_go (U' := T11.setTop (mkF m 14 #[.val (.ref x), .val (.ref z), .val (.int (6 : Int32)), .val (.int (5 : Int32)), .val (.ref en4)] [])) (fun t k => XS.icmpNo X11.here hx rfl (hb hby dos_11) rfl (tlt (by decide)).2.1 k) ?_
      refine own_go (U' := T11.setTop (mkF m 15 #[.val (.ref x), .val (.ref z), .val (.int (6 : Int32)), .val (.int (5 : Int32)), .val (.ref en4)] [(.ref z)])) (fun t k => XS.aloadN X11.here hx rfl (hb hby dos_14) rfl rfl k) ?_
      refine own_go (U' := T11.setTop (mkF m 16 #[.val (.ref x), .val (.ref z), .val (.int (6 : Int32)), .val (.int (5 : Int32)), .val (.ref en4)] [(.int (5 : Int32)), (.ref z)])) (fun t k => XS.iloadN X11.here hx rfl (hb hby dos_15) rfl k) ?_
      refine own_go (U' := T11.setTop (mkF m 17 #[.val (.ref x), .val (.ref z), .val (.int (6 : Int32)), .val (.int (5 : Int32)), .val (.ref en4)] [(.ref en5)])) (own_aaload X11 hx hZ e11 V_z rfl (j := (5 : Int32)) (by decide) (i := 5) rfl (v := (.ref en5)) rfl (g := (mkF m 16 #[.val (.ref x), .val (.ref z), .val (.int (6 : Int32)), .val (.int (5 : Int32)), .val (.ref en4)] [(.int (5 : Int32)), (.ref z)])) rfl rfl (hb hby dos_16)) ?_
      refine own_go (U' := T11.setTop (mkF m 19 #[.val (.ref x), .val (.ref z), .val (.int (6 : Int32)), .val (.int (5 : Int32)), .val (.ref en5)] [])) (fun t k => XS.astore X11.here hx rfl (hb hby dos_17) rfl rfl (l' := #[.val (.ref x), .val (.ref z), .val (.int (6 : Int32)), .val (.int (5 : Int32)), .val (.ref en5)]) rfl k) ?_
      refine own_go (U' := T11.setTop (mkF m 21 #[.val (.ref x), .val (.ref z), .val (.int (6 : Int32)), .val (.int (5 : Int32)), .val (.ref en5)] [(.ref en5)])) (fun t k => XS.aload X11.here hx rfl (hb hby dos_19) rfl rfl k) ?_
      obtain ⟨T12, X12, e12, st12⟩ := getF X11 hx hZ hown (host := "") (Or.inl (hw _ (List.mem_of_getElem? (i := 51) rfl))) Via.refl e11 (FT5.ext O.2) (g := (mkF m 21 #[.val (.ref x), .val (.ref z), .val (.int (6 : Int32)), .val (.int (5 : Int32)), .val (.ref en5)] [(.ref en5)])) rfl rfl (hb hby dos_21)
      refine own_go (U' := T12.setTop (mkF m 24 #[.val (.ref x), .val (.ref z), .val (.int (6 : Int32)), .val (.int (5 : Int32)), .val (.ref en5)] [(.ref tx5)])) st12 ?_
      refine own_go (U' := T12.setTop (mkF m 25 #[.val (.ref x), .val (.ref z), .val (.int (6 : Int32)), .val (.int (5 : Int32)), .val (.ref en5)] [(.ref x), (.ref tx5)])) (fun t k => XS.aloadN X12.here hx rfl (hb hby dos_24) rfl rfl k) ?_
      obtain ⟨v13, T13, h13, L13, e13, X13, hQ13, st13⟩ := own_callV X12 hx hZ (y := (⟨"java/lang/String", "equals", "(Ljava/lang/Object;)Z"⟩ : MethodName)) (z := (⟨"java/lang/String", "equals", "(Ljava/lang/Object;)Z"⟩ : MethodName)) hown (hw _ (List.mem_of_getElem? (i := 53) rfl)) (hw _ (List.mem_of_getElem? (i := 54) rfl)) (notFace_of_selects (args := #[]) (mvT hZ (hw _ (List.mem_of_getElem? (i := 56) rfl)))) (hw _ (List.mem_of_getElem? (i := 56) rfl)) (hw _ (List.mem_of_getElem? (i := 55) rfl)) (hw _ (List.mem_of_getElem? (i := 7) rfl)) (hw _ (List.mem_of_getElem? (i := 57) rfl)) (by decide) E_t5 (own_rmeq22 l Z a0 hw tx5 x h1 n0 O cs hcs S_cs (73) (78) y0 y1 _ _ _ _ E_t5 (FC5.ext O.2) (FV5.ext O.2) (VB5.ext O.2) E_x F_coder_x F_value_x V_y) (W := 0) (by decide) (by decide) (g := (mkF m 25 #[.val (.ref x), .val (.ref z), .val (.int (6 : Int32)), .val (.int (5 : Int32)), .val (.ref en5)] [(.ref x), (.ref tx5)])) rfl (by rw [hml]; rfl) (argsL := [(.ref x)]) (rest := []) (lenOf own_pd7 rfl) rfl rfl (by show 2 * 0 + _ ≤ _; exact Nat.le_of_eq rfl) (hb hby dos_25) e12 (by decide) (by decide)
      obtain ⟨rfl, rfl, eh13⟩ := hQ13
      have e13 := e13.trans eh13
      rw [List.append_nil] at X13
      refine own_go (U' := T13.setTop (mkF m 28 #[.val (.ref x), .val (.ref z), .val (.int (6 : Int32)), .val (.int (5 : Int32)), .val (.ref en5)] [(.int (if (73 : Int32) = y0 ∧ (78 : Int32) = y1 then (1 : Int32) else 0))])) st13 ?_
      by_cases hi5 : (73 : Int32) = y0 ∧ (78 : Int32) = y1
      · rw [if_pos hi5]
        refine own_go (U' := T13.setTop (mkF m 31 #[.val (.ref x), .val (.ref z), .val (.int (6 : Int32)), .val (.int (5 : Int32)), .val (.ref en5)] [])) (fun t k => XS.ifNo X13.here hx rfl (hb hby dos_28) rfl ((if0 _ _).trans (feq (by decide)).1) k) ?_
        refine own_go (U' := T13.setTop (mkF m 33 #[.val (.ref x), .val (.ref z), .val (.int (6 : Int32)), .val (.int (5 : Int32)), .val (.ref en5)] [(.ref en5)])) (fun t k => XS.aload X13.here hx rfl (hb hby dos_31) rfl rfl k) ?_
        refine own_retA X13 hx (t := (.object "com/example/pagemark/pagemark/statements/Restriction$Operator")) hret rfl hlk rfl (hb hby dos_33) ?_ (by decide) (by decide)
        rw [e13]
        refine ⟨?_, rfl, K⟩
        rw [own_o2, if_neg hi2, if_neg hi4, if_pos hi5]
      · rw [if_neg hi5]
        refine own_go (U' := T13.setTop (mkF m 34 #[.val (.ref x), .val (.ref z), .val (.int (6 : Int32)), .val (.int (5 : Int32)), .val (.ref en5)] [])) (fun t k => XS.ifYes X13.here hx rfl (pc0 := 28) (pc' := 34) rfl (hb hby dos_28) rfl ((if0 _ _).trans (teq (by decide)).1) (by decide) (by decide) k) ?_
        refine own_go (U' := T13.setTop (mkF m 37 #[.val (.ref x), .val (.ref z), .val (.int (6 : Int32)), .val (.int (6 : Int32)), .val (.ref en5)] [])) (fun t k => XS.iinc X13.here hx rfl (hb hby dos_34) rfl (l' := #[.val (.ref x), .val (.ref z), .val (.int (6 : Int32)), .val (.int (6 : Int32)), .val (.ref en5)]) rfl k) ?_
        refine own_go (U' := T13.setTop (mkF m 9 #[.val (.ref x), .val (.ref z), .val (.int (6 : Int32)), .val (.int (6 : Int32)), .val (.ref en5)] [])) (fun t k => XS.goto X13.here hx rfl (pc0 := 37) (pc' := 9) rfl (hb hby dos_37) (by decide) (by decide) k) ?_
        refine own_go (U' := T13.setTop (mkF m 10 #[.val (.ref x), .val (.ref z), .val (.int (6 : Int32)), .val (.int (6 : Int32)), .val (.ref en5)] [(.int (6 : Int32))])) (fun t k => XS.iloadN X13.here hx rfl (hb hby dos_9) rfl k) ?_
        refine own_go (U' := T13.setTop (mkF m 11 #[.val (.ref x), .val (.ref z), .val (.int (6 : Int32)), .val (.int (6 : Int32)), .val (.ref en5)] [(.int (6 : Int32)), (.int (6 : Int32))])) (fun t k => XS.iloadN X13.here hx rfl (hb hby dos_10) rfl k) ?_
        refine own_go (U' := T13.setTop (mkF m 40 #[.val (.ref x), .val (.ref z), .val (.int (6 : Int32)), .val (.int (6 : Int32)), .val (.ref en5)] [])) (fun t k => XS.icmpYes X13.here hx rfl (pc0 := 11) (pc' := 40) rfl (hb hby dos_11) rfl (flt (by decide)).2.1 (by decide) (by decide) k) ?_
        refine own_go (U' := T13.setTop (mkF m 41 #[.val (.ref x), .val (.ref z), .val (.int (6 : Int32)), .val (.int (6 : Int32)), .val (.ref en5)] [.null])) (fun t k => XS.aconstNull X13.here hx rfl (hb hby dos_40) k) ?_
        refine own_retA X13 hx (t := (.object "com/example/pagemark/pagemark/statements/Restriction$Operator")) hret rfl hlk rfl (hb hby dos_41) ?_ (by decide) (by decide)
        rw [e13]
        refine ⟨?_, rfl, K⟩
        rw [own_o2, if_neg hi2, if_neg hi4, if_neg hi5]
theorem own_efos3 (m : MethodId) (x : Addr) : entryFrame m #[(.ref x)] 5 = mkF m 0 #[.val (.ref x), .unset, .unset, .unset, .unset] [] := by first | (simp [entryFrame, mkF, argsToLocals, Value.category]; done) | rfl
set_option maxRecDepth 65536 in
set_option maxHeartbeats 40000000 in
theorem own_rmos3 (l : Launch) (Z : State) (a0 : Array Value) (hw : ∀ d ∈ tables_1, d.before a0 Z = true) (x : Addr) (h0 : Heap) (n0 : Nat) (en0 en1 en2 en3 en4 en5 : Addr) (O : Old Z n0 h0) (vv : Addr) (kv : ClassId) (S_v : Sta Z Z.heap "com/example/pagemark/pagemark/statements/Restriction$Operator" "$VALUES" "[Lcom/example/pagemark/pagemark/statements/Restriction$Operator;" (.ref vv)) (V_v : own_Ar Z Z.heap vv kv (.object "com/example/pagemark/pagemark/statements/Restriction$Operator") [(.ref en0), (.ref en1), (.ref en2), (.ref en3), (.ref en4), (.ref en5)]) (E_v : Exa Z Z.heap vv "[Lcom/example/pagemark/pagemark/statements/Restriction$Operator;") (tx0 tx1 tx2 tx3 tx4 tx5 bx0 bx1 bx2 bx3 bx4 bx5 : Addr) (kx0 kx1 kx2 kx3 kx4 kx5 : ClassId) (FT0 : Fld Z Z.heap en0 "com/example/pagemark/pagemark/statements/Restriction$Operator" "text" "Ljava/lang/String;" (.ref tx0)) (ET0 : Exa Z Z.heap tx0 "java/lang/String") (FC0 : Fld Z Z.heap tx0 "java/lang/String" "coder" "B" (.int 0)) (FV0 : Fld Z Z.heap tx0 "java/lang/String" "value" "[B" (.ref bx0)) (VB0 : own_Ar Z Z.heap bx0 kx0 .byte [.int (61 : Int32)]) (FT1 : Fld Z Z.heap en1 "com/example/pagemark/pagemark/statements/Restriction$Operator" "text" "Ljava/lang/String;" (.ref tx1)) (ET1 : Exa Z Z.heap tx1 "java/lang/String") (FC1 : Fld Z Z.heap tx1 "java/lang/String" "coder" "B" (.int 0)) (FV1 : Fld Z Z.heap tx1 "java/lang/String" "value" "[B" (.ref bx1)) (VB1 : own_Ar Z Z.heap bx1 kx1 .byte [.int (60 : Int32)]) (FT2 : Fld Z Z.heap en2 "com/example/pagemark/pagemark/statements/Restriction$Operator" "text" "Ljava/lang/String;" (.ref tx2)) (ET2 : Exa Z Z.heap tx2 "java/lang/String") (FC2 : Fld Z Z.heap tx2 "java/lang/String" "coder" "B" (.int 0)) (FV2 : Fld Z Z.heap tx2 "java/lang/String" "value" "[B" (.ref bx2)) (VB2 : own_Ar Z Z.heap bx2 kx2 .byte [.int (60 : Int32), .int (61 : Int32)]) (FT3 : Fld Z Z.heap en3 "com/example/pagemark/pagemark/statements/Restriction$Operator" "text" "Ljava/lang/String;" (.ref tx3)) (ET3 : Exa Z Z.heap tx3 "java/lang/String") (FC3 : Fld Z Z.heap tx3 "java/lang/String" "coder" "B" (.int 0)) (FV3 : Fld Z Z.heap tx3 "java/lang/String" "value" "[B" (.ref bx3)) (VB3 : own_Ar Z Z.heap bx3 kx3 .byte [.int (62 : Int32)]) (FT4 : Fld Z Z.heap en4 "com/example/pagemark/pagemark/statements/Restriction$Operator" "text" "Ljava/lang/String;" (.ref tx4)) (ET4 : Exa Z Z.heap tx4 "java/lang/String") (FC4 : Fld Z Z.heap tx4 "java/lang/String" "coder" "B" (.int 0)) (FV4 : Fld Z Z.heap tx4 "java/lang/String" "value" "[B" (.ref bx4)) (VB4 : own_Ar Z Z.heap bx4 kx4 .byte [.int (62 : Int32), .int (61 : Int32)]) (FT5 : Fld Z Z.heap en5 "com/example/pagemark/pagemark/statements/Restriction$Operator" "text" "Ljava/lang/String;" (.ref tx5)) (ET5 : Exa Z Z.heap tx5 "java/lang/String") (FC5 : Fld Z Z.heap tx5 "java/lang/String" "coder" "B" (.int 0)) (FV5 : Fld Z Z.heap tx5 "java/lang/String" "value" "[B" (.ref bx5)) (VB5 : own_Ar Z Z.heap bx5 kx5 .byte [.int (73 : Int32), .int (78 : Int32)]) (cs : Int32) (hcs : cs ≠ 0) (S_cs : Sta Z Z.heap "java/lang/String" "COMPACT_STRINGS" "Z" (.int cs)) (y0 y1 y2 : Int32) (y : Addr) (ky : ClassId) (E_x : Exa Z h0 x "java/lang/String") (F_coder_x : Fld Z h0 x "java/lang/String" "coder" "B" (.int 0)) (F_value_x : Fld Z h0 x "java/lang/String" "value" "[B" (.ref y)) (V_y : own_Ar Z h0 y ky .byte [.int y0, .int y1, .int y2]) :
    own_C l Z (⟨"com/example/pagemark/pagemark/statements/Restriction$Operator", "ofSymbol", "(Ljava/lang/String;)Lcom/example/pagemark/pagemark/statements/Restriction$Operator;"⟩ : MethodName) prog_34_method_4_code 5 (some (.object "com/example/pagemark/pagemark/statements/Restriction$Operator")) [] ({ frames := 2, cells := 1, slots := 6, locals := 60 } : Room) #[(.ref x)] h0 (fun v h L => v = some .null ∧ L = [] ∧ Keep h0 h []) := by
  refine own_body (plainFor_of_name own_pn4) fun p e s m below meth c s₁ hx hby hml hret hlk hown hnm hZ X0 e0 => ?_
  rw [own_efos3 m x]
  have N0 := Fr.nil n0
  have K := Keep.refl h0 []
  obtain ⟨v1, T1, h1, L1, e1, X1, hQ1, st1⟩ := own_callS X0 hx hZ (y := (⟨"com/example/pagemark/pagemark/statements/Restriction$Operator", "values", "()[Lcom/example/pagemark/pagemark/statements/Restriction$Operator;"⟩ : MethodName)) hown (hw _ (List.mem_of_getElem? (i := 30) rfl)) (hw _ (List.mem_of_getElem? (i := 31) rfl)) (hw _ (List.mem_of_getElem? (i := 28) rfl)) (hw _ (List.mem_of_getElem? (i := 32) rfl)) (by decide) (own_rmva l Z a0 hw h0 n0 en0 en1 en2 en3 en4 en5 O vv kv S_v V_v E_v) (W := 0) (by decide) (by decide) (g := (mkF m 0 #[.val (.ref x), .unset, .unset, .unset, .unset] [])) rfl (by rw [hml]; rfl) (argsL := []) (rest := []) (lenOf own_pd9 rfl) rfl rfl (by show 2 * 0 + _ ≤ _; exact Nat.le_of_eq rfl) (hb hby dos_0) e0 (by decide) (by decide)
  obtain ⟨z, rfl, rfl, Kq, sz_z, V_z⟩ := hQ1
  rw [List.append_nil] at X1
  have K := K.trans Kq all0
  have O := O.keep Kq all0
  have E_x := E_x.keep Kq
  have F_coder_x := F_coder_x.keep Kq nin0
  have F_value_x := F_value_x.keep Kq nin0
  have V_y := V_y.keep Kq nin0
  refine own_go (U' := T1.setTop (mkF m 3 #[.val (.ref x), .unset, .unset, .unset, .unset] [(.ref z)])) st1 ?_
  have E_t0 := ET0.ext O.2
  have E_t1 := ET1.ext O.2
  have E_t2 := ET2.ext O.2
  have E_t3 := ET3.ext O.2
  have E_t4 := ET4.ext O.2
  have E_t5 := ET5.ext O.2
  refine own_go (U' := T1.setTop (mkF m 4 #[.val (.ref x), .val (.ref z), .unset, .unset, .unset] [])) (fun t k => XS.astoreN X1.here hx rfl (hb hby dos_3) rfl rfl (l' := #[.val (.ref x), .val (.ref z), .unset, .unset, .unset]) rfl k) ?_
  refine own_go (U' := T1.setTop (mkF m 5 #[.val (.ref x), .val (.ref z), .unset, .unset, .unset] [(.ref z)])) (fun t k => XS.aloadN X1.here hx rfl (hb hby dos_4) rfl rfl k) ?_
  refine own_go (U' := T1.setTop (mkF m 6 #[.val (.ref x), .val (.ref z), .unset, .unset, .unset] [(.int (6 : Int32))])) (own_arrlen X1 hx hZ e1 V_z (n := (6 : Int32)) rfl (g := (mkF m 5 #[.val (.ref x), .val (.ref z), .unset, .unset, .unset] [(.ref z)])) rfl rfl (hb hby dos_5)) ?_
  refine own_go (U' := T1.setTop (mkF m 7 #[.val (.ref x), .val (.ref z), .val (.int (6 : Int32)), .unset, .unset] [])) (fun t k => XS.istoreN X1.here hx rfl (hb hby dos_6) rfl (l' := #[.val (.ref x), .val (.ref z), .val (.int (6 : Int32)), .unset, .unset]) rfl k) ?_
  refine own_go (U' := T1.setTop (mkF m 8 #[.val (.ref x), .val (.ref z), .val (.int (6 : Int32)), .unset, .unset] [(.int (0 : Int32))])) (fun t k => XS.iconst X1.here hx rfl (hb hby dos_7) k) ?_
  refine own_go (U' := T1.setTop (mkF m 9 #[.val (.ref x), .val (.ref z), .val (.int (6 : Int32)), .val (.int (0 : Int32)), .unset] [])) (fun t k => XS.istoreN X1.here hx rfl (hb hby dos_8) rfl (l' := #[.val (.ref x), .val (.ref z), .val (.int (6 : Int32)), .val (.int (0 : Int32)), .unset]) rfl k) ?_
  refine own_go (U' := T1.setTop (mkF m 10 #[.val (.ref x), .val (.ref z), .val (.int (6 : Int32)), .val (.int (0 : Int32)), .unset] [(.int (0 : Int32))])) (fun t k => XS.iloadN X1.here hx rfl (hb hby dos_9) rfl k) ?_
  refine own_go (U' := T1.setTop (mkF m 11 #[.val (.ref x), .val (.ref z), .val (.int (6 : Int32)), .val (.int (0 : Int32)), .unset] [(.int (6 : Int32)), (.int (0 : Int32))])) (fun t k => XS.iloadN X1.here hx rfl (hb hby dos_10) rfl k) ?_
  refine own_go (U' := T1.setTop (mkF m 14 #[.val (.ref x), .val (.ref z), .val (.int (6 : Int32)), .val (.int (0 : Int32)), .unset] [])) (fun t k => XS.icmpNo X1.here hx rfl (hb hby dos_11) rfl (tlt (by decide)).2.1 k) ?_
  refine own_go (U' := T1.setTop (mkF m 15 #[.val (.ref x), .val (.ref z), .val (.int (6 : Int32)), .val (.int (0 : Int32)), .unset] [(.ref z)])) (fun t k => XS.aloadN X1.here hx rfl (hb hby dos_14) rfl rfl k) ?_
  refine own_go (U' := T1.setTop (mkF m 16 #[.val (.ref x), .val (.ref z), .val (.int (6 : Int32)), .val (.int (0 : Int32)), .unset] [(.int (0 : Int32)), (.ref z)])) (fun t k => XS.iloadN X1.here hx rfl (hb hby dos_15) rfl k) ?_
  refine own_go (U' := T1.setTop (mkF m 17 #[.val (.ref x), .val (.ref z), .val (.int (6 : Int32)), .val (.int (0 : Int32)), .unset] [(.ref en0)])) (own_aaload X1 hx hZ e1 V_z rfl (j := (0 : Int32)) (by decide) (i := 0) rfl (v := (.ref en0)) rfl (g := (mkF m 16 #[.val (.ref x), .val (.ref z), .val (.int (6 : Int32)), .val (.int (0 : Int32)), .unset] [(.int (0 : Int32)), (.ref z)])) rfl rfl (hb hby dos_16)) ?_
  refine own_go (U' := T1.setTop (mkF m 19 #[.val (.ref x), .val (.ref z), .val (.int (6 : Int32)), .val (.int (0 : Int32)), .val (.ref en0)] [])) (fun t k => XS.astore X1.here hx rfl (hb hby dos_17) rfl rfl (l' := #[.val (.ref x), .val (.ref z), .val (.int (6 : Int32)), .val (.int (0 : Int32)), .val (.ref en0)]) rfl k) ?_
  refine own_go (U' := T1.setTop (mkF m 21 #[.val (.ref x), .val (.ref z), .val (.int (6 : Int32)), .val (.int (0 : Int32)), .val (.ref en0)] [(.ref en0)])) (fun t k => XS.aload X1.here hx rfl (hb hby dos_19) rfl rfl k) ?_
  obtain ⟨T2, X2, e2, st2⟩ := getF X1 hx hZ hown (host := "") (Or.inl (hw _ (List.mem_of_getElem? (i := 51) rfl))) Via.refl e1 (FT0.ext O.2) (g := (mkF m 21 #[.val (.ref x), .val (.ref z), .val (.int (6 : Int32)), .val (.int (0 : Int32)), .val (.ref en0)] [(.ref en0)])) rfl rfl (hb hby dos_21)
  refine own_go (U' := T2.setTop (mkF m 24 #[.val (.ref x), .val (.ref z), .val (.int (6 : Int32)), .val (.int (0 : Int32)), .val (.ref en0)] [(.ref tx0)])) st2 ?_
  refine own_go (U' := T2.setTop (mkF m 25 #[.val (.ref x), .val (.ref z), .val (.int (6 : Int32)), .val (.int (0 : Int32)), .val (.ref en0)] [(.ref x), (.ref tx0)])) (fun t k => XS.aloadN X2.here hx rfl (hb hby dos_24) rfl rfl k) ?_
  obtain ⟨v3, T3, h3, L3, e3, X3, hQ3, st3⟩ := own_callV X2 hx hZ (y := (⟨"java/lang/String", "equals", "(Ljava/lang/Object;)Z"⟩ : MethodName)) (z := (⟨"java/lang/String", "equals", "(Ljava/lang/Object;)Z"⟩ : MethodName)) hown (hw _ (List.mem_of_getElem? (i := 53) rfl)) (hw _ (List.mem_of_getElem? (i := 54) rfl)) (notFace_of_selects (args := #[]) (mvT hZ (hw _ (List.mem_of_getElem? (i := 56) rfl)))) (hw _ (List.mem_of_getElem? (i := 56) rfl)) (hw _ (List.mem_of_getElem? (i := 55) rfl)) (hw _ (List.mem_of_getElem? (i := 7) rfl)) (hw _ (List.mem_of_getElem? (i := 57) rfl)) (by decide) E_t0 (own_rmeq13 l Z a0 hw tx0 x h1 n0 O cs hcs S_cs (61) y0 y1 y2 _ _ _ _ E_t0 (FC0.ext O.2) (FV0.ext O.2) (VB0.ext O.2) E_x F_coder_x F_value_x V_y) (W := 0) (by decide) (by decide) (g := (mkF m 25 #[.val (.ref x), .val (.ref z), .val (.int (6 : Int32)), .val (.int (0 : Int32)), .val (.ref en0)] [(.ref x), (.ref tx0)])) rfl (by rw [hml]; rfl) (argsL := [(.ref x)]) (rest := []) (lenOf own_pd7 rfl) rfl rfl (by show 2 * 0 + _ ≤ _; exact Nat.le_of_eq rfl) (hb hby dos_25) e2 (by decide) (by decide)
  obtain ⟨rfl, rfl, eh3⟩ := hQ3
  have e3 := e3.trans eh3
  rw [List.append_nil] at X3
  refine own_go (U' := T3.setTop (mkF m 28 #[.val (.ref x), .val (.ref z), .val (.int (6 : Int32)), .val (.int (0 : Int32)), .val (.ref en0)] [(.int (0 : Int32))])) st3 ?_
  refine own_go (U' := T3.setTop (mkF m 34 #[.val (.ref x), .val (.ref z), .val (.int (6 : Int32)), .val (.int (0 : Int32)), .val (.ref en0)] [])) (fun t k => XS.ifYes X3.here hx rfl (pc0 := 28) (pc' := 34) rfl (hb hby dos_28) rfl ((if0 _ _).trans (teq (by decide)).1) (by decide) (by decide) k) ?_
  refine own_go (U' := T3.setTop (mkF m 37 #[.val (.ref x), .val (.ref z), .val (.int (6 : Int32)), .val (.int (1 : Int32)), .val (.ref en0)] [])) (fun t k => XS.iinc X3.here hx rfl (hb hby dos_34) rfl (l' := #[.val (.ref x), .val (.ref z), .val (.int (6 : Int32)), .val (.int (1 : Int32)), .val (.ref en0)]) rfl k) ?_
  refine own_go (U' := T3.setTop (mkF m 9 #[.val (.ref x), .val (.ref z), .val (.int (6 : Int32)), .val (.int (1 : Int32)), .val (.ref en0)] [])) (fun t k => XS.goto X3.here hx rfl (pc0 := 37) (pc' := 9) rfl (hb hby dos_37) (by decide) (by decide) k) ?_
  refine own_go (U' := T3.setTop (mkF m 10 #[.val (.ref x), .val (.ref z), .val (.int (6 : Int32)), .val (.int (1 : Int32)), .val (.ref en0)] [(.int (1 : Int32))])) (fun t k => XS.iloadN X3.here hx rfl (hb hby dos_9) rfl k) ?_
  refine own_go (U' := T3.setTop (mkF m 11 #[.val (.ref x), .val (.ref z), .val (.int (6 : Int32)), .val (.int (1 : Int32)), .val (.ref en0)] [(.int (6 : Int32)), (.int (1 : Int32))])) (fun t k => XS.iloadN X3.here hx rfl (hb hby dos_10) rfl k) ?_
  refine own_go (U' := T3.setTop (mkF m 14 #[.val (.ref x), .val (.ref z), .val (.int (6 : Int32)), .val (.int (1 : Int32)), .val (.ref en0)] [])) (fun t k => XS.icmpNo X3.here hx rfl (hb hby dos_11) rfl (tlt (by decide)).2.1 k) ?_
  refine own_go (U' := T3.setTop (mkF m 15 #[.val (.ref x), .val (.ref z), .val (.int (6 : Int32)), .val (.int (1 : Int32)), .val (.ref en0)] [(.ref z)])) (fun t k => XS.aloadN X3.here hx rfl (hb hby dos_14) rfl rfl k) ?_
  refine own_go (U' := T3.setTop (mkF m 16 #[.val (.ref x), .val (.ref z), .val (.int (6 : Int32)), .val (.int (1 : Int32)), .val (.ref en0)] [(.int (1 : Int32)), (.ref z)])) (fun t k => XS.iloadN X3.here hx rfl (hb hby dos_15) rfl k) ?_
  refine own_go (U' := T3.setTop (mkF m 17 #[.val (.ref x), .val (.ref z), .val (.int (6 : Int32)), .val (.int (1 : Int32)), .val (.ref en0)] [(.ref en1)])) (own_aaload X3 hx hZ e3 V_z rfl (j := (1 : Int32)) (by decide) (i := 1) rfl (v := (.ref en1)) rfl (g := (mkF m 16 #[.val (.ref x), .val (.ref z), .val (.int (6 : Int32)), .val (.int (1 : Int32)), .val (.ref en0)] [(.int (1 : Int32)), (.ref z)])) rfl rfl (hb hby dos_16)) ?_
  refine own_go (U' := T3.setTop (mkF m 19 #[.val (.ref x), .val (.ref z), .val (.int (6 : Int32)), .val (.int (1 : Int32)), .val (.ref en1)] [])) (fun t k => XS.astore X3.here hx rfl (hb hby dos_17) rfl rfl (l' := #[.val (.ref x), .val (.ref z), .val (.int (6 : Int32)), .val (.int (1 : Int32)), .val (.ref en1)]) rfl k) ?_
  refine own_go (U' := T3.setTop (mkF m 21 #[.val (.ref x), .val (.ref z), .val (.int (6 : Int32)), .val (.int (1 : Int32)), .val (.ref en1)] [(.ref en1)])) (fun t k => XS.aload X3.here hx rfl (hb hby dos_19) rfl rfl k) ?_
  obtain ⟨T4, X4, e4, st4⟩ := getF X3 hx hZ hown (host := "") (Or.inl (hw _ (List.mem_of_getElem? (i := 51) rfl))) Via.refl e3 (FT1.ext O.2) (g := (mkF m 21 #[.val (.ref x), .val (.ref z), .val (.int (6 : Int32)), .val (.int (1 : Int32)), .val (.ref en1)] [(.ref en1)])) rfl rfl (hb hby dos_21)
  refine own_go (U' := T4.setTop (mkF m 24 #[.val (.ref x), .val (.ref z), .val (.int (6 : Int32)), .val (.int (1 : Int32)), .val (.ref en1)] [(.ref tx1)])) st4 ?_
  refine own_go (U' := T4.setTop (mkF m 25 #[.val (.ref x), .val (.ref z), .val (.int (6 : Int32)), .val (.int (1 : Int32)), .val (.ref en1)] [(.ref x), (.ref tx1)])) (fun t k => XS.aloadN X4.here hx rfl (hb hby dos_24) rfl rfl k) ?_
  obtain ⟨v5, T5, h5, L5, e5, X5, hQ5, st5⟩ := own_callV X4 hx hZ (y := (⟨"java/lang/String", "equals", "(Ljava/lang/Object;)Z"⟩ : MethodName)) (z := (⟨"java/lang/String", "equals", "(Ljava/lang/Object;)Z"⟩ : MethodName)) hown (hw _ (List.mem_of_getElem? (i := 53) rfl)) (hw _ (List.mem_of_getElem? (i := 54) rfl)) (notFace_of_selects (args := #[]) (mvT hZ (hw _ (List.mem_of_getElem? (i := 56) rfl)))) (hw _ (List.mem_of_getElem? (i := 56) rfl)) (hw _ (List.mem_of_getElem? (i := 55) rfl)) (hw _ (List.mem_of_getElem? (i := 7) rfl)) (hw _ (List.mem_of_getElem? (i := 57) rfl)) (by decide) E_t1 (own_rmeq13 l Z a0 hw tx1 x h1 n0 O cs hcs S_cs (60) y0 y1 y2 _ _ _ _ E_t1 (FC1.ext O.2) (FV1.ext O.2) (VB1.ext O.2) E_x F_coder_x F_value_x V_y) (W := 0) (by decide) (by decide) (g := (mkF m 25 #[.val (.ref x), .val (.ref z), .val (.int (6 : Int32)), .val (.int (1 : Int32)), .val (.ref en1)] [(.ref x), (.ref tx1)])) rfl (by rw [hml]; rfl) (argsL := [(.ref x)]) (rest := []) (lenOf own_pd7 rfl) rfl rfl (by show 2 * 0 + _ ≤ _; exact Nat.le_of_eq rfl) (hb hby dos_25) e4 (by decide) (by decide)
  obtain ⟨rfl, rfl, eh5⟩ := hQ5
  have e5 := e5.trans eh5
  rw [List.append_nil] at X5
  refine own_go (U' := T5.setTop (mkF m 28 #[.val (.ref x), .val (.ref z), .val (.int (6 : Int32)), .val (.int (1 : Int32)), .val (.ref en1)] [(.int (0 : Int32))])) st5 ?_
  refine own_go (U' := T5.setTop (mkF m 34 #[.val (.ref x), .val (.ref z), .val (.int (6 : Int32)), .val (.int (1 : Int32)), .val (.ref en1)] [])) (fun t k => XS.ifYes X5.here hx rfl (pc0 := 28) (pc' := 34) rfl (hb hby dos_28) rfl ((if0 _ _).trans (teq (by decide)).1) (by decide) (by decide) k) ?_
  refine own_go (U' := T5.setTop (mkF m 37 #[.val (.ref x), .val (.ref z), .val (.int (6 : Int32)), .val (.int (2 : Int32)), .val (.ref en1)] [])) (fun t k => XS.iinc X5.here hx rfl (hb hby dos_34) rfl (l' := #[.val (.ref x), .val (.ref z), .val (.int (6 : Int32)), .val (.int (2 : Int32)), .val (.ref en1)]) rfl k) ?_
  refine own_go (U' := T5.setTop (mkF m 9 #[.val (.ref x), .val (.ref z), .val (.int (6 : Int32)), .val (.int (2 : Int32)), .val (.ref en1)] [])) (fun t k => XS.goto X5.here hx rfl (pc0 := 37) (pc' := 9) rfl (hb hby dos_37) (by decide) (by decide) k) ?_
  refine own_go (U' := T5.setTop (mkF m 10 #[.val (.ref x), .val (.ref z), .val (.int (6 : Int32)), .val (.int (2 : Int32)), .val (.ref en1)] [(.int (2 : Int32))])) (fun t k => XS.iloadN X5.here hx rfl (hb hby dos_9) rfl k) ?_
  refine own_go (U' := T5.setTop (mkF m 11 #[.val (.ref x), .val (.ref z), .val (.int (6 : Int32)), .val (.int (2 : Int32)), .val (.ref en1)] [(.int (6 : Int32)), (.int (2 : Int32))])) (fun t k => XS.iloadN X5.here hx rfl (hb hby dos_10) rfl k) ?_
  refine own_go (U' := T5.setTop (mkF m 14 #[.val (.ref x), .val (.ref z), .val (.int (6 : Int32)), .val (.int (2 : Int32)), .val (.ref en1)] [])) (fun t k => XS.icmpNo X5.here hx rfl (hb hby dos_11) rfl (tlt (by decide)).2.1 k) ?_
  refine own_go (U' := T5.setTop (mkF m 15 #[.val (.ref x), .val (.ref z), .val (.int (6 : Int32)), .val (.int (2 : Int32)), .val (.ref en1)] [(.ref z)])) (fun t k => XS.aloadN X5.here hx rfl (hb hby dos_14) rfl rfl k) ?_
  refine own_go (U' := T5.setTop (mkF m 16 #[.val (.ref x), .val (.ref z), .val (.int (6 : Int32)), .val (.int (2 : Int32)), .val (.ref en1)] [(.int (2 : Int32)), (.ref z)])) (fun t k => XS.iloadN X5.here hx rfl (hb hby dos_15) rfl k) ?_
  refine own_go (U' := T5.setTop (mkF m 17 #[.val (.ref x), .val (.ref z), .val (.int (6 : Int32)), .val (.int (2 : Int32)), .val (.ref en1)] [(.ref en2)])) (own_aaload X5 hx hZ e5 V_z rfl (j := (2 : Int32)) (by decide) (i := 2) rfl (v := (.ref en2)) rfl (g := (mkF m 16 #[.val (.ref x), .val (.ref z), .val (.int (6 : Int32)), .val (.int (2 : Int32)), .val (.ref en1)] [(.int (2 : Int32)), (.ref z)])) rfl rfl (hb hby dos_16)) ?_
  refine own_go (U' := T5.setTop (mkF m 19 #[.val (.ref x), .val (.ref z), .val (.int (6 : Int32)), .val (.int (2 : Int32)), .val (.ref en2)] [])) (fun t k => XS.astore X5.here hx rfl (hb hby dos_17) rfl rfl (l' := #[.val (.ref x), .val (.ref z), .val (.int (6 : Int32)), .val (.int (2 : Int32)), .val (.ref en2)]) rfl k) ?_
  refine own_go (U' := T5.setTop (mkF m 21 #[.val (.ref x), .val (.ref z), .val (.int (6 : Int32)), .val (.int (2 : Int32)), .val (.ref en2)] [(.ref en2)])) (fun t k => XS.aload X5.here hx rfl (hb hby dos_19) rfl rfl k) ?_
  obtain ⟨T6, X6, e6, st6⟩ := getF X5 hx hZ hown (host := "") (Or.inl (hw _ (List.mem_of_getElem? (i := 51) rfl))) Via.refl e5 (FT2.ext O.2) (g := (mkF m 21 #[.val (.ref x), .val (.ref z), .val (.int (6 : Int32)), .val (.int (2 : Int32)), .val (.ref en2)] [(.ref en2)])) rfl rfl (hb hby dos_21)
  refine own_go (U' := T6.setTop (mkF m 24 #[.val (.ref x), .val (.ref z), .val (.int (6 : Int32)), .val (.int (2 : Int32)), .val (.ref en2)] [(.ref tx2)])) st6 ?_
  refine own_go (U' := T6.setTop (mkF m 25 #[.val (.ref x), .val (.ref z), .val (.int (6 : Int32)), .val (.int (2 : Int32)), .val (.ref en2)] [(.ref x), (.ref tx2)])) (fun t k => XS.aloadN X6.here hx rfl (hb hby dos_24) rfl rfl k) ?_
  obtain ⟨v7, T7, h7, L7, e7, X7, hQ7, st7⟩ := own_callV X6 hx hZ (y := (⟨"java/lang/String", "equals", "(Ljava/lang/Object;)Z"⟩ : MethodName)) (z := (⟨"java/lang/String", "equals", "(Ljava/lang/Object;)Z"⟩ : MethodName)) hown (hw _ (List.mem_of_getElem? (i := 53) rfl)) (hw _ (List.mem_of_getElem? (i := 54) rfl)) (notFace_of_selects (args := #[]) (mvT hZ (hw _ (List.mem_of_getElem? (i := 56) rfl)))) (hw _ (List.mem_of_getElem? (i := 56) rfl)) (hw _ (List.mem_of_getElem? (i := 55) rfl)) (hw _ (List.mem_of_getElem? (i := 7) rfl)) (hw _ (List.mem_of_getElem? (i := 57) rfl)) (by decide) E_t2 (own_rmeq23 l Z a0 hw tx2 x h1 n0 O cs hcs S_cs (60) (61) y0 y1 y2 _ _ _ _ E_t2 (FC2.ext O.2) (FV2.ext O.2) (VB2.ext O.2) E_x F_coder_x F_value_x V_y) (W := 0) (by decide) (by decide) (g := (mkF m 25 #[.val (.ref x), .val (.ref z), .val (.int (6 : Int32)), .val (.int (2 : Int32)), .val (.ref en2)] [(.ref x), (.ref tx2)])) rfl (by rw [hml]; rfl) (argsL := [(.ref x)]) (rest := []) (lenOf own_pd7 rfl) rfl rfl (by show 2 * 0 + _ ≤ _; exact Nat.le_of_eq rfl) (hb hby dos_25) e6 (by decide) (by decide)
  obtain ⟨rfl, rfl, eh7⟩ := hQ7
  have e7 := e7.trans eh7
  rw [List.append_nil] at X7
  refine own_go (U' := T7.setTop (mkF m 28 #[.val (.ref x), .val (.ref z), .val (.int (6 : Int32)), .val (.int (2 : Int32)), .val (.ref en2)] [(.int (0 : Int32))])) st7 ?_
  refine own_go (U' := T7.setTop (mkF m 34 #[.val (.ref x), .val (.ref z), .val (.int (6 : Int32)), .val (.int (2 : Int32)), .val (.ref en2)] [])) (fun t k => XS.ifYes X7.here hx rfl (pc0 := 28) (pc' := 34) rfl (hb hby dos_28) rfl ((if0 _ _).trans (teq (by decide)).1) (by decide) (by decide) k) ?_
  refine own_go (U' := T7.setTop (mkF m 37 #[.val (.ref x), .val (.ref z), .val (.int (6 : Int32)), .val (.int (3 : Int32)), .val (.ref en2)] [])) (fun t k => XS.iinc X7.here hx rfl (hb hby dos_34) rfl (l' := #[.val (.ref x), .val (.ref z), .val (.int (6 : Int32)), .val (.int (3 : Int32)), .val (.ref en2)]) rfl k) ?_
  refine own_go (U' := T7.setTop (mkF m 9 #[.val (.ref x), .val (.ref z), .val (.int (6 : Int32)), .val (.int (3 : Int32)), .val (.ref en2)] [])) (fun t k => XS.goto X7.here hx rfl (pc0 := 37) (pc' := 9) rfl (hb hby dos_37) (by decide) (by decide) k) ?_
  refine own_go (U' := T7.setTop (mkF m 10 #[.val (.ref x), .val (.ref z), .val (.int (6 : Int32)), .val (.int (3 : Int32)), .val (.ref en2)] [(.int (3 : Int32))])) (fun t k => XS.iloadN X7.here hx rfl (hb hby dos_9) rfl k) ?_
  refine own_go (U' := T7.setTop (mkF m 11 #[.val (.ref x), .val (.ref z), .val (.int (6 : Int32)), .val (.int (3 : Int32)), .val (.ref en2)] [(.int (6 : Int32)), (.int (3 : Int32))])) (fun t k => XS.iloadN X7.here hx rfl (hb hby dos_10) rfl k) ?_
  refine own_go (U' := T7.setTop (mkF m 14 #[.val (.ref x), .val (.ref z), .val (.int (6 : Int32)), .val (.int (3 : Int32)), .val (.ref en2)] [])) (fun t k => XS.icmpNo X7.here hx rfl (hb hby dos_11) rfl (tlt (by decide)).2.1 k) ?_
  refine own_go (U' := T7.setTop (mkF m 15 #[.val (.ref x), .val (.ref z), .val (.int (6 : Int32)), .val (.int (3 : Int32)), .val (.ref en2)] [(.ref z)])) (fun t k => XS.aloadN X7.here hx rfl (hb hby dos_14) rfl rfl k) ?_
  refine own_go (U' := T7.setTop (mkF m 16 #[.val (.ref x), .val (.ref z), .val (.int (6 : Int32)), .val (.int (3 : Int32)), .val (.ref en2)] [(.int (3 : Int32)), (.ref z)])) (fun t k => XS.iloadN X7.here hx rfl (hb hby dos_15) rfl k) ?_
  refine own_go (U' := T7.setTop (mkF m 17 #[.val (.ref x), .val (.ref z), .val (.int (6 : Int32)), .val (.int (3 : Int32)), .val (.ref en2)] [(.ref en3)])) (own_aaload X7 hx hZ e7 V_z rfl (j := (3 : Int32)) (by decide) (i := 3) rfl (v := (.ref en3)) rfl (g := (mkF m 16 #[.val (.ref x), .val (.ref z), .val (.int (6 : Int32)), .val (.int (3 : Int32)), .val (.ref en2)] [(.int (3 : Int32)), (.ref z)])) rfl rfl (hb hby dos_16)) ?_
  refine own_go (U' := T7.setTop (mkF m 19 #[.val (.ref x), .val (.ref z), .val (.int (6 : Int32)), .val (.int (3 : Int32)), .val (.ref en3)] [])) (fun t k => XS.astore X7.here hx rfl (hb hby dos_17) rfl rfl (l' := #[.val (.ref x), .val (.ref z), .val (.int (6 : Int32)), .val (.int (3 : Int32)), .val (.ref en3)]) rfl k) ?_
  refine own_go (U' := T7.setTop (mkF m 21 #[.val (.ref x), .val (.ref z), .val (.int (6 : Int32)), .val (.int (3 : Int32)), .val (.ref en3)] [(.ref en3)])) (fun t k => XS.aload X7.here hx rfl (hb hby dos_19) rfl rfl k) ?_
  obtain ⟨T8, X8, e8, st8⟩ := getF X7 hx hZ hown (host := "") (Or.inl (hw _ (List.mem_of_getElem? (i := 51) rfl))) Via.refl e7 (FT3.ext O.2) (g := (mkF m 21 #[.val (.ref x), .val (.ref z), .val (.int (6 : Int32)), .val (.int (3 : Int32)), .val (.ref en3)] [(.ref en3)])) rfl rfl (hb hby dos_21)
  refine own_go (U' := T8.setTop (mkF m 24 #[.val (.ref x), .val (.ref z), .val (.int (6 : Int32)), .val (.int (3 : Int32)), .val (.ref en3)] [(.ref tx3)])) st8 ?_
  refine own_go (U' := T8.setTop (mkF m 25 #[.val (.ref x), .val (.ref z), .val (.int (6 : Int32)), .val (.int (3 : Int32)), .val (.ref en3)] [(.ref x), (.ref tx3)])) (fun t k => XS.aloadN X8.here hx rfl (hb hby dos_24) rfl rfl k) ?_
  obtain ⟨v9, T9, h9, L9, e9, X9, hQ9, st9⟩ := own_callV X8 hx hZ (y := (⟨"java/lang/String", "equals", "(Ljava/lang/Object;)Z"⟩ : MethodName)) (z := (⟨"java/lang/String", "equals", "(Ljava/lang/Object;)Z"⟩ : MethodName)) hown (hw _ (List.mem_of_getElem? (i := 53) rfl)) (hw _ (List.mem_of_getElem? (i := 54) rfl)) (notFace_of_selects (args := #[]) (mvT hZ (hw _ (List.mem_of_getElem? (i := 56) rfl)))) (hw _ (List.mem_of_getElem? (i := 56) rfl)) (hw _ (List.mem_of_getElem? (i := 55) rfl)) (hw _ (List.mem_of_getElem? (i := 7) rfl)) (hw _ (List.mem_of_getElem? (i := 57) rfl)) (by decide) E_t3 (own_rmeq13 l Z a0 hw tx3 x h1 n0 O cs hcs S_cs (62) y0 y1 y2 _ _ _ _ E_t3 (FC3.ext O.2) (FV3.ext O.2) (VB3.ext O.2) E_x F_coder_x F_value_x V_y) (W := 0) (by decide) (by decide) (g := (mkF m 25 #[.val (.ref x), .val (.ref z), .val (.int (6 : Int32)), .val (.int (3 : Int32)), .val (.ref en3)] [(.ref x), (.ref tx3)])) rfl (by rw [hml]; rfl) (argsL := [(.ref x)]) (rest := []) (lenOf own_pd7 rfl) rfl rfl (by show 2 * 0 + _ ≤ _; exact Nat.le_of_eq rfl) (hb hby dos_25) e8 (by decide) (by decide)
  obtain ⟨rfl, rfl, eh9⟩ := hQ9
  have e9 := e9.trans eh9
  rw [List.append_nil] at X9
  refine own_go (U' := T9.setTop (mkF m 28 #[.val (.ref x), .val (.ref z), .val (.int (6 : Int32)), .val (.int (3 : Int32)), .val (.ref en3)] [(.int (0 : Int32))])) st9 ?_
  refine own_go (U' := T9.setTop (mkF m 34 #[.val (.ref x), .val (.ref z), .val (.int (6 : Int32)), .val (.int (3 : Int32)), .val (.ref en3)] [])) (fun t k => XS.ifYes X9.here hx rfl (pc0 := 28) (pc' := 34) rfl (hb hby dos_28) rfl ((if0 _ _).trans (teq (by decide)).1) (by decide) (by decide) k) ?_
  refine own_go (U' := T9.setTop (mkF m 37 #[.val (.ref x), .val (.ref z), .val (.int (6 : Int32)), .val (.int (4 : Int32)), .val (.ref en3)] [])) (fun t k => XS.iinc X9.here hx rfl (hb hby dos_34) rfl (l' := #[.val (.ref x), .val (.ref z), .val (.int (6 : Int32)), .val (.int (4 : Int32)), .val (.ref en3)]) rfl k) ?_
  refine own_go (U' := T9.setTop (mkF m 9 #[.val (.ref x), .val (.ref z), .val (.int (6 : Int32)), .val (.int (4 : Int32)), .val (.ref en3)] [])) (fun t k => XS.goto X9.here hx rfl (pc0 := 37) (pc' := 9) rfl (hb hby dos_37) (by decide) (by decide) k) ?_
  refine own_go (U' := T9.setTop (mkF m 10 #[.val (.ref x), .val (.ref z), .val (.int (6 : Int32)), .val (.int (4 : Int32)), .val (.ref en3)] [(.int (4 : Int32))])) (fun t k => XS.iloadN X9.here hx rfl (hb hby dos_9) rfl k) ?_
  refine own_go (U' := T9.setTop (mkF m 11 #[.val (.ref x), .val (.ref z), .val (.int (6 : Int32)), .val (.int (4 : Int32)), .val (.ref en3)] [(.int (6 : Int32)), (.int (4 : Int32))])) (fun t k => XS.iloadN X9.here hx rfl (hb hby dos_10) rfl k) ?_
  refine own_go (U' := T9.setTop (mkF m 14 #[.val (.ref x), .val (.ref z), .val (.int (6 : Int32)), .val (.int (4 : Int32)), .val (.ref en3)] [])) (fun t k => XS.icmpNo X9.here hx rfl (hb hby dos_11) rfl (tlt (by decide)).2.1 k) ?_
  refine own_go (U' := T9.setTop (mkF m 15 #[.val (.ref x), .val (.ref z), .val (.int (6 : Int32)), .val (.int (4 : Int32)), .val (.ref en3)] [(.ref z)])) (fun t k => XS.aloadN X9.here hx rfl (hb hby dos_14) rfl rfl k) ?_
  refine own_go (U' := T9.setTop (mkF m 16 #[.val (.ref x), .val (.ref z), .val (.int (6 : Int32)), .val (.int (4 : Int32)), .val (.ref en3)] [(.int (4 : Int32)), (.ref z)])) (fun t k => XS.iloadN X9.here hx rfl (hb hby dos_15) rfl k) ?_
  refine own_go (U' := T9.setTop (mkF m 17 #[.val (.ref x), .val (.ref z), .val (.int (6 : Int32)), .val (.int (4 : Int32)), .val (.ref en3)] [(.ref en4)])) (own_aaload X9 hx hZ e9 V_z rfl (j := (4 : Int32)) (by decide) (i := 4) rfl (v := (.ref en4)) rfl (g := (mkF m 16 #[.val (.ref x), .val (.ref z), .val (.int (6 : Int32)), .val (.int (4 : Int32)), .val (.ref en3)] [(.int (4 : Int32)), (.ref z)])) rfl rfl (hb hby dos_16)) ?_
  refine own_go (U' := T9.setTop (mkF m 19 #[.val (.ref x), .val (.ref z), .val (.int (6 : Int32)), .val (.int (4 : Int32)), .val (.ref en4)] [])) (fun t k => XS.astore X9.here hx rfl (hb hby dos_17) rfl rfl (l' := #[.val (.ref x), .val (.ref z), .val (.int (6 : Int32)), .val (.int (4 : Int32)), .val (.ref en4)]) rfl k) ?_
  refine own_go (U' := T9.setTop (mkF m 21 #[.val (.ref x), .val (.ref z), .val (.int (6 : Int32)), .val (.int (4 : Int32)), .val (.ref en4)] [(.ref en4)])) (fun t k => XS.aload X9.here hx rfl (hb hby dos_19) rfl rfl k) ?_
  obtain ⟨T10, X10, e10, st10⟩ := getF X9 hx hZ hown (host := "") (Or.inl (hw _ (List.mem_of_getElem? (i := 51) rfl))) Via.refl e9 (FT4.ext O.2) (g := (mkF m 21 #[.val (.ref x), .val (.ref z), .val (.int (6 : Int32)), .val (.int (4 : Int32)), .val (.ref en4)] [(.ref en4)])) rfl rfl (hb hby dos_21)
  refine own_go (U' := T10.setTop (mkF m 24 #[.val (.ref x), .val (.ref z), .val (.int (6 : Int32)), .val (.int (4 : Int32)), .val (.ref en4)] [(.ref tx4)])) st10 ?_
  refine own_go (U' := T10.setTop (mkF m 25 #[.val (.ref x), .val (.ref z), .val (.int (6 : Int32)), .val (.int (4 : Int32)), .val (.ref en4)] [(.ref x), (.ref tx4)])) (fun t k => XS.aloadN X10.here hx rfl (hb hby dos_24) rfl rfl k) ?_
  obtain ⟨v11, T11, h11, L11, e11, X11, hQ11, st11⟩ := own_callV X10 hx hZ (y := (⟨"java/lang/String", "equals", "(Ljava/lang/Object;)Z"⟩ : MethodName)) (z := (⟨"java/lang/String", "equals", "(Ljava/lang/Object;)Z"⟩ : MethodName)) hown (hw _ (List.mem_of_getElem? (i := 53) rfl)) (hw _ (List.mem_of_getElem? (i := 54) rfl)) (notFace_of_selects (args := #[]) (mvT hZ (hw _ (List.mem_of_getElem? (i := 56) rfl)))) (hw _ (List.mem_of_getElem? (i := 56) rfl)) (hw _ (List.mem_of_getElem? (i := 55) rfl)) (hw _ (List.mem_of_getElem? (i := 7) rfl)) (hw _ (List.mem_of_getElem? (i := 57) rfl)) (by decide) E_t4 (own_rmeq23 l Z a0 hw tx4 x h1 n0 O cs hcs S_cs (62) (61) y0 y1 y2 _ _ _ _ E_t4 (FC4.ext O.2) (FV4.ext O.2) (VB4.ext O.2) E_x F_coder_x F_value_x V_y) (W := 0) (by decide) (by decide) (g := (mkF m 25 #[.val (.ref x), .val (.ref z), .val (.int (6 : Int32)), .val (.int (4 : Int32)), .val (.ref en4)] [(.ref x), (.ref tx4)])) rfl (by rw [hml]; rfl) (argsL := [(.ref x)]) (rest := []) (lenOf own_pd7 rfl) rfl rfl (by show 2 * 0 + _ ≤ _; exact Nat.le_of_eq rfl) (hb hby dos_25) e10 (by decide) (by decide)
  obtain ⟨rfl, rfl, eh11⟩ := hQ11
  have e11 := e11.trans eh11
  rw [List.append_nil] at X11
  refine own_go (U' := T11.setTop (mkF m 28 #[.val (.ref x), .val (.ref z), .val (.int (6 : Int32)), .val (.int (4 : Int32)), .val (.ref en4)] [(.int (0 : Int32))])) st11 ?_
  refine own_go (U' := T11.setTop (mkF m 34 #[.val (.ref x), .val (.ref z), .val (.int (6 : Int32)), .val (.int (4 : Int32)), .val (.ref en4)] [])) (fun t k => XS.ifYes X11.here hx rfl (pc0 := 28) (pc' := 34) rfl (hb hby dos_28) rfl ((if0 _ _).trans (teq (by decide)).1) (by decide) (by decide) k) ?_
  refine own_go (U' := T11.setTop (mkF m 37 #[.val (.ref x), .val (.ref z), .val (.int (6 : Int32)), .val (.int (5 : Int32)), .val (.ref en4)] [])) (fun t k => XS.iinc X11.here hx rfl (hb hby dos_34) rfl (l' := #[.val (.ref x), .val (.ref z), .val (.int (6 : Int32)), .val (.int (5 : Int32)), .val (.ref en4)]) rfl k) ?_
  refine own_go (U' := T11.setTop (mkF m 9 #[.val (.ref x), .val (.ref z), .val (.int (6 : Int32)), .val (.int (5 : Int32)), .val (.ref en4)] [])) (fun t k => XS.goto X11.here hx rfl (pc0 := 37) (pc' := 9) rfl (hb hby dos_37) (by decide) (by decide) k) ?_
  refine own_go (U' := T11.setTop (mkF m 10 #[.val (.ref x), .val (.ref z), .val (.int (6 : Int32)), .val (.int (5 : Int32)), .val (.ref en4)] [(.int (5 : Int32))])) (fun t k => XS.iloadN X11.here hx rfl (hb hby dos_9) rfl k) ?_
  refine own_go (U' := T11.setTop (mkF m 11 #[.val (.ref x), .val (.ref z), .val (.int (6 : Int32)), .val (.int (5 : Int32)), .val (.ref en4)] [(.int (6 : Int32)), (.int (5 : Int32))])) (fun t k => XS.iloadN X11.here hx rfl (hb hby dos_10) rfl k) ?_
  refine own_go (U' := T11.setTop (mkF m 14 #[.val (.ref x), .val (.ref z), .val (.int (6 : Int32)), .val (.int (5 : Int32)), .val (.ref en4)] [])) (fun t k => XS.icmpNo X11.here hx rfl (hb hby dos_11) rfl (tlt (by decide)).2.1 k) ?_
  refine own_go (U' := T11.setTop (mkF m 15 #[.val (.ref x), .val (.ref z), .val (.int (6 : Int32)), .val (.int (5 : Int32)), .val (.ref en4)] [(.ref z)])) (fun t k => XS.aloadN X11.here hx rfl (hb hby dos_14) rfl rfl k) ?_
  refine own_go (U' := T11.setTop (mkF m 16 #[.val (.ref x), .val (.ref z), .val (.int (6 : Int32)), .val (.int (5 : Int32)), .val (.ref en4)] [(.int (5 : Int32)), (.ref z)])) (fun t k => XS.iloadN X11.here hx rfl (hb hby dos_15) rfl k) ?_
  refine own_go (U' := T11.setTop (mkF m 17 #[.val (.ref x), .val (.ref z), .val (.int (6 : Int32)), .val (.int (5 : Int32)), .val (.ref en4)] [(.ref en5)])) (own_aaload X11 hx hZ e11 V_z rfl (j := (5 : Int32)) (by decide) (i := 5) rfl (v := (.ref en5)) rfl (g := (mkF m 16 #[.val (.ref x), .val (.ref z), .val (.int (6 : Int32)), .val (.int (5 : Int32)), .val (.ref en4)] [(.int (5 : Int32)), (.ref z)])) rfl rfl (hb hby dos_16)) ?_
  refine own_go (U' := T11.setTop (mkF m 19 #[.val (.ref x), .val (.ref z), .val (.int (6 : Int32)), .val (.int (5 : Int32)), .val (.ref en5)] [])) (fun t k => XS.astore X11.here hx rfl (hb hby dos_17) rfl rfl (l' := #[.val (.ref x), .val (.ref z), .val (.int (6 : Int32)), .val (.int (5 : Int32)), .val (.ref en5)]) rfl k) ?_
  refine own_go (U' := T11.setTop (mkF m 21 #[.val (.ref x), .val (.ref z), .val (.int (6 : Int32)), .val (.int (5 : Int32)), .val (.ref en5)] [(.ref en5)])) (fun t k => XS.aload X11.here hx rfl (hb hby dos_19) rfl rfl k) ?_
  obtain ⟨T12, X12, e12, st12⟩ := getF X11 hx hZ hown (host := "") (Or.inl (hw _ (List.mem_of_getElem? (i := 51) rfl))) Via.refl e11 (FT5.ext O.2) (g := (mkF m 21 #[.val (.ref x), .val (.ref z), .val (.int (6 : Int32)), .val (.int (5 : Int32)), .val (.ref en5)] [(.ref en5)])) rfl rfl (hb hby dos_21)
  refine own_go (U' := T12.setTop (mkF m 24 #[.val (.ref x), .val (.ref z), .val (.int (6 : Int32)), .val (.int (5 : Int32)), .val (.ref en5)] [(.ref tx5)])) st12 ?_
  refine own_go (U' := T12.setTop (mkF m 25 #[.val (.ref x), .val (.ref z), .val (.int (6 : Int32)), .val (.int (5 : Int32)), .val (.ref en5)] [(.ref x), (.ref tx5)])) (fun t k => XS.aloadN X12.here hx rfl (hb hby dos_24) rfl rfl k) ?_
  obtain ⟨v13, T13, h13, L13, e13, X13, hQ13, st13⟩ := own_callV X12 hx hZ (y := (⟨"java/lang/String", "equals", "(Ljava/lang/Object;)Z"⟩ : MethodName)) (z := (⟨"java/lang/String", "equals", "(Ljava/lang/Object;)Z"⟩ : MethodName)) hown (hw _ (List.mem_of_getElem? (i := 53) rfl)) (hw _ (List.mem_of_getElem? (i := 54) rfl)) (notFace_of_selects (args := #[]) (mvT hZ (hw _ (List.mem_of_getElem? (i := 56) rfl)))) (hw _ (List.mem_of_getElem? (i := 56) rfl)) (hw _ (List.mem_of_getElem? (i := 55) rfl)) (hw _ (List.mem_of_getElem? (i := 7) rfl)) (hw _ (List.mem_of_getElem? (i := 57) rfl)) (by decide) E_t5 (own_rmeq23 l Z a0 hw tx5 x h1 n0 O cs hcs S_cs (73) (78) y0 y1 y2 _ _ _ _ E_t5 (FC5.ext O.2) (FV5.ext O.2) (VB5.ext O.2) E_x F_coder_x F_value_x V_y) (W := 0) (by decide) (by decide) (g := (mkF m 25 #[.val (.ref x), .val (.ref z), .val (.int (6 : Int32)), .val (.int (5 : Int32)), .val (.ref en5)] [(.ref x), (.ref tx5)])) rfl (by rw [hml]; rfl) (argsL := [(.ref x)]) (rest := []) (lenOf own_pd7 rfl) rfl rfl (by show 2 * 0 + _ ≤ _; exact Nat.le_of_eq rfl) (hb hby dos_25) e12 (by decide) (by decide)
  obtain ⟨rfl, rfl, eh13⟩ := hQ13
  have e13 := e13.trans eh13
  rw [List.append_nil] at X13
  refine own_go (U' := T13.setTop (mkF m 28 #[.val (.ref x), .val (.ref z), .val (.int (6 : Int32)), .val (.int (5 : Int32)), .val (.ref en5)] [(.int (0 : Int32))])) st13 ?_
  refine own_go (U' := T13.setTop (mkF m 34 #[.val (.ref x), .val (.ref z), .val (.int (6 : Int32)), .val (.int (5 : Int32)), .val (.ref en5)] [])) (fun t k => XS.ifYes X13.here hx rfl (pc0 := 28) (pc' := 34) rfl (hb hby dos_28) rfl ((if0 _ _).trans (teq (by decide)).1) (by decide) (by decide) k) ?_
  refine own_go (U' := T13.setTop (mkF m 37 #[.val (.ref x), .val (.ref z), .val (.int (6 : Int32)), .val (.int (6 : Int32)), .val (.ref en5)] [])) (fun t k => XS.iinc X13.here hx rfl (hb hby dos_34) rfl (l' := #[.val (.ref x), .val (.ref z), .val (.int (6 : Int32)), .val (.int (6 : Int32)), .val (.ref en5)]) rfl k) ?_
  refine own_go (U' := T13.setTop (mkF m 9 #[.val (.ref x), .val (.ref z), .val (.int (6 : Int32)), .val (.int (6 : Int32)), .val (.ref en5)] [])) (fun t k => XS.goto X13.here hx rfl (pc0 := 37) (pc' := 9) rfl (hb hby dos_37) (by decide) (by decide) k) ?_
  refine own_go (U' := T13.setTop (mkF m 10 #[.val (.ref x), .val (.ref z), .val (.int (6 : Int32)), .val (.int (6 : Int32)), .val (.ref en5)] [(.int (6 : Int32))])) (fun t k => XS.iloadN X13.here hx rfl (hb hby dos_9) rfl k) ?_
  refine own_go (U' := T13.setTop (mkF m 11 #[.val (.ref x), .val (.ref z), .val (.int (6 : Int32)), .val (.int (6 : Int32)), .val (.ref en5)] [(.int (6 : Int32)), (.int (6 : Int32))])) (fun t k => XS.iloadN X13.here hx rfl (hb hby dos_10) rfl k) ?_
  refine own_go (U' := T13.setTop (mkF m 40 #[.val (.ref x), .val (.ref z), .val (.int (6 : Int32)), .val (.int (6 : Int32)), .val (.ref en5)] [])) (fun t k => XS.icmpYes X13.here hx rfl (pc0 := 11) (pc' := 40) rfl (hb hby dos_11) rfl (flt (by decide)).2.1 (by decide) (by decide) k) ?_
  refine own_go (U' := T13.setTop (mkF m 41 #[.val (.ref x), .val (.ref z), .val (.int (6 : Int32)), .val (.int (6 : Int32)), .val (.ref en5)] [.null])) (fun t k => XS.aconstNull X13.here hx rfl (hb hby dos_40) k) ?_
  refine own_retA X13 hx (t := (.object "com/example/pagemark/pagemark/statements/Restriction$Operator")) hret rfl hlk rfl (hb hby dos_41) ?_ (by decide) (by decide)
  rw [e13]
  refine ⟨?_, rfl, K⟩
  rfl
theorem own_ef0 (m : MethodId) (p1 p2 p3 p4 : Int32) : entryFrame m #[(.int p1), (.int p2), (.int p3), (.int p4)] maxLocals = mkF m 0 #[.val (.int p1), .val (.int p2), .val (.int p3), .val (.int p4), .unset, .unset, .unset, .unset, .unset, .unset, .unset, .unset, .unset, .unset, .unset] [] := by first | (simp [entryFrame, mkF, argsToLocals, Value.category, maxLocals]; done) | rfl
set_option maxRecDepth 65536 in
set_option maxHeartbeats 40000000 in
theorem own_rm0 (l : Launch) (Z : State) (a0 : Array Value) (hw : ∀ d ∈ tables_1, d.before a0 Z = true) (ws : List Jvm.Cond) (p1 p2 p3 p4 : Int32) (h0 : Heap) (n0 : Nat) (en0 en1 en2 en3 en4 en5 : Addr) (O : Old Z n0 h0) (vv : Addr) (kv : ClassId) (S_v : Sta Z Z.heap "com/example/pagemark/pagemark/statements/Restriction$Operator" "$VALUES" "[Lcom/example/pagemark/pagemark/statements/Restriction$Operator;" (.ref vv)) (V_v : own_Ar Z Z.heap vv kv (.object "com/example/pagemark/pagemark/statements/Restriction$Operator") [(.ref en0), (.ref en1), (.ref en2), (.ref en3), (.ref en4), (.ref en5)]) (E_v : Exa Z Z.heap vv "[Lcom/example/pagemark/pagemark/statements/Restriction$Operator;") (tx0 tx1 tx2 tx3 tx4 tx5 bx0 bx1 bx2 bx3 bx4 bx5 : Addr) (kx0 kx1 kx2 kx3 kx4 kx5 : ClassId) (FT0 : Fld Z Z.heap en0 "com/example/pagemark/pagemark/statements/Restriction$Operator" "text" "Ljava/lang/String;" (.ref tx0)) (ET0 : Exa Z Z.heap tx0 "java/lang/String") (FC0 : Fld Z Z.heap tx0 "java/lang/String" "coder" "B" (.int 0)) (FV0 : Fld Z Z.heap tx0 "java/lang/String" "value" "[B" (.ref bx0)) (VB0 : own_Ar Z Z.heap bx0 kx0 .byte [.int (61 : Int32)]) (FT1 : Fld Z Z.heap en1 "com/example/pagemark/pagemark/statements/Restriction$Operator" "text" "Ljava/lang/String;" (.ref tx1)) (ET1 : Exa Z Z.heap tx1 "java/lang/String") (FC1 : Fld Z Z.heap tx1 "java/lang/String" "coder" "B" (.int 0)) (FV1 : Fld Z Z.heap tx1 "java/lang/String" "value" "[B" (.ref bx1)) (VB1 : own_Ar Z Z.heap bx1 kx1 .byte [.int (60 : Int32)]) (FT2 : Fld Z Z.heap en2 "com/example/pagemark/pagemark/statements/Restriction$Operator" "text" "Ljava/lang/String;" (.ref tx2)) (ET2 : Exa Z Z.heap tx2 "java/lang/String") (FC2 : Fld Z Z.heap tx2 "java/lang/String" "coder" "B" (.int 0)) (FV2 : Fld Z Z.heap tx2 "java/lang/String" "value" "[B" (.ref bx2)) (VB2 : own_Ar Z Z.heap bx2 kx2 .byte [.int (60 : Int32), .int (61 : Int32)]) (FT3 : Fld Z Z.heap en3 "com/example/pagemark/pagemark/statements/Restriction$Operator" "text" "Ljava/lang/String;" (.ref tx3)) (ET3 : Exa Z Z.heap tx3 "java/lang/String") (FC3 : Fld Z Z.heap tx3 "java/lang/String" "coder" "B" (.int 0)) (FV3 : Fld Z Z.heap tx3 "java/lang/String" "value" "[B" (.ref bx3)) (VB3 : own_Ar Z Z.heap bx3 kx3 .byte [.int (62 : Int32)]) (FT4 : Fld Z Z.heap en4 "com/example/pagemark/pagemark/statements/Restriction$Operator" "text" "Ljava/lang/String;" (.ref tx4)) (ET4 : Exa Z Z.heap tx4 "java/lang/String") (FC4 : Fld Z Z.heap tx4 "java/lang/String" "coder" "B" (.int 0)) (FV4 : Fld Z Z.heap tx4 "java/lang/String" "value" "[B" (.ref bx4)) (VB4 : own_Ar Z Z.heap bx4 kx4 .byte [.int (62 : Int32), .int (61 : Int32)]) (FT5 : Fld Z Z.heap en5 "com/example/pagemark/pagemark/statements/Restriction$Operator" "text" "Ljava/lang/String;" (.ref tx5)) (ET5 : Exa Z Z.heap tx5 "java/lang/String") (FC5 : Fld Z Z.heap tx5 "java/lang/String" "coder" "B" (.int 0)) (FV5 : Fld Z Z.heap tx5 "java/lang/String" "value" "[B" (.ref bx5)) (VB5 : own_Ar Z Z.heap bx5 kx5 .byte [.int (73 : Int32), .int (78 : Int32)]) (S0 : Sta Z Z.heap "com/example/pagemark/pagemark/statements/Restriction$Operator" "EQUAL" "Lcom/example/pagemark/pagemark/statements/Restriction$Operator;" (.ref en0)) (S1 : Sta Z Z.heap "com/example/pagemark/pagemark/statements/Restriction$Operator" "LESS" "Lcom/example/pagemark/pagemark/statements/Restriction$Operator;" (.ref en1)) (S2 : Sta Z Z.heap "com/example/pagemark/pagemark/statements/Restriction$Operator" "LESS_OR_EQUAL" "Lcom/example/pagemark/pagemark/statements/Restriction$Operator;" (.ref en2)) (S3 : Sta Z Z.heap "com/example/pagemark/pagemark/statements/Restriction$Operator" "GREATER" "Lcom/example/pagemark/pagemark/statements/Restriction$Operator;" (.ref en3)) (S4 : Sta Z Z.heap "com/example/pagemark/pagemark/statements/Restriction$Operator" "GREATER_OR_EQUAL" "Lcom/example/pagemark/pagemark/statements/Restriction$Operator;" (.ref en4)) (S5 : Sta Z Z.heap "com/example/pagemark/pagemark/statements/Restriction$Operator" "IN" "Lcom/example/pagemark/pagemark/statements/Restriction$Operator;" (.ref en5)) (cs : Int32) (hcs : cs ≠ 0) (S_cs : Sta Z Z.heap "java/lang/String" "COMPACT_STRINGS" "Z" (.int cs)) (hhE : Jvm.Lit.constHeld Z "java/lang/String" 7) (hcw : Jvm.Lit.compactW.before a0 Z = true) :
    own_CW l Z x code maxLocals ret ws room_1 #[(.int p1), (.int p2), (.int p3), (.int p4)] h0 [] (fun v h L Ts' => v = some (.int 1) ∧ Fr n0 L) := by
  refine own_bodyW (plainFor_of_name own_pn3) fun p e s m below meth c s₁ hx hby hml hret hlk hown hnm hZ X0 e0 hs0 Sn I => ?_
  rw [own_ef0 m p1 p2 p3 p4]
  have hml : c.maxLocals = 15 := hml
  have hret : meth.sig.returnType = some .boolean := hret
  have N0 := Fr.nil n0
  refine own_goW (U' := s₁.setTop (mkF m 1 #[.val (.int p1), .val (.int p2), .val (.int p3), .val (.int p4), .unset, .unset, .unset, .unset, .unset, .unset, .unset, .unset, .unset, .unset, .unset] [(.int p1)])) (fun t k => XS.iloadN X0.here hx rfl (hb hby at_0) rfl k) ?_
  refine own_goW (U' := s₁.setTop (mkF m 2 #[.val (.int p1), .val (.int p2), .val (.int p3), .val (.int p4), .unset, .unset, .unset, .unset, .unset, .unset, .unset, .unset, .unset, .unset, .unset] [(.int (3 : Int32)), (.int p1)])) (fun t k => XS.iconst X0.here hx rfl (hb hby at_1) k) ?_
  refine own_goW (U' := s₁.setTop (mkF m 3 #[.val (.int p1), .val (.int p2), .val (.int p3), .val (.int p4), .unset, .unset, .unset, .unset, .unset, .unset, .unset, .unset, .unset, .unset, .unset] [(.int (p1 &&& (3 : Int32)))])) (fun t k => XS.iand X0.here hx rfl (hb hby at_2) rfl k) ?_
  generalize hv_ln : (p1 &&& (3 : Int32)) = ln
  refine own_goW (U' := s₁.setTop (mkF m 5 #[.val (.int p1), .val (.int p2), .val (.int p3), .val (.int p4), .val (.int ln), .unset, .unset, .unset, .unset, .unset, .unset, .unset, .unset, .unset, .unset] [])) (fun t k => XS.istore X0.here hx rfl (hb hby at_3) rfl (l' := #[.val (.int p1), .val (.int p2), .val (.int p3), .val (.int p4), .val (.int ln), .unset, .unset, .unset, .unset, .unset, .unset, .unset, .unset, .unset, .unset]) rfl k) ?_
  refine own_goW (U' := s₁.setTop (mkF m 6 #[.val (.int p1), .val (.int p2), .val (.int p3), .val (.int p4), .val (.int ln), .unset, .unset, .unset, .unset, .unset, .unset, .unset, .unset, .unset, .unset] [(.int p1)])) (fun t k => XS.iloadN X0.here hx rfl (hb hby at_5) rfl k) ?_
  refine own_goW (U' := s₁.setTop (mkF m 8 #[.val (.int p1), .val (.int p2), .val (.int p3), .val (.int p4), .val (.int ln), .unset, .unset, .unset, .unset, .unset, .unset, .unset, .unset, .unset, .unset] [(.int (15 : Int32)), (.int p1)])) (fun t k => XS.bipush X0.here hx rfl (hb hby at_6) k) ?_
  refine own_goW (U' := s₁.setTop (mkF m 9 #[.val (.int p1), .val (.int p2), .val (.int p3), .val (.int p4), .val (.int ln), .unset, .unset, .unset, .unset, .unset, .unset, .unset, .unset, .unset, .unset] [(.int (p1 &&& (15 : Int32)))])) (fun t k => XS.iand X0.here hx rfl (hb hby at_8) rfl k) ?_
  refine own_goW (U' := s₁.setTop (mkF m 11 #[.val (.int p1), .val (.int p2), .val (.int p3), .val (.int p4), .val (.int ln), .unset, .unset, .unset, .unset, .unset, .unset, .unset, .unset, .unset, .unset] [(.int (15 : Int32)), (.int (p1 &&& (15 : Int32)))])) (fun t k => XS.bipush X0.here hx rfl (hb hby at_9) k) ?_
  refine own_goW (U' := s₁.setTop (mkF m 19 #[.val (.int p1), .val (.int p2), .val (.int p3), .val (.int p4), .val (.int ln), .unset, .unset, .unset, .unset, .unset, .unset, .unset, .unset, .unset, .unset] [(.int (if (p1 &&& (15 : Int32)) = (15 : Int32) then (1 : Int32) else (0 : Int32)))])) (fun t k => ?_) ?_
  · show Steps p.tables e below (s₁.setTop (mkF m 11 #[.val (.int p1), .val (.int p2), .val (.int p3), .val (.int p4), .val (.int ln), .unset, .unset, .unset, .unset, .unset, .unset, .unset, .unset, .unset, .unset] [(.int (15 : Int32)), (.int (p1 &&& (15 : Int32)))])) _
    by_cases hd11 : (p1 &&& (15 : Int32)) = (15 : Int32)
    · simp only [if_pos hd11] at k
      refine XS.icmpNo X0.here hx rfl (hb hby at_11) rfl (teq hd11).2 ?_
      show Steps p.tables e below (s₁.setTop (mkF m 14 #[.val (.int p1), .val (.int p2), .val (.int p3), .val (.int p4), .val (.int ln), .unset, .unset, .unset, .unset, .unset, .unset, .unset, .unset, .unset, .unset] [])) _
      refine XS.iconst X0.here hx rfl (hb hby at_14) ?_
      show Steps p.tables e below (s₁.setTop (mkF m 15 #[.val (.int p1), .val (.int p2), .val (.int p3), .val (.int p4), .val (.int ln), .unset, .unset, .unset, .unset, .unset, .unset, .unset, .unset, .unset, .unset] [(.int (1 : Int32))])) _
      refine XS.goto X0.here hx rfl (pc0 := 15) (pc' := 19) rfl (hb hby at_15) (by decide) (by decide) ?_
      show Steps p.tables e below (s₁.setTop (mkF m 19 #[.val (.int p1), .val (.int p2), .val (.int p3), .val (.int p4), .val (.int ln), .unset, .unset, .unset, .unset, .unset, .unset, .unset, .unset, .unset, .unset] [(.int (1 : Int32))])) _
      exact k
    · simp only [if_neg hd11] at k
      refine XS.icmpYes X0.here hx rfl (pc0 := 11) (pc' := 18) rfl (hb hby at_11) rfl (feq hd11).2 (by decide) (by decide) ?_
      show Steps p.tables e below (s₁.setTop (mkF m 18 #[.val (.int p1), .val (.int p2), .val (.int p3), .val (.int p4), .val (.int ln), .unset, .unset, .unset, .unset, .unset, .unset, .unset, .unset, .unset, .unset] [])) _
      refine XS.iconst X0.here hx rfl (hb hby at_18) ?_
      show Steps p.tables e below (s₁.setTop (mkF m 19 #[.val (.int p1), .val (.int p2), .val (.int p3), .val (.int p4), .val (.int ln), .unset, .unset, .unset, .unset, .unset, .unset, .unset, .unset, .unset, .unset] [(.int (0 : Int32))])) _
      exact k
  generalize hv_nl : (if (p1 &&& (15 : Int32)) = (15 : Int32) then (1 : Int32) else (0 : Int32)) = nl
  refine own_goW (U' := s₁.setTop (mkF m 21 #[.val (.int p1), .val (.int p2), .val (.int p3), .val (.int p4), .val (.int ln), .val (.int nl), .unset, .unset, .unset, .unset, .unset, .unset, .unset, .unset, .unset] [])) (fun t k => XS.istore X0.here hx rfl (hb hby at_19) rfl (l' := #[.val (.int p1), .val (.int p2), .val (.int p3), .val (.int p4), .val (.int ln), .val (.int nl), .unset, .unset, .unset, .unset, .unset, .unset, .unset, .unset, .unset]) rfl k) ?_
  refine own_goW (U' := s₁.setTop (mkF m 22 #[.val (.int p1), .val (.int p2), .val (.int p3), .val (.int p4), .val (.int ln), .val (.int nl), .unset, .unset, .unset, .unset, .unset, .unset, .unset, .unset, .unset] [(.int p2)])) (fun t k => XS.iloadN X0.here hx rfl (hb hby at_21) rfl k) ?_
  obtain ⟨v1, T1, h1, L1, e1, X1, hQ1, st1⟩ := own_callS X0 hx hZ (y := (⟨"com/example/pagemark/pagemark/statements/OperatorOfSymbolPinLaw", "pick", "(I)C"⟩ : MethodName)) hown (hw _ (List.mem_of_getElem? (i := 0) rfl)) (hw _ (List.mem_of_getElem? (i := 1) rfl)) (hw _ (List.mem_of_getElem? (i := 2) rfl)) (hw _ (List.mem_of_getElem? (i := 3) rfl)) (by decide) (own_rmpk l Z a0 hw p2 h0) (W := 0) (by decide) (by decide) (g := (mkF m 22 #[.val (.int p1), .val (.int p2), .val (.int p3), .val (.int p4), .val (.int ln), .val (.int nl), .unset, .unset, .unset, .unset, .unset, .unset, .unset, .unset, .unset] [(.int p2)])) rfl (by rw [hml]; rfl) (argsL := [(.int p2)]) (rest := []) (lenOf own_pd8 rfl) rfl rfl (by show 2 * 0 + _ ≤ _; exact Nat.le_of_eq rfl) (hb hby at_22) e0 (by decide) (by decide)
  obtain ⟨c0', rfl, ha0, hb0, rfl, eh1⟩ := hQ1
  have e1 := e1.trans eh1
  rw [List.append_nil] at X1
  refine own_goW (U' := T1.setTop (mkF m 25 #[.val (.int p1), .val (.int p2), .val (.int p3), .val (.int p4), .val (.int ln), .val (.int nl), .unset, .unset, .unset, .unset, .unset, .unset, .unset, .unset, .unset] [(.int c0')])) st1 ?_
  refine own_goW (U' := T1.setTop (mkF m 27 #[.val (.int p1), .val (.int p2), .val (.int p3), .val (.int p4), .val (.int ln), .val (.int nl), .val (.int c0'), .unset, .unset, .unset, .unset, .unset, .unset, .unset, .unset] [])) (fun t k => XS.istore X1.here hx rfl (hb hby at_25) rfl (l' := #[.val (.int p1), .val (.int p2), .val (.int p3), .val (.int p4), .val (.int ln), .val (.int nl), .val (.int c0'), .unset, .unset, .unset, .unset, .unset, .unset, .unset, .unset]) rfl k) ?_
  refine own_goW (U' := T1.setTop (mkF m 28 #[.val (.int p1), .val (.int p2), .val (.int p3), .val (.int p4), .val (.int ln), .val (.int nl), .val (.int c0'), .unset, .unset, .unset, .unset, .unset, .unset, .unset, .unset] [(.int p3)])) (fun t k => XS.iloadN X1.here hx rfl (hb hby at_27) rfl k) ?_
  obtain ⟨v2, T2, h2, L2, e2, X2, hQ2, st2⟩ := own_callS X1 hx hZ (y := (⟨"com/example/pagemark/pagemark/statements/OperatorOfSymbolPinLaw", "pick", "(I)C"⟩ : MethodName)) hown (hw _ (List.mem_of_getElem? (i := 0) rfl)) (hw _ (List.mem_of_getElem? (i := 1) rfl)) (hw _ (List.mem_of_getElem? (i := 2) rfl)) (hw _ (List.mem_of_getElem? (i := 3) rfl)) (by decide) (own_rmpk l Z a0 hw p3 h0) (W := 0) (by decide) (by decide) (g := (mkF m 28 #[.val (.int p1), .val (.int p2), .val (.int p3), .val (.int p4), .val (.int ln), .val (.int nl), .val (.int c0'), .unset, .unset, .unset, .unset, .unset, .unset, .unset, .unset] [(.int p3)])) rfl (by rw [hml]; rfl) (argsL := [(.int p3)]) (rest := []) (lenOf own_pd8 rfl) rfl rfl (by show 2 * 0 + _ ≤ _; exact Nat.le_of_eq rfl) (hb hby at_28) e1 (by decide) (by decide)
  obtain ⟨c1', rfl, ha1, hb1, rfl, eh2⟩ := hQ2
  have e2 := e2.trans eh2
  rw [List.append_nil] at X2
  refine own_goW (U' := T2.setTop (mkF m 31 #[.val (.int p1), .val (.int p2), .val (.int p3), .val (.int p4), .val (.int ln), .val (.int nl), .val (.int c0'), .unset, .unset, .unset, .unset, .unset, .unset, .unset, .unset] [(.int c1')])) st2 ?_
  refine own_goW (U' := T2.setTop (mkF m 33 #[.val (.int p1), .val (.int p2), .val (.int p3), .val (.int p4), .val (.int ln), .val (.int nl), .val (.int c0'), .val (.int c1'), .unset, .unset, .unset, .unset, .unset, .unset, .unset] [])) (fun t k => XS.istore X2.here hx rfl (hb hby at_31) rfl (l' := #[.val (.int p1), .val (.int p2), .val (.int p3), .val (.int p4), .val (.int ln), .val (.int nl), .val (.int c0'), .val (.int c1'), .unset, .unset, .unset, .unset, .unset, .unset, .unset]) rfl k) ?_
  refine own_goW (U' := T2.setTop (mkF m 34 #[.val (.int p1), .val (.int p2), .val (.int p3), .val (.int p4), .val (.int ln), .val (.int nl), .val (.int c0'), .val (.int c1'), .unset, .unset, .unset, .unset, .unset, .unset, .unset] [(.int p4)])) (fun t k => XS.iloadN X2.here hx rfl (hb hby at_33) rfl k) ?_
  obtain ⟨v3, T3, h3, L3, e3, X3, hQ3, st3⟩ := own_callS X2 hx hZ (y := (⟨"com/example/pagemark/pagemark/statements/OperatorOfSymbolPinLaw", "pick", "(I)C"⟩ : MethodName)) hown (hw _ (List.mem_of_getElem? (i := 0) rfl)) (hw _ (List.mem_of_getElem? (i := 1) rfl)) (hw _ (List.mem_of_getElem? (i := 2) rfl)) (hw _ (List.mem_of_getElem? (i := 3) rfl)) (by decide) (own_rmpk l Z a0 hw p4 h0) (W := 0) (by decide) (by decide) (g := (mkF m 34 #[.val (.int p1), .val (.int p2), .val (.int p3), .val (.int p4), .val (.int ln), .val (.int nl), .val (.int c0'), .val (.int c1'), .unset, .unset, .unset, .unset, .unset, .unset, .unset] [(.int p4)])) rfl (by rw [hml]; rfl) (argsL := [(.int p4)]) (rest := []) (lenOf own_pd8 rfl) rfl rfl (by show 2 * 0 + _ ≤ _; exact Nat.le_of_eq rfl) (hb hby at_34) e2 (by decide) (by decide)
  obtain ⟨c2', rfl, ha2, hb2, rfl, eh3⟩ := hQ3
  have e3 := e3.trans eh3
  rw [List.append_nil] at X3
  refine own_goW (U' := T3.setTop (mkF m 37 #[.val (.int p1), .val (.int p2), .val (.int p3), .val (.int p4), .val (.int ln), .val (.int nl), .val (.int c0'), .val (.int c1'), .unset, .unset, .unset, .unset, .unset, .unset, .unset] [(.int c2')])) st3 ?_
  refine own_goW (U' := T3.setTop (mkF m 39 #[.val (.int p1), .val (.int p2), .val (.int p3), .val (.int p4), .val (.int ln), .val (.int nl), .val (.int c0'), .val (.int c1'), .val (.int c2'), .unset, .unset, .unset, .unset, .unset, .unset] [])) (fun t k => XS.istore X3.here hx rfl (hb hby at_37) rfl (l' := #[.val (.int p1), .val (.int p2), .val (.int p3), .val (.int p4), .val (.int ln), .val (.int nl), .val (.int c0'), .val (.int c1'), .val (.int c2'), .unset, .unset, .unset, .unset, .unset, .unset]) rfl k) ?_
  refine own_goW (U' := T3.setTop (mkF m 40 #[.val (.int p1), .val (.int p2), .val (.int p3), .val (.int p4), .val (.int ln), .val (.int nl), .val (.int c0'), .val (.int c1'), .val (.int c2'), .unset, .unset, .unset, .unset, .unset, .unset] [(.int (0 : Int32))])) (fun t k => XS.iconst X3.here hx rfl (hb hby at_39) k) ?_
  obtain ⟨T4, h4, k4, X4, e4, E4, A4, Y4, st4⟩ := own_newarr X3 hx hZ (hw _ (List.mem_of_getElem? (i := 4) rfl)) e3 (g := (mkF m 40 #[.val (.int p1), .val (.int p2), .val (.int p3), .val (.int p4), .val (.int ln), .val (.int nl), .val (.int c0'), .val (.int c1'), .val (.int c2'), .unset, .unset, .unset, .unset, .unset, .unset] [(.int (0 : Int32))])) rfl (hb hby at_40) rfl (by decide) (cap := 0) (by decide) (by decide) (by decide) (by decide) (ad := "[C") (by decide) rfl (vs := []) rfl
  obtain ⟨b4, g4⟩ : ∃ z, z = h0.size := ⟨_, rfl⟩
  rw [← g4] at A4 Y4 st4
  have g_b4 : n0 ≤ b4 := Nat.le_trans (Nat.le_trans (Nat.le_of_eq O.1.symm) O.2.1) (Nat.le_of_eq g4.symm)
  have Sn := Sn.ext E4
  have O := O.ext E4
  have V_b4 : own_Ar Z h4 b4 k4 .char [] := A4
  have E_b4 := Y4
  refine own_goW (U' := T4.setTop (mkF m 42 #[.val (.int p1), .val (.int p2), .val (.int p3), .val (.int p4), .val (.int ln), .val (.int nl), .val (.int c0'), .val (.int c1'), .val (.int c2'), .unset, .unset, .unset, .unset, .unset, .unset] [(.ref b4)])) st4 ?_
  refine own_goW (U' := T4.setTop (mkF m 44 #[.val (.int p1), .val (.int p2), .val (.int p3), .val (.int p4), .val (.int ln), .val (.int nl), .val (.int c0'), .val (.int c1'), .val (.int c2'), .val (.ref b4), .unset, .unset, .unset, .unset, .unset] [])) (fun t k => XS.astore X4.here hx rfl (hb hby at_42) rfl rfl (l' := #[.val (.int p1), .val (.int p2), .val (.int p3), .val (.int p4), .val (.int ln), .val (.int nl), .val (.int c0'), .val (.int c1'), .val (.int c2'), .val (.ref b4), .unset, .unset, .unset, .unset, .unset]) rfl k) ?_
  refine own_goW (U' := T4.setTop (mkF m 45 #[.val (.int p1), .val (.int p2), .val (.int p3), .val (.int p4), .val (.int ln), .val (.int nl), .val (.int c0'), .val (.int c1'), .val (.int c2'), .val (.ref b4), .unset, .unset, .unset, .unset, .unset] [(.int (1 : Int32))])) (fun t k => XS.iconst X4.here hx rfl (hb hby at_44) k) ?_
  obtain ⟨T5, h5, k5, X5, e5, E5, A5, Y5, st5⟩ := own_newarr X4 hx hZ (hw _ (List.mem_of_getElem? (i := 4) rfl)) e4 (g := (mkF m 45 #[.val (.int p1), .val (.int p2), .val (.int p3), .val (.int p4), .val (.int ln), .val (.int nl), .val (.int c0'), .val (.int c1'), .val (.int c2'), .val (.ref b4), .unset, .unset, .unset, .unset, .unset] [(.int (1 : Int32))])) rfl (hb hby at_45) rfl (by decide) (cap := 1) (by decide) (by decide) (by decide) (by decide) (ad := "[C") (by decide) rfl (vs := [(.int (0 : Int32))]) rfl
  obtain ⟨b5, g5⟩ : ∃ z, z = h4.size := ⟨_, rfl⟩
  rw [← g5] at A5 Y5 st5
  have ne_b4_b5 : b4 ≠ b5 := Nat.ne_of_lt (Nat.lt_of_lt_of_eq V_b4.lt g5.symm)
  have g_b5 : n0 ≤ b5 := Nat.le_trans (Nat.le_trans (Nat.le_of_eq O.1.symm) O.2.1) (Nat.le_of_eq g5.symm)
  have Sn := Sn.ext E5
  have O := O.ext E5
  have V_b4 := V_b4.ext E5
  have E_b4 := E_b4.ext E5
  have V_b5 : own_Ar Z h5 b5 k5 .char [(.int (0 : Int32))] := A5
  have E_b5 := Y5
  refine own_goW (U' := T5.setTop (mkF m 47 #[.val (.int p1), .val (.int p2), .val (.int p3), .val (.int p4), .val (.int ln), .val (.int nl), .val (.int c0'), .val (.int c1'), .val (.int c2'), .val (.ref b4), .unset, .unset, .unset, .unset, .unset] [(.ref b5)])) st5 ?_
  refine own_goW (U' := T5.setTop (mkF m 48 #[.val (.int p1), .val (.int p2), .val (.int p3), .val (.int p4), .val (.int ln), .val (.int nl), .val (.int c0'), .val (.int c1'), .val (.int c2'), .val (.ref b4), .unset, .unset, .unset, .unset, .unset] [(.ref b5), (.ref b5)])) (fun t k => XS.dup X5.here hx rfl (hb hby at_47) rfl rfl k) ?_
  refine own_goW (U' := T5.setTop (mkF m 49 #[.val (.int p1), .val (.int p2), .val (.int p3), .val (.int p4), .val (.int ln), .val (.int nl), .val (.int c0'), .val (.int c1'), .val (.int c2'), .val (.ref b4), .unset, .unset, .unset, .unset, .unset] [(.int (0 : Int32)), (.ref b5), (.ref b5)])) (fun t k => XS.iconst X5.here hx rfl (hb hby at_48) k) ?_
  refine own_goW (U' := T5.setTop (mkF m 51 #[.val (.int p1), .val (.int p2), .val (.int p3), .val (.int p4), .val (.int ln), .val (.int nl), .val (.int c0'), .val (.int c1'), .val (.int c2'), .val (.ref b4), .unset, .unset, .unset, .unset, .unset] [(.int c0'), (.int (0 : Int32)), (.ref b5), (.ref b5)])) (fun t k => XS.iload X5.here hx rfl (hb hby at_49) rfl k) ?_
  obtain ⟨T6, h6, X6, e6, W6, A6, st6⟩ := own_castore X5 hx hZ e5 V_b5 (j := (0 : Int32)) (by decide) (i := 0) rfl (Nat.le_of_ble_eq_true rfl) (g := (mkF m 51 #[.val (.int p1), .val (.int p2), .val (.int p3), .val (.int p4), .val (.int ln), .val (.int nl), .val (.int c0'), .val (.int c1'), .val (.int c2'), .val (.ref b4), .unset, .unset, .unset, .unset, .unset] [(.int c0'), (.int (0 : Int32)), (.ref b5), (.ref b5)])) rfl rfl (hb hby at_51)
  have Sn := Sn.wr W6
  have O := O.wr W6 g_b5
  have V_b4 := V_b4.other W6 ne_b4_b5
  have E_b4 := E_b4.wr W6
  have E_b5 := E_b5.wr W6
  have V_b5 : own_Ar Z h6 b5 k5 .char [(.int (nar .char c0'))] := A6
  have N6 := Fr.snoc X6 N0 g_b5
  refine own_goW (U' := T6.setTop (mkF m 52 #[.val (.int p1), .val (.int p2), .val (.int p3), .val (.int p4), .val (.int ln), .val (.int nl), .val (.int c0'), .val (.int c1'), .val (.int c2'), .val (.ref b4), .unset, .unset, .unset, .unset, .unset] [(.ref b5)])) st6 ?_
  rw [own_narC ha0 hb0] at V_b5
  refine own_goW (U' := T6.setTop (mkF m 54 #[.val (.int p1), .val (.int p2), .val (.int p3), .val (.int p4), .val (.int ln), .val (.int nl), .val (.int c0'), .val (.int c1'), .val (.int c2'), .val (.ref b4), .val (.ref b5), .unset, .unset, .unset, .unset] [])) (fun t k => XS.astore X6.here hx rfl (hb hby at_52) rfl rfl (l' := #[.val (.int p1), .val (.int p2), .val (.int p3), .val (.int p4), .val (.int ln), .val (.int nl), .val (.int c0'), .val (.int c1'), .val (.int c2'), .val (.ref b4), .val (.ref b5), .unset, .unset, .unset, .unset]) rfl k) ?_
  refine own_goW (U' := T6.setTop (mkF m 55 #[.val (.int p1), .val (.int p2), .val (.int p3), .val (.int p4), .val (.int ln), .val (.int nl), .val (.int c0'), .val (.int c1'), .val (.int c2'), .val (.ref b4), .val (.ref b5), .unset, .unset, .unset, .unset] [(.int (2 : Int32))])) (fun t k => XS.iconst X6.here hx rfl (hb hby at_54) k) ?_
  obtain ⟨T7, h7, k7, X7, e7, E7, A7, Y7, st7⟩ := own_newarr X6 hx hZ (hw _ (List.mem_of_getElem? (i := 4) rfl)) e6 (g := (mkF m 55 #[.val (.int p1), .val (.int p2), .val (.int p3), .val (.int p4), .val (.int ln), .val (.int nl), .val (.int c0'), .val (.int c1'), .val (.int c2'), .val (.ref b4), .val (.ref b5), .unset, .unset, .unset, .unset] [(.int (2 : Int32))])) rfl (hb hby at_55) rfl (by decide) (cap := 2) (by decide) (by decide) (by decide) (by decide) (ad := "[C") (by decide) rfl (vs := [(.int (0 : Int32)), (.int (0 : Int32))]) rfl
  obtain ⟨b7, g7⟩ : ∃ z, z = h6.size := ⟨_, rfl⟩
  rw [← g7] at A7 Y7 st7
  have ne_b4_b7 : b4 ≠ b7 := Nat.ne_of_lt (Nat.lt_of_lt_of_eq V_b4.lt g7.symm)
  have ne_b5_b7 : b5 ≠ b7 := Nat.ne_of_lt (Nat.lt_of_lt_of_eq V_b5.lt g7.symm)
  have g_b7 : n0 ≤ b7 := Nat.le_trans (Nat.le_trans (Nat.le_of_eq O.1.symm) O.2.1) (Nat.le_of_eq g7.symm)
  have Sn := Sn.ext E7
  have O := O.ext E7
  have V_b4 := V_b4.ext E7
  have E_b4 := E_b4.ext E7
  have V_b5 := V_b5.ext E7
  have E_b5 := E_b5.ext E7
  have V_b7 : own_Ar Z h7 b7 k7 .char [(.int (0 : Int32)), (.int (0 : Int32))] := A7
  have E_b7 := Y7
  refine own_goW (U' := T7.setTop (mkF m 57 #[.val (.int p1), .val (.int p2), .val (.int p3), .val (.int p4), .val (.int ln), .val (.int nl), .val (.int c0'), .val (.int c1'), .val (.int c2'), .val (.ref b4), .val (.ref b5), .unset, .unset, .unset, .unset] [(.ref b7)])) st7 ?_
  refine own_goW (U' := T7.setTop (mkF m 58 #[.val (.int p1), .val (.int p2), .val (.int p3), .val (.int p4), .val (.int ln), .val (.int nl), .val (.int c0'), .val (.int c1'), .val (.int c2'), .val (.ref b4), .val (.ref b5), .unset, .unset, .unset, .unset] [(.ref b7), (.ref b7)])) (fun t k => XS.dup X7.here hx rfl (hb hby at_57) rfl rfl k) ?_
  refine own_goW (U' := T7.setTop (mkF m 59 #[.val (.int p1), .val (.int p2), .val (.int p3), .val (.int p4), .val (.int ln), .val (.int nl), .val (.int c0'), .val (.int c1'), .val (.int c2'), .val (.ref b4), .val (.ref b5), .unset, .unset, .unset, .unset] [(.int (0 : Int32)), (.ref b7), (.ref b7)])) (fun t k => XS.iconst X7.here hx rfl (hb hby at_58) k) ?_
  refine own_goW (U' := T7.setTop (mkF m 61 #[.val (.int p1), .val (.int p2), .val (.int p3), .val (.int p4), .val (.int ln), .val (.int nl), .val (.int c0'), .val (.int c1'), .val (.int c2'), .val (.ref b4), .val (.ref b5), .unset, .unset, .unset, .unset] [(.int c0'), (.int (0 : Int32)), (.ref b7), (.ref b7)])) (fun t k => XS.iload X7.here hx rfl (hb hby at_59) rfl k) ?_
  obtain ⟨T8, h8, X8, e8, W8, A8, st8⟩ := own_castore X7 hx hZ e7 V_b7 (j := (0 : Int32)) (by decide) (i := 0) rfl (Nat.le_of_ble_eq_true rfl) (g := (mkF m 61 #[.val (.int p1), .val (.int p2), .val (.int p3), .val (.int p4), .val (.int ln), .val (.int nl), .val (.int c0'), .val (.int c1'), .val (.int c2'), .val (.ref b4), .val (.ref b5), .unset, .unset, .unset, .unset] [(.int c0'), (.int (0 : Int32)), (.ref b7), (.ref b7)])) rfl rfl (hb hby at_61)
  have Sn := Sn.wr W8
  have O := O.wr W8 g_b7
  have V_b4 := V_b4.other W8 ne_b4_b7
  have E_b4 := E_b4.wr W8
  have V_b5 := V_b5.other W8 ne_b5_b7
  have E_b5 := E_b5.wr W8
  have E_b7 := E_b7.wr W8
  have V_b7 : own_Ar Z h8 b7 k7 .char [(.int (nar .char c0')), (.int (0 : Int32))] := A8
  have N8 := Fr.snoc X8 N6 g_b7
  refine own_goW (U' := T8.setTop (mkF m 62 #[.val (.int p1), .val (.int p2), .val (.int p3), .val (.int p4), .val (.int ln), .val (.int nl), .val (.int c0'), .val (.int c1'), .val (.int c2'), .val (.ref b4), .val (.ref b5), .unset, .unset, .unset, .unset] [(.ref b7)])) st8 ?_
  rw [own_narC ha0 hb0] at V_b7
  refine own_goW (U' := T8.setTop (mkF m 63 #[.val (.int p1), .val (.int p2), .val (.int p3), .val (.int p4), .val (.int ln), .val (.int nl), .val (.int c0'), .val (.int c1'), .val (.int c2'), .val (.ref b4), .val (.ref b5), .unset, .unset, .unset, .unset] [(.ref b7), (.ref b7)])) (fun t k => XS.dup X8.here hx rfl (hb hby at_62) rfl rfl k) ?_
  refine own_goW (U' := T8.setTop (mkF m 64 #[.val (.int p1), .val (.int p2), .val (.int p3), .val (.int p4), .val (.int ln), .val (.int nl), .val (.int c0'), .val (.int c1'), .val (.int c2'), .val (.ref b4), .val (.ref b5), .unset, .unset, .unset, .unset] [(.int (1 : Int32)), (.ref b7), (.ref b7)])) (fun t k => XS.iconst X8.here hx rfl (hb hby at_63) k) ?_
  refine own_goW (U' := T8.setTop (mkF m 66 #[.val (.int p1), .val (.int p2), .val (.int p3), .val (.int p4), .val (.int ln), .val (.int nl), .val (.int c0'), .val (.int c1'), .val (.int c2'), .val (.ref b4), .val (.ref b5), .unset, .unset, .unset, .unset] [(.int c1'), (.int (1 : Int32)), (.ref b7), (.ref b7)])) (fun t k => XS.iload X8.here hx rfl (hb hby at_64) rfl k) ?_
  obtain ⟨T9, h9, X9, e9, W9, A9, st9⟩ := own_castore X8 hx hZ e8 V_b7 (j := (1 : Int32)) (by decide) (i := 1) rfl (Nat.le_of_ble_eq_true rfl) (g := (mkF m 66 #[.val (.int p1), .val (.int p2), .val (.int p3), .val (.int p4), .val (.int ln), .val (.int nl), .val (.int c0'), .val (.int c1'), .val (.int c2'), .val (.ref b4), .val (.ref b5), .unset, .unset, .unset, .unset] [(.int c1'), (.int (1 : Int32)), (.ref b7), (.ref b7)])) rfl rfl (hb hby at_66)
  have Sn := Sn.wr W9
  have O := O.wr W9 g_b7
  have V_b4 := V_b4.other W9 ne_b4_b7
  have E_b4 := E_b4.wr W9
  have V_b5 := V_b5.other W9 ne_b5_b7
  have E_b5 := E_b5.wr W9
  have E_b7 := E_b7.wr W9
  have V_b7 : own_Ar Z h9 b7 k7 .char [(.int c0'), (.int (nar .char c1'))] := A9
  have N9 := Fr.snoc X9 N8 g_b7
  refine own_goW (U' := T9.setTop (mkF m 67 #[.val (.int p1), .val (.int p2), .val (.int p3), .val (.int p4), .val (.int ln), .val (.int nl), .val (.int c0'), .val (.int c1'), .val (.int c2'), .val (.ref b4), .val (.ref b5), .unset, .unset, .unset, .unset] [(.ref b7)])) st9 ?_
  rw [own_narC ha1 hb1] at V_b7
  refine own_goW (U' := T9.setTop (mkF m 69 #[.val (.int p1), .val (.int p2), .val (.int p3), .val (.int p4), .val (.int ln), .val (.int nl), .val (.int c0'), .val (.int c1'), .val (.int c2'), .val (.ref b4), .val (.ref b5), .val (.ref b7), .unset, .unset, .unset] [])) (fun t k => XS.astore X9.here hx rfl (hb hby at_67) rfl rfl (l' := #[.val (.int p1), .val (.int p2), .val (.int p3), .val (.int p4), .val (.int ln), .val (.int nl), .val (.int c0'), .val (.int c1'), .val (.int c2'), .val (.ref b4), .val (.ref b5), .val (.ref b7), .unset, .unset, .unset]) rfl k) ?_
  refine own_goW (U' := T9.setTop (mkF m 70 #[.val (.int p1), .val (.int p2), .val (.int p3), .val (.int p4), .val (.int ln), .val (.int nl), .val (.int c0'), .val (.int c1'), .val (.int c2'), .val (.ref b4), .val (.ref b5), .val (.ref b7), .unset, .unset, .unset] [(.int (3 : Int32))])) (fun t k => XS.iconst X9.here hx rfl (hb hby at_69) k) ?_
  obtain ⟨T10, h10, k10, X10, e10, E10, A10, Y10, st10⟩ := own_newarr X9 hx hZ (hw _ (List.mem_of_getElem? (i := 4) rfl)) e9 (g := (mkF m 70 #[.val (.int p1), .val (.int p2), .val (.int p3), .val (.int p4), .val (.int ln), .val (.int nl), .val (.int c0'), .val (.int c1'), .val (.int c2'), .val (.ref b4), .val (.ref b5), .val (.ref b7), .unset, .unset, .unset] [(.int (3 : Int32))])) rfl (hb hby at_70) rfl (by decide) (cap := 3) (by decide) (by decide) (by decide) (by decide) (ad := "[C") (by decide) rfl (vs := [(.int (0 : Int32)), (.int (0 : Int32)), (.int (0 : Int32))]) rfl
  obtain ⟨b10, g10⟩ : ∃ z, z = h9.size := ⟨_, rfl⟩
  rw [← g10] at A10 Y10 st10
  have ne_b4_b10 : b4 ≠ b10 := Nat.ne_of_lt (Nat.lt_of_lt_of_eq V_b4.lt g10.symm)
  have ne_b5_b10 : b5 ≠ b10 := Nat.ne_of_lt (Nat.lt_of_lt_of_eq V_b5.lt g10.symm)
  have ne_b7_b10 : b7 ≠ b10 := Nat.ne_of_lt (Nat.lt_of_lt_of_eq V_b7.lt g10.symm)
  have g_b10 : n0 ≤ b10 := Nat.le_trans (Nat.le_trans (Nat.le_of_eq O.1.symm) O.2.1) (Nat.le_of_eq g10.symm)
  have Sn := Sn.ext E10
  have O := O.ext E10
  have V_b4 := V_b4.ext E10
  have E_b4 := E_b4.ext E10
  have V_b5 := V_b5.ext E10
  have E_b5 := E_b5.ext E10
  have V_b7 := V_b7.ext E10
  have E_b7 := E_b7.ext E10
  have V_b10 : own_Ar Z h10 b10 k10 .char [(.int (0 : Int32)), (.int (0 : Int32)), (.int (0 : Int32))] := A10
  have E_b10 := Y10
  refine own_goW (U' := T10.setTop (mkF m 72 #[.val (.int p1), .val (.int p2), .val (.int p3), .val (.int p4), .val (.int ln), .val (.int nl), .val (.int c0'), .val (.int c1'), .val (.int c2'), .val (.ref b4), .val (.ref b5), .val (.ref b7), .unset, .unset, .unset] [(.ref b10)])) st10 ?_
  refine own_goW (U' := T10.setTop (mkF m 73 #[.val (.int p1), .val (.int p2), .val (.int p3), .val (.int p4), .val (.int ln), .val (.int nl), .val (.int c0'), .val (.int c1'), .val (.int c2'), .val (.ref b4), .val (.ref b5), .val (.ref b7), .unset, .unset, .unset] [(.ref b10), (.ref b10)])) (fun t k => XS.dup X10.here hx rfl (hb hby at_72) rfl rfl k) ?_
  refine own_goW (U' := T10.setTop (mkF m 74 #[.val (.int p1), .val (.int p2), .val (.int p3), .val (.int p4), .val (.int ln), .val (.int nl), .val (.int c0'), .val (.int c1'), .val (.int c2'), .val (.ref b4), .val (.ref b5), .val (.ref b7), .unset, .unset, .unset] [(.int (0 : Int32)), (.ref b10), (.ref b10)])) (fun t k => XS.iconst X10.here hx rfl (hb hby at_73) k) ?_
  refine own_goW (U' := T10.setTop (mkF m 76 #[.val (.int p1), .val (.int p2), .val (.int p3), .val (.int p4), .val (.int ln), .val (.int nl), .val (.int c0'), .val (.int c1'), .val (.int c2'), .val (.ref b4), .val (.ref b5), .val (.ref b7), .unset, .unset, .unset] [(.int c0'), (.int (0 : Int32)), (.ref b10), (.ref b10)])) (fun t k => XS.iload X10.here hx rfl (hb hby at_74) rfl k) ?_
  obtain ⟨T11, h11, X11, e11, W11, A11, st11⟩ := own_castore X10 hx hZ e10 V_b10 (j := (0 : Int32)) (by decide) (i := 0) rfl (Nat.le_of_ble_eq_true rfl) (g := (mkF m 76 #[.val (.int p1), .val (.int p2), .val (.int p3), .val (.int p4), .val (.int ln), .val (.int nl), .val (.int c0'), .val (.int c1'), .val (.int c2'), .val (.ref b4), .val (.ref b5), .val (.ref b7), .unset, .unset, .unset] [(.int c0'), (.int (0 : Int32)), (.ref b10), (.ref b10)])) rfl rfl (hb hby at_76)
  have Sn := Sn.wr W11
  have O := O.wr W11 g_b10
  have V_b4 := V_b4.other W11 ne_b4_b10
  have E_b4 := E_b4.wr W11
  have V_b5 := V_b5.other W11 ne_b5_b10
  have E_b5 := E_b5.wr W11
  have V_b7 := V_b7.other W11 ne_b7_b10
  have E_b7 := E_b7.wr W11
  have E_b10 := E_b10.wr W11
  have V_b10 : own_Ar Z h11 b10 k10 .char [(.int (nar .char c0')), (.int (0 : Int32)), (.int (0 : Int32))] := A11
  have N11 := Fr.snoc X11 N9 g_b10
  refine own_goW (U' := T11.setTop (mkF m 77 #[.val (.int p1), .val (.int p2), .val (.int p3), .val (.int p4), .val (.int ln), .val (.int nl), .val (.int c0'), .val (.int c1'), .val (.int c2'), .val (.ref b4), .val (.ref b5), .val (.ref b7), .unset, .unset, .unset] [(.ref b10)])) st11 ?_
  rw [own_narC ha0 hb0] at V_b10
  refine own_goW (U' := T11.setTop (mkF m 78 #[.val (.int p1), .val (.int p2), .val (.int p3), .val (.int p4), .val (.int ln), .val (.int nl), .val (.int c0'), .val (.int c1'), .val (.int c2'), .val (.ref b4), .val (.ref b5), .val (.ref b7), .unset, .unset, .unset] [(.ref b10), (.ref b10)])) (fun t k => XS.dup X11.here hx rfl (hb hby at_77) rfl rfl k) ?_
  refine own_goW (U' := T11.setTop (mkF m 79 #[.val (.int p1), .val (.int p2), .val (.int p3), .val (.int p4), .val (.int ln), .val (.int nl), .val (.int c0'), .val (.int c1'), .val (.int c2'), .val (.ref b4), .val (.ref b5), .val (.ref b7), .unset, .unset, .unset] [(.int (1 : Int32)), (.ref b10), (.ref b10)])) (fun t k => XS.iconst X11.here hx rfl (hb hby at_78) k) ?_
  refine own_goW (U' := T11.setTop (mkF m 81 #[.val (.int p1), .val (.int p2), .val (.int p3), .val (.int p4), .val (.int ln), .val (.int nl), .val (.int c0'), .val (.int c1'), .val (.int c2'), .val (.ref b4), .val (.ref b5), .val (.ref b7), .unset, .unset, .unset] [(.int c1'), (.int (1 : Int32)), (.ref b10), (.ref b10)])) (fun t k => XS.iload X11.here hx rfl (hb hby at_79) rfl k) ?_
  obtain ⟨T12, h12, X12, e12, W12, A12, st12⟩ := own_castore X11 hx hZ e11 V_b10 (j := (1 : Int32)) (by decide) (i := 1) rfl (Nat.le_of_ble_eq_true rfl) (g := (mkF m 81 #[.val (.int p1), .val (.int p2), .val (.int p3), .val (.int p4), .val (.int ln), .val (.int nl), .val (.int c0'), .val (.int c1'), .val (.int c2'), .val (.ref b4), .val (.ref b5), .val (.ref b7), .unset, .unset, .unset] [(.int c1'), (.int (1 : Int32)), (.ref b10), (.ref b10)])) rfl rfl (hb hby at_81)
  have Sn := Sn.wr W12
  have O := O.wr W12 g_b10
  have V_b4 := V_b4.other W12 ne_b4_b10
  have E_b4 := E_b4.wr W12
  have V_b5 := V_b5.other W12 ne_b5_b10
  have E_b5 := E_b5.wr W12
  have V_b7 := V_b7.other W12 ne_b7_b10
  have E_b7 := E_b7.wr W12
  have E_b10 := E_b10.wr W12
  have V_b10 : own_Ar Z h12 b10 k10 .char [(.int c0'), (.int (nar .char c1')), (.int (0 : Int32))] := A12
  have N12 := Fr.snoc X12 N11 g_b10
  refine own_goW (U' := T12.setTop (mkF m 82 #[.val (.int p1), .val (.int p2), .val (.int p3), .val (.int p4), .val (.int ln), .val (.int nl), .val (.int c0'), .val (.int c1'), .val (.int c2'), .val (.ref b4), .val (.ref b5), .val (.ref b7), .unset, .unset, .unset] [(.ref b10)])) st12 ?_
  rw [own_narC ha1 hb1] at V_b10
  refine own_goW (U' := T12.setTop (mkF m 83 #[.val (.int p1), .val (.int p2), .val (.int p3), .val (.int p4), .val (.int ln), .val (.int nl), .val (.int c0'), .val (.int c1'), .val (.int c2'), .val (.ref b4), .val (.ref b5), .val (.ref b7), .unset, .unset, .unset] [(.ref b10), (.ref b10)])) (fun t k => XS.dup X12.here hx rfl (hb hby at_82) rfl rfl k) ?_
  refine own_goW (U' := T12.setTop (mkF m 84 #[.val (.int p1), .val (.int p2), .val (.int p3), .val (.int p4), .val (.int ln), .val (.int nl), .val (.int c0'), .val (.int c1'), .val (.int c2'), .val (.ref b4), .val (.ref b5), .val (.ref b7), .unset, .unset, .unset] [(.int (2 : Int32)), (.ref b10), (.ref b10)])) (fun t k => XS.iconst X12.here hx rfl (hb hby at_83) k) ?_
  refine own_goW (U' := T12.setTop (mkF m 86 #[.val (.int p1), .val (.int p2), .val (.int p3), .val (.int p4), .val (.int ln), .val (.int nl), .val (.int c0'), .val (.int c1'), .val (.int c2'), .val (.ref b4), .val (.ref b5), .val (.ref b7), .unset, .unset, .unset] [(.int c2'), (.int (2 : Int32)), (.ref b10), (.ref b10)])) (fun t k => XS.iload X12.here hx rfl (hb hby at_84) rfl k) ?_
  obtain ⟨T13, h13, X13, e13, W13, A13, st13⟩ := own_castore X12 hx hZ e12 V_b10 (j := (2 : Int32)) (by decide) (i := 2) rfl (Nat.le_of_ble_eq_true rfl) (g := (mkF m 86 #[.val (.int p1), .val (.int p2), .val (.int p3), .val (.int p4), .val (.int ln), .val (.int nl), .val (.int c0'), .val (.int c1'), .val (.int c2'), .val (.ref b4), .val (.ref b5), .val (.ref b7), .unset, .unset, .unset] [(.int c2'), (.int (2 : Int32)), (.ref b10), (.ref b10)])) rfl rfl (hb hby at_86)
  have Sn := Sn.wr W13
  have O := O.wr W13 g_b10
  have V_b4 := V_b4.other W13 ne_b4_b10
  have E_b4 := E_b4.wr W13
  have V_b5 := V_b5.other W13 ne_b5_b10
  have E_b5 := E_b5.wr W13
  have V_b7 := V_b7.other W13 ne_b7_b10
  have E_b7 := E_b7.wr W13
  have E_b10 := E_b10.wr W13
  have V_b10 : own_Ar Z h13 b10 k10 .char [(.int c0'), (.int c1'), (.int (nar .char c2'))] := A13
  have N13 := Fr.snoc X13 N12 g_b10
  refine own_goW (U' := T13.setTop (mkF m 87 #[.val (.int p1), .val (.int p2), .val (.int p3), .val (.int p4), .val (.int ln), .val (.int nl), .val (.int c0'), .val (.int c1'), .val (.int c2'), .val (.ref b4), .val (.ref b5), .val (.ref b7), .unset, .unset, .unset] [(.ref b10)])) st13 ?_
  rw [own_narC ha2 hb2] at V_b10
  refine own_goW (U' := T13.setTop (mkF m 89 #[.val (.int p1), .val (.int p2), .val (.int p3), .val (.int p4), .val (.int ln), .val (.int nl), .val (.int c0'), .val (.int c1'), .val (.int c2'), .val (.ref b4), .val (.ref b5), .val (.ref b7), .val (.ref b10), .unset, .unset] [])) (fun t k => XS.astore X13.here hx rfl (hb hby at_87) rfl rfl (l' := #[.val (.int p1), .val (.int p2), .val (.int p3), .val (.int p4), .val (.int ln), .val (.int nl), .val (.int c0'), .val (.int c1'), .val (.int c2'), .val (.ref b4), .val (.ref b5), .val (.ref b7), .val (.ref b10), .unset, .unset]) rfl k) ?_
  refine own_goW (U' := T13.setTop (mkF m 91 #[.val (.int p1), .val (.int p2), .val (.int p3), .val (.int p4), .val (.int ln), .val (.int nl), .val (.int c0'), .val (.int c1'), .val (.int c2'), .val (.ref b4), .val (.ref b5), .val (.ref b7), .val (.ref b10), .unset, .unset] [(.int nl)])) (fun t k => XS.iload X13.here hx rfl (hb hby at_89) rfl k) ?_
  have k0_60 := own_bvk ha0 hb0 60 (by decide)
  have k0_61 := own_bvk ha0 hb0 61 (by decide)
  have k0_62 := own_bvk ha0 hb0 62 (by decide)
  have k0_73 := own_bvk ha0 hb0 73 (by decide)
  have k1_61 := own_bvk ha1 hb1 61 (by decide)
  have k1_78 := own_bvk ha1 hb1 78 (by decide)
  by_cases hnl : nl = (0 : Int32)
  · refine own_goW (U' := T13.setTop (mkF m 100 #[.val (.int p1), .val (.int p2), .val (.int p3), .val (.int p4), .val (.int ln), .val (.int nl), .val (.int c0'), .val (.int c1'), .val (.int c2'), .val (.ref b4), .val (.ref b5), .val (.ref b7), .val (.ref b10), .unset, .unset] [])) (fun t k => XS.ifYes X13.here hx rfl (pc0 := 91) (pc' := 100) rfl (hb hby at_91) rfl ((if0 _ _).trans (teq hnl).1) (by decide) (by decide) k) ?_
    refine own_goW (U' := T13.setTop (mkF m 102 #[.val (.int p1), .val (.int p2), .val (.int p3), .val (.int p4), .val (.int ln), .val (.int nl), .val (.int c0'), .val (.int c1'), .val (.int c2'), .val (.ref b4), .val (.ref b5), .val (.ref b7), .val (.ref b10), .unset, .unset] [(.int ln)])) (fun t k => XS.iload X13.here hx rfl (hb hby at_100) rfl k) ?_
    by_cases hl0 : ln = (0 : Int32)
    · refine own_goW (U' := T13.setTop (mkF m 105 #[.val (.int p1), .val (.int p2), .val (.int p3), .val (.int p4), .val (.int ln), .val (.int nl), .val (.int c0'), .val (.int c1'), .val (.int c2'), .val (.ref b4), .val (.ref b5), .val (.ref b7), .val (.ref b10), .unset, .unset] [])) (fun t k => XS.ifNo X13.here hx rfl (hb hby at_102) rfl ((if0 _ _).trans (teq hl0).2) k) ?_
      obtain ⟨T14, h14, X14, e14, E14, A14, D14, -, st14⟩ := newO X13 hx hZ hown (hw _ (List.mem_of_getElem? (i := 5) rfl)) (hw _ (List.mem_of_getElem? (i := 6) rfl)) (hw _ (List.mem_of_getElem? (i := 7) rfl)) e13 (g := (mkF m 105 #[.val (.int p1), .val (.int p2), .val (.int p3), .val (.int p4), .val (.int ln), .val (.int nl), .val (.int c0'), .val (.int c1'), .val (.int c2'), .val (.ref b4), .val (.ref b5), .val (.ref b7), .val (.ref b10), .unset, .unset] [])) rfl (hb hby at_105) (by decide) (by decide)
      obtain ⟨b14, g14⟩ : ∃ z, z = h13.size := ⟨_, rfl⟩
      rw [← g14] at A14 D14 st14
      have ne_b4_b14 : b4 ≠ b14 := Nat.ne_of_lt (Nat.lt_of_lt_of_eq V_b4.lt g14.symm)
      have ne_b5_b14 : b5 ≠ b14 := Nat.ne_of_lt (Nat.lt_of_lt_of_eq V_b5.lt g14.symm)
      have ne_b7_b14 : b7 ≠ b14 := Nat.ne_of_lt (Nat.lt_of_lt_of_eq V_b7.lt g14.symm)
      have ne_b10_b14 : b10 ≠ b14 := Nat.ne_of_lt (Nat.lt_of_lt_of_eq V_b10.lt g14.symm)
      have g_b14 : n0 ≤ b14 := Nat.le_trans (Nat.le_trans (Nat.le_of_eq O.1.symm) O.2.1) (Nat.le_of_eq g14.symm)
      have Sn := Sn.ext E14
      have O := O.ext E14
      have V_b4 := V_b4.ext E14
      have E_b4 := E_b4.ext E14
      have V_b5 := V_b5.ext E14
      have E_b5 := E_b5.ext E14
      have V_b7 := V_b7.ext E14
      have E_b7 := E_b7.ext E14
      have V_b10 := V_b10.ext E14
      have E_b10 := E_b10.ext E14
      have E_b14 := A14
      have F_value_b14 : Fld Z h14 b14 "java/lang/String" "value" "[B" .null := D14 (Or.inr (hw _ (List.mem_of_getElem? (i := 20) rfl))) (ty := (.array .byte)) (by decide)
      have F_coder_b14 : Fld Z h14 b14 "java/lang/String" "coder" "B" (.int (0 : Int32)) := D14 (Or.inr (hw _ (List.mem_of_getElem? (i := 21) rfl))) (ty := .byte) (by decide)
      refine own_goW (U' := T14.setTop (mkF m 108 #[.val (.int p1), .val (.int p2), .val (.int p3), .val (.int p4), .val (.int ln), .val (.int nl), .val (.int c0'), .val (.int c1'), .val (.int c2'), .val (.ref b4), .val (.ref b5), .val (.ref b7), .val (.ref b10), .unset, .unset] [(.ref b14)])) st14 ?_
      refine own_goW (U' := T14.setTop (mkF m 109 #[.val (.int p1), .val (.int p2), .val (.int p3), .val (.int p4), .val (.int ln), .val (.int nl), .val (.int c0'), .val (.int c1'), .val (.int c2'), .val (.ref b4), .val (.ref b5), .val (.ref b7), .val (.ref b10), .unset, .unset] [(.ref b14), (.ref b14)])) (fun t k => XS.dup X14.here hx rfl (hb hby at_108) rfl rfl k) ?_
      refine own_goW (U' := T14.setTop (mkF m 111 #[.val (.int p1), .val (.int p2), .val (.int p3), .val (.int p4), .val (.int ln), .val (.int nl), .val (.int c0'), .val (.int c1'), .val (.int c2'), .val (.ref b4), .val (.ref b5), .val (.ref b7), .val (.ref b10), .unset, .unset] [(.ref b4), (.ref b14), (.ref b14)])) (fun t k => XS.aload X14.here hx rfl (hb hby at_109) rfl rfl k) ?_
      obtain ⟨v15, T15, h15, L15, Ts15, vm15, e15, X15, hQ15, Sn, I, hZ, hown, st15⟩ := own_callCW X14 hx hZ (y := (⟨"java/lang/String", "<init>", "([C)V"⟩ : MethodName)) rfl hown (hw _ (List.mem_of_getElem? (i := 8) rfl)) (hw _ (List.mem_of_getElem? (i := 9) rfl)) (hw _ (List.mem_of_getElem? (i := 7) rfl)) (hw _ (List.mem_of_getElem? (i := 10) rfl)) (by decide) Sn I (a := b14) (own_rms10 l Z a0 hw b14 b4 h14 n0 g_b14 O [] (by decide) hhE hcw _ _ E_b14 F_value_b14 F_coder_b14 _ V_b4) (W := 1) (by decide) (by decide) (g := (mkF m 111 #[.val (.int p1), .val (.int p2), .val (.int p3), .val (.int p4), .val (.int ln), .val (.int nl), .val (.int c0'), .val (.int c1'), .val (.int c2'), .val (.ref b4), .val (.ref b5), .val (.ref b7), .val (.ref b10), .unset, .unset] [(.ref b4), (.ref b14), (.ref b14)])) rfl (by rw [hml]; rfl) (argsL := [(.ref b4)]) (rest := [(.ref b14)]) (lenOf own_pd4 rfl) rfl rfl (by show 2 * 0 + _ ≤ _; exact Nat.le_of_eq rfl) (hb hby at_111) e14 (by decide) (by decide)
      obtain ⟨rfl, Nq, rfl, Kq, c, kc, Fv, Fc, V_c⟩ := hQ15
      have O := O.keep Kq (allS g_b14 all0)
      have V_b4 := V_b4.keep Kq (ninS ne_b4_b14 nin0)
      have E_b4 := E_b4.keep Kq
      have V_b5 := V_b5.keep Kq (ninS ne_b5_b14 nin0)
      have E_b5 := E_b5.keep Kq
      have V_b7 := V_b7.keep Kq (ninS ne_b7_b14 nin0)
      have E_b7 := E_b7.keep Kq
      have V_b10 := V_b10.keep Kq (ninS ne_b10_b14 nin0)
      have E_b10 := E_b10.keep Kq
      have E_b14 := E_b14.keep Kq
      have F_value_b14 := Fv
      have F_coder_b14 := Fc
      have N15 := Fr.app N13 Nq
      refine own_goW (U' := T15.setTop (mkF m 114 #[.val (.int p1), .val (.int p2), .val (.int p3), .val (.int p4), .val (.int ln), .val (.int nl), .val (.int c0'), .val (.int c1'), .val (.int c2'), .val (.ref b4), .val (.ref b5), .val (.ref b7), .val (.ref b10), .unset, .unset] [(.ref b14)])) st15 ?_
      refine own_goW (U' := T15.setTop (mkF m 116 #[.val (.int p1), .val (.int p2), .val (.int p3), .val (.int p4), .val (.int ln), .val (.int nl), .val (.int c0'), .val (.int c1'), .val (.int c2'), .val (.ref b4), .val (.ref b5), .val (.ref b7), .val (.ref b10), .val (.ref b14), .unset] [])) (fun t k => XS.astore X15.here hx rfl (hb hby at_114) rfl rfl (l' := #[.val (.int p1), .val (.int p2), .val (.int p3), .val (.int p4), .val (.int ln), .val (.int nl), .val (.int c0'), .val (.int c1'), .val (.int c2'), .val (.ref b4), .val (.ref b5), .val (.ref b7), .val (.ref b10), .val (.ref b14), .unset]) rfl k) ?_
      refine own_goW (U' := T15.setTop (mkF m 170 #[.val (.int p1), .val (.int p2), .val (.int p3), .val (.int p4), .val (.int ln), .val (.int nl), .val (.int c0'), .val (.int c1'), .val (.int c2'), .val (.ref b4), .val (.ref b5), .val (.ref b7), .val (.ref b10), .val (.ref b14), .unset] [])) (fun t k => XS.goto X15.here hx rfl (pc0 := 116) (pc' := 170) rfl (hb hby at_116) (by decide) (by decide) k) ?_
      refine own_goW (U' := T15.setTop (mkF m 171 #[.val (.int p1), .val (.int p2), .val (.int p3), .val (.int p4), .val (.int ln), .val (.int nl), .val (.int c0'), .val (.int c1'), .val (.int c2'), .val (.ref b4), .val (.ref b5), .val (.ref b7), .val (.ref b10), .val (.ref b14), .unset] [.null])) (fun t k => XS.aconstNull X15.here hx rfl (hb hby at_170) k) ?_
      refine own_goW (U' := T15.setTop (mkF m 173 #[.val (.int p1), .val (.int p2), .val (.int p3), .val (.int p4), .val (.int ln), .val (.int nl), .val (.int c0'), .val (.int c1'), .val (.int c2'), .val (.ref b4), .val (.ref b5), .val (.ref b7), .val (.ref b10), .val (.ref b14), .val .null] [])) (fun t k => XS.astore X15.here hx rfl (hb hby at_171) rfl rfl (l' := #[.val (.int p1), .val (.int p2), .val (.int p3), .val (.int p4), .val (.int ln), .val (.int nl), .val (.int c0'), .val (.int c1'), .val (.int c2'), .val (.ref b4), .val (.ref b5), .val (.ref b7), .val (.ref b10), .val (.ref b14), .val .null]) rfl k) ?_
      refine own_goW (U' := T15.setTop (mkF m 175 #[.val (.int p1), .val (.int p2), .val (.int p3), .val (.int p4), .val (.int ln), .val (.int nl), .val (.int c0'), .val (.int c1'), .val (.int c2'), .val (.ref b4), .val (.ref b5), .val (.ref b7), .val (.ref b10), .val (.ref b14), .val .null] [(.int nl)])) (fun t k => XS.iload X15.here hx rfl (hb hby at_173) rfl k) ?_
      refine own_goW (U' := T15.setTop (mkF m 178 #[.val (.int p1), .val (.int p2), .val (.int p3), .val (.int p4), .val (.int ln), .val (.int nl), .val (.int c0'), .val (.int c1'), .val (.int c2'), .val (.ref b4), .val (.ref b5), .val (.ref b7), .val (.ref b10), .val (.ref b14), .val .null] [])) (fun t k => XS.ifNo X15.here hx rfl (hb hby at_175) rfl ((if0 _ _).trans (teq hnl).2) k) ?_
      refine own_goW (U' := T15.setTop (mkF m 180 #[.val (.int p1), .val (.int p2), .val (.int p3), .val (.int p4), .val (.int ln), .val (.int nl), .val (.int c0'), .val (.int c1'), .val (.int c2'), .val (.ref b4), .val (.ref b5), .val (.ref b7), .val (.ref b10), .val (.ref b14), .val .null] [(.int ln)])) (fun t k => XS.iload X15.here hx rfl (hb hby at_178) rfl k) ?_
      refine own_goW (U' := T15.setTop (mkF m 181 #[.val (.int p1), .val (.int p2), .val (.int p3), .val (.int p4), .val (.int ln), .val (.int nl), .val (.int c0'), .val (.int c1'), .val (.int c2'), .val (.ref b4), .val (.ref b5), .val (.ref b7), .val (.ref b10), .val (.ref b14), .val .null] [(.int (1 : Int32)), (.int ln)])) (fun t k => XS.iconst X15.here hx rfl (hb hby at_180) k) ?_
      refine own_goW (U' := T15.setTop (mkF m 229 #[.val (.int p1), .val (.int p2), .val (.int p3), .val (.int p4), .val (.int ln), .val (.int nl), .val (.int c0'), .val (.int c1'), .val (.int c2'), .val (.ref b4), .val (.ref b5), .val (.ref b7), .val (.ref b10), .val (.ref b14), .val .null] [])) (fun t k => XS.icmpYes X15.here hx rfl (pc0 := 181) (pc' := 229) rfl (hb hby at_181) rfl (feq (by rw [hl0]; decide)).2 (by decide) (by decide) k) ?_
      refine own_goW (U' := T15.setTop (mkF m 231 #[.val (.int p1), .val (.int p2), .val (.int p3), .val (.int p4), .val (.int ln), .val (.int nl), .val (.int c0'), .val (.int c1'), .val (.int c2'), .val (.ref b4), .val (.ref b5), .val (.ref b7), .val (.ref b10), .val (.ref b14), .val .null] [(.int ln)])) (fun t k => XS.iload X15.here hx rfl (hb hby at_229) rfl k) ?_
      refine own_goW (U' := T15.setTop (mkF m 232 #[.val (.int p1), .val (.int p2), .val (.int p3), .val (.int p4), .val (.int ln), .val (.int nl), .val (.int c0'), .val (.int c1'), .val (.int c2'), .val (.ref b4), .val (.ref b5), .val (.ref b7), .val (.ref b10), .val (.ref b14), .val .null] [(.int (2 : Int32)), (.int ln)])) (fun t k => XS.iconst X15.here hx rfl (hb hby at_231) k) ?_
      refine own_goW (U' := T15.setTop (mkF m 298 #[.val (.int p1), .val (.int p2), .val (.int p3), .val (.int p4), .val (.int ln), .val (.int nl), .val (.int c0'), .val (.int c1'), .val (.int c2'), .val (.ref b4), .val (.ref b5), .val (.ref b7), .val (.ref b10), .val (.ref b14), .val .null] [])) (fun t k => XS.icmpYes X15.here hx rfl (pc0 := 232) (pc' := 298) rfl (hb hby at_232) rfl (feq (by rw [hl0]; decide)).2 (by decide) (by decide) k) ?_
      refine own_goW (U' := T15.setTop (mkF m 300 #[.val (.int p1), .val (.int p2), .val (.int p3), .val (.int p4), .val (.int ln), .val (.int nl), .val (.int c0'), .val (.int c1'), .val (.int c2'), .val (.ref b4), .val (.ref b5), .val (.ref b7), .val (.ref b10), .val (.ref b14), .val .null] [(.ref b14)])) (fun t k => XS.aload X15.here hx rfl (hb hby at_298) rfl rfl k) ?_
      obtain ⟨v16, T16, h16, L16, e16, X16, hQ16, st16⟩ := own_callS X15 hx hZ (y := (⟨"com/example/pagemark/pagemark/statements/Restriction$Operator", "ofSymbol", "(Ljava/lang/String;)Lcom/example/pagemark/pagemark/statements/Restriction$Operator;"⟩ : MethodName)) hown (hw _ (List.mem_of_getElem? (i := 26) rfl)) (hw _ (List.mem_of_getElem? (i := 27) rfl)) (hw _ (List.mem_of_getElem? (i := 28) rfl)) (hw _ (List.mem_of_getElem? (i := 29) rfl)) (by decide) (own_rmos0 l Z a0 hw b14 h15 n0 en0 en1 en2 en3 en4 en5 O vv kv S_v V_v E_v tx0 tx1 tx2 tx3 tx4 tx5 bx0 bx1 bx2 bx3 bx4 bx5 kx0 kx1 kx2 kx3 kx4 kx5 FT0 ET0 FC0 FV0 VB0 FT1 ET1 FC1 FV1 VB1 FT2 ET2 FC2 FV2 VB2 FT3 ET3 FC3 FV3 VB3 FT4 ET4 FC4 FV4 VB4 FT5 ET5 FC5 FV5 VB5 cs hcs S_cs _ _ E_b14 F_coder_b14 F_value_b14 V_c) (W := 0) (by decide) (by decide) (g := (mkF m 300 #[.val (.int p1), .val (.int p2), .val (.int p3), .val (.int p4), .val (.int ln), .val (.int nl), .val (.int c0'), .val (.int c1'), .val (.int c2'), .val (.ref b4), .val (.ref b5), .val (.ref b7), .val (.ref b10), .val (.ref b14), .val .null] [(.ref b14)])) rfl (by rw [hml]; rfl) (argsL := [(.ref b14)]) (rest := []) (lenOf own_pd10 rfl) rfl rfl (by show 2 * 0 + _ ≤ _; exact Nat.le_of_eq rfl) (hb hby at_300) e15 (by decide) (by decide)
      obtain ⟨rfl, rfl, Kq⟩ := hQ16
      rw [List.append_nil] at X16
      have Sn := Sn.keep Kq
      have O := O.keep Kq all0
      have E_b14 := E_b14.keep Kq
      have F_coder_b14 := F_coder_b14.keep Kq nin0
      have F_value_b14 := F_value_b14.keep Kq nin0
      have V_c := V_c.keep Kq nin0
      refine own_goW (U' := T16.setTop (mkF m 303 #[.val (.int p1), .val (.int p2), .val (.int p3), .val (.int p4), .val (.int ln), .val (.int nl), .val (.int c0'), .val (.int c1'), .val (.int c2'), .val (.ref b4), .val (.ref b5), .val (.ref b7), .val (.ref b10), .val (.ref b14), .val .null] [.null])) st16 ?_
      refine own_goW (U' := T16.setTop (mkF m 305 #[.val (.int p1), .val (.int p2), .val (.int p3), .val (.int p4), .val (.int ln), .val (.int nl), .val (.int c0'), .val (.int c1'), .val (.int c2'), .val (.ref b4), .val (.ref b5), .val (.ref b7), .val (.ref b10), .val (.ref b14), .val .null] [.null, .null])) (fun t k => XS.aload X16.here hx rfl (hb hby at_303) rfl rfl k) ?_
      refine own_goW (U' := T16.setTop (mkF m 308 #[.val (.int p1), .val (.int p2), .val (.int p3), .val (.int p4), .val (.int ln), .val (.int nl), .val (.int c0'), .val (.int c1'), .val (.int c2'), .val (.ref b4), .val (.ref b5), .val (.ref b7), .val (.ref b10), .val (.ref b14), .val .null] [])) (fun t k => Jvm.RoadKit.acmp (g := (mkF m 305 #[.val (.int p1), .val (.int p2), .val (.int p3), .val (.int p4), .val (.int ln), .val (.int nl), .val (.int c0'), .val (.int c1'), .val (.int c2'), .val (.ref b4), .val (.ref b5), .val (.ref b7), .val (.ref b10), .val (.ref b14), .val .null] [.null, .null])) X16 hx rfl rfl rfl (pc0 := 305) (pc' := 308) (same := true) rfl (hb hby at_305) rfl (decide_eq_true rfl) (by decide) (by decide) k) ?_
      refine own_goW (U' := T16.setTop (mkF m 309 #[.val (.int p1), .val (.int p2), .val (.int p3), .val (.int p4), .val (.int ln), .val (.int nl), .val (.int c0'), .val (.int c1'), .val (.int c2'), .val (.ref b4), .val (.ref b5), .val (.ref b7), .val (.ref b10), .val (.ref b14), .val .null] [(.int (1 : Int32))])) (fun t k => XS.iconst X16.here hx rfl (hb hby at_308) k) ?_
      refine own_goW (U' := T16.setTop (mkF m 313 #[.val (.int p1), .val (.int p2), .val (.int p3), .val (.int p4), .val (.int ln), .val (.int nl), .val (.int c0'), .val (.int c1'), .val (.int c2'), .val (.ref b4), .val (.ref b5), .val (.ref b7), .val (.ref b10), .val (.ref b14), .val .null] [(.int (1 : Int32))])) (fun t k => XS.goto X16.here hx rfl (pc0 := 309) (pc' := 313) rfl (hb hby at_309) (by decide) (by decide) k) ?_
      refine own_retWN X16 hx Sn e16 I (t := .boolean) hret (by simp) hlk (hb hby at_313) ?_ (by decide) (by decide)
      exact ⟨rfl, N15⟩
    · refine own_goW (U' := T13.setTop (mkF m 119 #[.val (.int p1), .val (.int p2), .val (.int p3), .val (.int p4), .val (.int ln), .val (.int nl), .val (.int c0'), .val (.int c1'), .val (.int c2'), .val (.ref b4), .val (.ref b5), .val (.ref b7), .val (.ref b10), .unset, .unset] [])) (fun t k => XS.ifYes X13.here hx rfl (pc0 := 102) (pc' := 119) rfl (hb hby at_102) rfl ((if0 _ _).trans (feq hl0).2) (by decide) (by decide) k) ?_
      refine own_goW (U' := T13.setTop (mkF m 121 #[.val (.int p1), .val (.int p2), .val (.int p3), .val (.int p4), .val (.int ln), .val (.int nl), .val (.int c0'), .val (.int c1'), .val (.int c2'), .val (.ref b4), .val (.ref b5), .val (.ref b7), .val (.ref b10), .unset, .unset] [(.int ln)])) (fun t k => XS.iload X13.here hx rfl (hb hby at_119) rfl k) ?_
      refine own_goW (U' := T13.setTop (mkF m 122 #[.val (.int p1), .val (.int p2), .val (.int p3), .val (.int p4), .val (.int ln), .val (.int nl), .val (.int c0'), .val (.int c1'), .val (.int c2'), .val (.ref b4), .val (.ref b5), .val (.ref b7), .val (.ref b10), .unset, .unset] [(.int (1 : Int32)), (.int ln)])) (fun t k => XS.iconst X13.here hx rfl (hb hby at_121) k) ?_
      by_cases hl1 : ln = (1 : Int32)
      · refine own_goW (U' := T13.setTop (mkF m 125 #[.val (.int p1), .val (.int p2), .val (.int p3), .val (.int p4), .val (.int ln), .val (.int nl), .val (.int c0'), .val (.int c1'), .val (.int c2'), .val (.ref b4), .val (.ref b5), .val (.ref b7), .val (.ref b10), .unset, .unset] [])) (fun t k => XS.icmpNo X13.here hx rfl (hb hby at_122) rfl (teq hl1).2 k) ?_
        obtain ⟨T17, h17, X17, e17, E17, A17, D17, -, st17⟩ := newO X13 hx hZ hown (hw _ (List.mem_of_getElem? (i := 5) rfl)) (hw _ (List.mem_of_getElem? (i := 6) rfl)) (hw _ (List.mem_of_getElem? (i := 7) rfl)) e13 (g := (mkF m 125 #[.val (.int p1), .val (.int p2), .val (.int p3), .val (.int p4), .val (.int ln), .val (.int nl), .val (.int c0'), .val (.int c1'), .val (.int c2'), .val (.ref b4), .val (.ref b5), .val (.ref b7), .val (.ref b10), .unset, .unset] [])) rfl (hb hby at_125) (by decide) (by decide)
        obtain ⟨b17, g17⟩ : ∃ z, z = h13.size := ⟨_, rfl⟩
        rw [← g17] at A17 D17 st17
        have ne_b4_b17 : b4 ≠ b17 := Nat.ne_of_lt (Nat.lt_of_lt_of_eq V_b4.lt g17.symm)
        have ne_b5_b17 : b5 ≠ b17 := Nat.ne_of_lt (Nat.lt_of_lt_of_eq V_b5.lt g17.symm)
        have ne_b7_b17 : b7 ≠ b17 := Nat.ne_of_lt (Nat.lt_of_lt_of_eq V_b7.lt g17.symm)
        have ne_b10_b17 : b10 ≠ b17 := Nat.ne_of_lt (Nat.lt_of_lt_of_eq V_b10.lt g17.symm)
        have g_b17 : n0 ≤ b17 := Nat.le_trans (Nat.le_trans (Nat.le_of_eq O.1.symm) O.2.1) (Nat.le_of_eq g17.symm)
        have Sn := Sn.ext E17
        have O := O.ext E17
        have V_b4 := V_b4.ext E17
        have E_b4 := E_b4.ext E17
        have V_b5 := V_b5.ext E17
        have E_b5 := E_b5.ext E17
        have V_b7 := V_b7.ext E17
        have E_b7 := E_b7.ext E17
        have V_b10 := V_b10.ext E17
        have E_b10 := E_b10.ext E17
        have E_b17 := A17
        have F_value_b17 : Fld Z h17 b17 "java/lang/String" "value" "[B" .null := D17 (Or.inr (hw _ (List.mem_of_getElem? (i := 20) rfl))) (ty := (.array .byte)) (by decide)
        have F_coder_b17 : Fld Z h17 b17 "java/lang/String" "coder" "B" (.int (0 : Int32)) := D17 (Or.inr (hw _ (List.mem_of_getElem? (i := 21) rfl))) (ty := .byte) (by decide)
        refine own_goW (U' := T17.setTop (mkF m 128 #[.val (.int p1), .val (.int p2), .val (.int p3), .val (.int p4), .val (.int ln), .val (.int nl), .val (.int c0'), .val (.int c1'), .val (.int c2'), .val (.ref b4), .val (.ref b5), .val (.ref b7), .val (.ref b10), .unset, .unset] [(.ref b17)])) st17 ?_
        refine own_goW (U' := T17.setTop (mkF m 129 #[.val (.int p1), .val (.int p2), .val (.int p3), .val (.int p4), .val (.int ln), .val (.int nl), .val (.int c0'), .val (.int c1'), .val (.int c2'), .val (.ref b4), .val (.ref b5), .val (.ref b7), .val (.ref b10), .unset, .unset] [(.ref b17), (.ref b17)])) (fun t k => XS.dup X17.here hx rfl (hb hby at_128) rfl rfl k) ?_
        refine own_goW (U' := T17.setTop (mkF m 131 #[.val (.int p1), .val (.int p2), .val (.int p3), .val (.int p4), .val (.int ln), .val (.int nl), .val (.int c0'), .val (.int c1'), .val (.int c2'), .val (.ref b4), .val (.ref b5), .val (.ref b7), .val (.ref b10), .unset, .unset] [(.ref b5), (.ref b17), (.ref b17)])) (fun t k => XS.aload X17.here hx rfl (hb hby at_129) rfl rfl k) ?_
        obtain ⟨v18, T18, h18, L18, e18, X18, hQ18, st18⟩ := own_callC X17 hx hZ (y := (⟨"java/lang/String", "<init>", "([C)V"⟩ : MethodName)) rfl hown (hw _ (List.mem_of_getElem? (i := 8) rfl)) (hw _ (List.mem_of_getElem? (i := 9) rfl)) (hw _ (List.mem_of_getElem? (i := 7) rfl)) (hw _ (List.mem_of_getElem? (i := 10) rfl)) (by decide) (a := b17) (own_rms11 l Z a0 hw b17 b5 h17 n0 g_b17 O cs hcs S_cs c0' hb0 _ _ E_b17 F_value_b17 F_coder_b17 _ V_b5) (W := 1) (by decide) (by decide) (g := (mkF m 131 #[.val (.int p1), .val (.int p2), .val (.int p3), .val (.int p4), .val (.int ln), .val (.int nl), .val (.int c0'), .val (.int c1'), .val (.int c2'), .val (.ref b4), .val (.ref b5), .val (.ref b7), .val (.ref b10), .unset, .unset] [(.ref b5), (.ref b17), (.ref b17)])) rfl (by rw [hml]; rfl) (argsL := [(.ref b5)]) (rest := [(.ref b17)]) (lenOf own_pd4 rfl) rfl rfl (by show 2 * 0 + _ ≤ _; exact Nat.le_of_eq rfl) (hb hby at_131) e17 (by decide) (by decide)
        obtain ⟨rfl, Nq, Kq, c, kc, Fv, Fc, V_c, -⟩ := hQ18
        have Sn := Sn.keep Kq
        have O := O.keep Kq (allS g_b17 all0)
        have V_b4 := V_b4.keep Kq (ninS ne_b4_b17 nin0)
        have E_b4 := E_b4.keep Kq
        have V_b5 := V_b5.keep Kq (ninS ne_b5_b17 nin0)
        have E_b5 := E_b5.keep Kq
        have V_b7 := V_b7.keep Kq (ninS ne_b7_b17 nin0)
        have E_b7 := E_b7.keep Kq
        have V_b10 := V_b10.keep Kq (ninS ne_b10_b17 nin0)
        have E_b10 := E_b10.keep Kq
        have E_b17 := E_b17.keep Kq
        have F_value_b17 := Fv
        have F_coder_b17 := Fc
        have N18 := Fr.app N13 Nq
        refine own_goW (U' := T18.setTop (mkF m 134 #[.val (.int p1), .val (.int p2), .val (.int p3), .val (.int p4), .val (.int ln), .val (.int nl), .val (.int c0'), .val (.int c1'), .val (.int c2'), .val (.ref b4), .val (.ref b5), .val (.ref b7), .val (.ref b10), .unset, .unset] [(.ref b17)])) st18 ?_
        refine own_goW (U' := T18.setTop (mkF m 136 #[.val (.int p1), .val (.int p2), .val (.int p3), .val (.int p4), .val (.int ln), .val (.int nl), .val (.int c0'), .val (.int c1'), .val (.int c2'), .val (.ref b4), .val (.ref b5), .val (.ref b7), .val (.ref b10), .val (.ref b17), .unset] [])) (fun t k => XS.astore X18.here hx rfl (hb hby at_134) rfl rfl (l' := #[.val (.int p1), .val (.int p2), .val (.int p3), .val (.int p4), .val (.int ln), .val (.int nl), .val (.int c0'), .val (.int c1'), .val (.int c2'), .val (.ref b4), .val (.ref b5), .val (.ref b7), .val (.ref b10), .val (.ref b17), .unset]) rfl k) ?_
        refine own_goW (U' := T18.setTop (mkF m 170 #[.val (.int p1), .val (.int p2), .val (.int p3), .val (.int p4), .val (.int ln), .val (.int nl), .val (.int c0'), .val (.int c1'), .val (.int c2'), .val (.ref b4), .val (.ref b5), .val (.ref b7), .val (.ref b10), .val (.ref b17), .unset] [])) (fun t k => XS.goto X18.here hx rfl (pc0 := 136) (pc' := 170) rfl (hb hby at_136) (by decide) (by decide) k) ?_
        refine own_goW (U' := T18.setTop (mkF m 171 #[.val (.int p1), .val (.int p2), .val (.int p3), .val (.int p4), .val (.int ln), .val (.int nl), .val (.int c0'), .val (.int c1'), .val (.int c2'), .val (.ref b4), .val (.ref b5), .val (.ref b7), .val (.ref b10), .val (.ref b17), .unset] [.null])) (fun t k => XS.aconstNull X18.here hx rfl (hb hby at_170) k) ?_
        refine own_goW (U' := T18.setTop (mkF m 173 #[.val (.int p1), .val (.int p2), .val (.int p3), .val (.int p4), .val (.int ln), .val (.int nl), .val (.int c0'), .val (.int c1'), .val (.int c2'), .val (.ref b4), .val (.ref b5), .val (.ref b7), .val (.ref b10), .val (.ref b17), .val .null] [])) (fun t k => XS.astore X18.here hx rfl (hb hby at_171) rfl rfl (l' := #[.val (.int p1), .val (.int p2), .val (.int p3), .val (.int p4), .val (.int ln), .val (.int nl), .val (.int c0'), .val (.int c1'), .val (.int c2'), .val (.ref b4), .val (.ref b5), .val (.ref b7), .val (.ref b10), .val (.ref b17), .val .null]) rfl k) ?_
        refine own_goW (U' := T18.setTop (mkF m 175 #[.val (.int p1), .val (.int p2), .val (.int p3), .val (.int p4), .val (.int ln), .val (.int nl), .val (.int c0'), .val (.int c1'), .val (.int c2'), .val (.ref b4), .val (.ref b5), .val (.ref b7), .val (.ref b10), .val (.ref b17), .val .null] [(.int nl)])) (fun t k => XS.iload X18.here hx rfl (hb hby at_173) rfl k) ?_
        refine own_goW (U' := T18.setTop (mkF m 178 #[.val (.int p1), .val (.int p2), .val (.int p3), .val (.int p4), .val (.int ln), .val (.int nl), .val (.int c0'), .val (.int c1'), .val (.int c2'), .val (.ref b4), .val (.ref b5), .val (.ref b7), .val (.ref b10), .val (.ref b17), .val .null] [])) (fun t k => XS.ifNo X18.here hx rfl (hb hby at_175) rfl ((if0 _ _).trans (teq hnl).2) k) ?_
        refine own_goW (U' := T18.setTop (mkF m 180 #[.val (.int p1), .val (.int p2), .val (.int p3), .val (.int p4), .val (.int ln), .val (.int nl), .val (.int c0'), .val (.int c1'), .val (.int c2'), .val (.ref b4), .val (.ref b5), .val (.ref b7), .val (.ref b10), .val (.ref b17), .val .null] [(.int ln)])) (fun t k => XS.iload X18.here hx rfl (hb hby at_178) rfl k) ?_
        refine own_goW (U' := T18.setTop (mkF m 181 #[.val (.int p1), .val (.int p2), .val (.int p3), .val (.int p4), .val (.int ln), .val (.int nl), .val (.int c0'), .val (.int c1'), .val (.int c2'), .val (.ref b4), .val (.ref b5), .val (.ref b7), .val (.ref b10), .val (.ref b17), .val .null] [(.int (1 : Int32)), (.int ln)])) (fun t k => XS.iconst X18.here hx rfl (hb hby at_180) k) ?_
        refine own_goW (U' := T18.setTop (mkF m 184 #[.val (.int p1), .val (.int p2), .val (.int p3), .val (.int p4), .val (.int ln), .val (.int nl), .val (.int c0'), .val (.int c1'), .val (.int c2'), .val (.ref b4), .val (.ref b5), .val (.ref b7), .val (.ref b10), .val (.ref b17), .val .null] [])) (fun t k => XS.icmpNo X18.here hx rfl (hb hby at_181) rfl (teq hl1).2 k) ?_
        refine own_goW (U' := T18.setTop (mkF m 186 #[.val (.int p1), .val (.int p2), .val (.int p3), .val (.int p4), .val (.int ln), .val (.int nl), .val (.int c0'), .val (.int c1'), .val (.int c2'), .val (.ref b4), .val (.ref b5), .val (.ref b7), .val (.ref b10), .val (.ref b17), .val .null] [(.int c0')])) (fun t k => XS.iload X18.here hx rfl (hb hby at_184) rfl k) ?_
        refine own_goW (U' := T18.setTop (mkF m 188 #[.val (.int p1), .val (.int p2), .val (.int p3), .val (.int p4), .val (.int ln), .val (.int nl), .val (.int c0'), .val (.int c1'), .val (.int c2'), .val (.ref b4), .val (.ref b5), .val (.ref b7), .val (.ref b10), .val (.ref b17), .val .null] [(.int (61 : Int32)), (.int c0')])) (fun t k => XS.bipush X18.here hx rfl (hb hby at_186) k) ?_
        by_cases hc188 : c0' = (61 : Int32)
        · refine own_goW (U' := T18.setTop (mkF m 191 #[.val (.int p1), .val (.int p2), .val (.int p3), .val (.int p4), .val (.int ln), .val (.int nl), .val (.int c0'), .val (.int c1'), .val (.int c2'), .val (.ref b4), .val (.ref b5), .val (.ref b7), .val (.ref b10), .val (.ref b17), .val .null] [])) (fun t k => XS.icmpNo X18.here hx rfl (hb hby at_188) rfl (teq hc188).2 k) ?_
          obtain ⟨T19, X19, e19, st19⟩ := getS2 X18 hx hZ hown (host := "") (Or.inl (hw _ (List.mem_of_getElem? (i := 74) rfl))) Via.refl e18 (S0.ext O.2) (g := (mkF m 191 #[.val (.int p1), .val (.int p2), .val (.int p3), .val (.int p4), .val (.int ln), .val (.int nl), .val (.int c0'), .val (.int c1'), .val (.int c2'), .val (.ref b4), .val (.ref b5), .val (.ref b7), .val (.ref b10), .val (.ref b17), .val .null] [])) rfl (hb hby at_191)
          refine own_goW (U' := T19.setTop (mkF m 194 #[.val (.int p1), .val (.int p2), .val (.int p3), .val (.int p4), .val (.int ln), .val (.int nl), .val (.int c0'), .val (.int c1'), .val (.int c2'), .val (.ref b4), .val (.ref b5), .val (.ref b7), .val (.ref b10), .val (.ref b17), .val .null] [(.ref en0)])) st19 ?_
          refine own_goW (U' := T19.setTop (mkF m 196 #[.val (.int p1), .val (.int p2), .val (.int p3), .val (.int p4), .val (.int ln), .val (.int nl), .val (.int c0'), .val (.int c1'), .val (.int c2'), .val (.ref b4), .val (.ref b5), .val (.ref b7), .val (.ref b10), .val (.ref b17), .val (.ref en0)] [])) (fun t k => XS.astore X19.here hx rfl (hb hby at_194) rfl rfl (l' := #[.val (.int p1), .val (.int p2), .val (.int p3), .val (.int p4), .val (.int ln), .val (.int nl), .val (.int c0'), .val (.int c1'), .val (.int c2'), .val (.ref b4), .val (.ref b5), .val (.ref b7), .val (.ref b10), .val (.ref b17), .val (.ref en0)]) rfl k) ?_
          refine own_goW (U' := T19.setTop (mkF m 298 #[.val (.int p1), .val (.int p2), .val (.int p3), .val (.int p4), .val (.int ln), .val (.int nl), .val (.int c0'), .val (.int c1'), .val (.int c2'), .val (.ref b4), .val (.ref b5), .val (.ref b7), .val (.ref b10), .val (.ref b17), .val (.ref en0)] [])) (fun t k => XS.goto X19.here hx rfl (pc0 := 196) (pc' := 298) rfl (hb hby at_196) (by decide) (by decide) k) ?_
          refine own_goW (U' := T19.setTop (mkF m 300 #[.val (.int p1), .val (.int p2), .val (.int p3), .val (.int p4), .val (.int ln), .val (.int nl), .val (.int c0'), .val (.int c1'), .val (.int c2'), .val (.ref b4), .val (.ref b5), .val (.ref b7), .val (.ref b10), .val (.ref b17), .val (.ref en0)] [(.ref b17)])) (fun t k => XS.aload X19.here hx rfl (hb hby at_298) rfl rfl k) ?_
          obtain ⟨v20, T20, h20, L20, e20, X20, hQ20, st20⟩ := own_callS X19 hx hZ (y := (⟨"com/example/pagemark/pagemark/statements/Restriction$Operator", "ofSymbol", "(Ljava/lang/String;)Lcom/example/pagemark/pagemark/statements/Restriction$Operator;"⟩ : MethodName)) hown (hw _ (List.mem_of_getElem? (i := 26) rfl)) (hw _ (List.mem_of_getElem? (i := 27) rfl)) (hw _ (List.mem_of_getElem? (i := 28) rfl)) (hw _ (List.mem_of_getElem? (i := 29) rfl)) (by decide) (own_rmos1 l Z a0 hw b17 h18 n0 en0 en1 en2 en3 en4 en5 O vv kv S_v V_v E_v tx0 tx1 tx2 tx3 tx4 tx5 bx0 bx1 bx2 bx3 bx4 bx5 kx0 kx1 kx2 kx3 kx4 kx5 FT0 ET0 FC0 FV0 VB0 FT1 ET1 FC1 FV1 VB1 FT2 ET2 FC2 FV2 VB2 FT3 ET3 FC3 FV3 VB3 FT4 ET4 FC4 FV4 VB4 FT5 ET5 FC5 FV5 VB5 cs hcs S_cs (own_bv c0') _ _ E_b17 F_coder_b17 F_value_b17 V_c) (W := 0) (by decide) (by decide) (g := (mkF m 300 #[.val (.int p1), .val (.int p2), .val (.int p3), .val (.int p4), .val (.int ln), .val (.int nl), .val (.int c0'), .val (.int c1'), .val (.int c2'), .val (.ref b4), .val (.ref b5), .val (.ref b7), .val (.ref b10), .val (.ref b17), .val (.ref en0)] [(.ref b17)])) rfl (by rw [hml]; rfl) (argsL := [(.ref b17)]) (rest := []) (lenOf own_pd10 rfl) rfl rfl (by show 2 * 0 + _ ≤ _; exact Nat.le_of_eq rfl) (hb hby at_300) e19 (by decide) (by decide)
          have hex : own_o1 en0 en1 en3 (own_bv c0') = (.ref en0) := by
            unfold own_o1
            simp only [k0_60, k0_61, k0_62, k0_73]
            simp [hc188]
          rw [hex] at hQ20
          obtain ⟨rfl, rfl, Kq⟩ := hQ20
          rw [List.append_nil] at X20
          have Sn := Sn.keep Kq
          have O := O.keep Kq all0
          have E_b17 := E_b17.keep Kq
          have F_coder_b17 := F_coder_b17.keep Kq nin0
          have F_value_b17 := F_value_b17.keep Kq nin0
          have V_c := V_c.keep Kq nin0
          refine own_goW (U' := T20.setTop (mkF m 303 #[.val (.int p1), .val (.int p2), .val (.int p3), .val (.int p4), .val (.int ln), .val (.int nl), .val (.int c0'), .val (.int c1'), .val (.int c2'), .val (.ref b4), .val (.ref b5), .val (.ref b7), .val (.ref b10), .val (.ref b17), .val (.ref en0)] [(.ref en0)])) st20 ?_
          refine own_goW (U' := T20.setTop (mkF m 305 #[.val (.int p1), .val (.int p2), .val (.int p3), .val (.int p4), .val (.int ln), .val (.int nl), .val (.int c0'), .val (.int c1'), .val (.int c2'), .val (.ref b4), .val (.ref b5), .val (.ref b7), .val (.ref b10), .val (.ref b17), .val (.ref en0)] [(.ref en0), (.ref en0)])) (fun t k => XS.aload X20.here hx rfl (hb hby at_303) rfl rfl k) ?_
          refine own_goW (U' := T20.setTop (mkF m 308 #[.val (.int p1), .val (.int p2), .val (.int p3), .val (.int p4), .val (.int ln), .val (.int nl), .val (.int c0'), .val (.int c1'), .val (.int c2'), .val (.ref b4), .val (.ref b5), .val (.ref b7), .val (.ref b10), .val (.ref b17), .val (.ref en0)] [])) (fun t k => Jvm.RoadKit.acmp (g := (mkF m 305 #[.val (.int p1), .val (.int p2), .val (.int p3), .val (.int p4), .val (.int ln), .val (.int nl), .val (.int c0'), .val (.int c1'), .val (.int c2'), .val (.ref b4), .val (.ref b5), .val (.ref b7), .val (.ref b10), .val (.ref b17), .val (.ref en0)] [(.ref en0), (.ref en0)])) X20 hx rfl rfl rfl (pc0 := 305) (pc' := 308) (same := true) rfl (hb hby at_305) rfl (decide_eq_true (congrArg Value.ref rfl)) (by decide) (by decide) k) ?_
          refine own_goW (U' := T20.setTop (mkF m 309 #[.val (.int p1), .val (.int p2), .val (.int p3), .val (.int p4), .val (.int ln), .val (.int nl), .val (.int c0'), .val (.int c1'), .val (.int c2'), .val (.ref b4), .val (.ref b5), .val (.ref b7), .val (.ref b10), .val (.ref b17), .val (.ref en0)] [(.int (1 : Int32))])) (fun t k => XS.iconst X20.here hx rfl (hb hby at_308) k) ?_
          refine own_goW (U' := T20.setTop (mkF m 313 #[.val (.int p1), .val (.int p2), .val (.int p3), .val (.int p4), .val (.int ln), .val (.int nl), .val (.int c0'), .val (.int c1'), .val (.int c2'), .val (.ref b4), .val (.ref b5), .val (.ref b7), .val (.ref b10), .val (.ref b17), .val (.ref en0)] [(.int (1 : Int32))])) (fun t k => XS.goto X20.here hx rfl (pc0 := 309) (pc' := 313) rfl (hb hby at_309) (by decide) (by decide) k) ?_
          refine own_retWN X20 hx Sn e20 I (t := .boolean) hret (by simp) hlk (hb hby at_313) ?_ (by decide) (by decide)
          exact ⟨rfl, N18⟩
        · refine own_goW (U' := T18.setTop (mkF m 199 #[.val (.int p1), .val (.int p2), .val (.int p3), .val (.int p4), .val (.int ln), .val (.int nl), .val (.int c0'), .val (.int c1'), .val (.int c2'), .val (.ref b4), .val (.ref b5), .val (.ref b7), .val (.ref b10), .val (.ref b17), .val .null] [])) (fun t k => XS.icmpYes X18.here hx rfl (pc0 := 188) (pc' := 199) rfl (hb hby at_188) rfl (feq hc188).2 (by decide) (by decide) k) ?_
          refine own_goW (U' := T18.setTop (mkF m 201 #[.val (.int p1), .val (.int p2), .val (.int p3), .val (.int p4), .val (.int ln), .val (.int nl), .val (.int c0'), .val (.int c1'), .val (.int c2'), .val (.ref b4), .val (.ref b5), .val (.ref b7), .val (.ref b10), .val (.ref b17), .val .null] [(.int c0')])) (fun t k => XS.iload X18.here hx rfl (hb hby at_199) rfl k) ?_
          refine own_goW (U' := T18.setTop (mkF m 203 #[.val (.int p1), .val (.int p2), .val (.int p3), .val (.int p4), .val (.int ln), .val (.int nl), .val (.int c0'), .val (.int c1'), .val (.int c2'), .val (.ref b4), .val (.ref b5), .val (.ref b7), .val (.ref b10), .val (.ref b17), .val .null] [(.int (60 : Int32)), (.int c0')])) (fun t k => XS.bipush X18.here hx rfl (hb hby at_201) k) ?_
          by_cases hc203 : c0' = (60 : Int32)
          · refine own_goW (U' := T18.setTop (mkF m 206 #[.val (.int p1), .val (.int p2), .val (.int p3), .val (.int p4), .val (.int ln), .val (.int nl), .val (.int c0'), .val (.int c1'), .val (.int c2'), .val (.ref b4), .val (.ref b5), .val (.ref b7), .val (.ref b10), .val (.ref b17), .val .null] [])) (fun t k => XS.icmpNo X18.here hx rfl (hb hby at_203) rfl (teq hc203).2 k) ?_
            obtain ⟨T21, X21, e21, st21⟩ := getS2 X18 hx hZ hown (host := "") (Or.inl (hw _ (List.mem_of_getElem? (i := 76) rfl))) Via.refl e18 (S1.ext O.2) (g := (mkF m 206 #[.val (.int p1), .val (.int p2), .val (.int p3), .val (.int p4), .val (.int ln), .val (.int nl), .val (.int c0'), .val (.int c1'), .val (.int c2'), .val (.ref b4), .val (.ref b5), .val (.ref b7), .val (.ref b10), .val (.ref b17), .val .null] [])) rfl (hb hby at_206)
            refine own_goW (U' := T21.setTop (mkF m 209 #[.val (.int p1), .val (.int p2), .val (.int p3), .val (.int p4), .val (.int ln), .val (.int nl), .val (.int c0'), .val (.int c1'), .val (.int c2'), .val (.ref b4), .val (.ref b5), .val (.ref b7), .val (.ref b10), .val (.ref b17), .val .null] [(.ref en1)])) st21 ?_
            refine own_goW (U' := T21.setTop (mkF m 211 #[.val (.int p1), .val (.int p2), .val (.int p3), .val (.int p4), .val (.int ln), .val (.int nl), .val (.int c0'), .val (.int c1'), .val (.int c2'), .val (.ref b4), .val (.ref b5), .val (.ref b7), .val (.ref b10), .val (.ref b17), .val (.ref en1)] [])) (fun t k => XS.astore X21.here hx rfl (hb hby at_209) rfl rfl (l' := #[.val (.int p1), .val (.int p2), .val (.int p3), .val (.int p4), .val (.int ln), .val (.int nl), .val (.int c0'), .val (.int c1'), .val (.int c2'), .val (.ref b4), .val (.ref b5), .val (.ref b7), .val (.ref b10), .val (.ref b17), .val (.ref en1)]) rfl k) ?_
            refine own_goW (U' := T21.setTop (mkF m 298 #[.val (.int p1), .val (.int p2), .val (.int p3), .val (.int p4), .val (.int ln), .val (.int nl), .val (.int c0'), .val (.int c1'), .val (.int c2'), .val (.ref b4), .val (.ref b5), .val (.ref b7), .val (.ref b10), .val (.ref b17), .val (.ref en1)] [])) (fun t k => XS.goto X21.here hx rfl (pc0 := 211) (pc' := 298) rfl (hb hby at_211) (by decide) (by decide) k) ?_
            refine own_goW (U' := T21.setTop (mkF m 300 #[.val (.int p1), .val (.int p2), .val (.int p3), .val (.int p4), .val (.int ln), .val (.int nl), .val (.int c0'), .val (.int c1'), .val (.int c2'), .val (.ref b4), .val (.ref b5), .val (.ref b7), .val (.ref b10), .val (.ref b17), .val (.ref en1)] [(.ref b17)])) (fun t k => XS.aload X21.here hx rfl (hb hby at_298) rfl rfl k) ?_
            obtain ⟨v22, T22, h22, L22, e22, X22, hQ22, st22⟩ := own_callS X21 hx hZ (y := (⟨"com/example/pagemark/pagemark/statements/Restriction$Operator", "ofSymbol", "(Ljava/lang/String;)Lcom/example/pagemark/pagemark/statements/Restriction$Operator;"⟩ : MethodName)) hown (hw _ (List.mem_of_getElem? (i := 26) rfl)) (hw _ (List.mem_of_getElem? (i := 27) rfl)) (hw _ (List.mem_of_getElem? (i := 28) rfl)) (hw _ (List.mem_of_getElem? (i := 29) rfl)) (by decide) (own_rmos1 l Z a0 hw b17 h18 n0 en0 en1 en2 en3 en4 en5 O vv kv S_v V_v E_v tx0 tx1 tx2 tx3 tx4 tx5 bx0 bx1 bx2 bx3 bx4 bx5 kx0 kx1 kx2 kx3 kx4 kx5 FT0 ET0 FC0 FV0 VB0 FT1 ET1 FC1 FV1 VB1 FT2 ET2 FC2 FV2 VB2 FT3 ET3 FC3 FV3 VB3 FT4 ET4 FC4 FV4 VB4 FT5 ET5 FC5 FV5 VB5 cs hcs S_cs (own_bv c0') _ _ E_b17 F_coder_b17 F_value_b17 V_c) (W := 0) (by decide) (by decide) (g := (mkF m 300 #[.val (.int p1), .val (.int p2), .val (.int p3), .val (.int p4), .val (.int ln), .val (.int nl), .val (.int c0'), .val (.int c1'), .val (.int c2'), .val (.ref b4), .val (.ref b5), .val (.ref b7), .val (.ref b10), .val (.ref b17), .val (.ref en1)] [(.ref b17)])) rfl (by rw [hml]; rfl) (argsL := [(.ref b17)]) (rest := []) (lenOf own_pd10 rfl) rfl rfl (by show 2 * 0 + _ ≤ _; exact Nat.le_of_eq rfl) (hb hby at_300) e21 (by decide) (by decide)
            have hex : own_o1 en0 en1 en3 (own_bv c0') = (.ref en1) := by
              unfold own_o1
              simp only [k0_60, k0_61, k0_62, k0_73]
              simp [hc188, hc203]
            rw [hex] at hQ22
            obtain ⟨rfl, rfl, Kq⟩ := hQ22
            rw [List.append_nil] at X22
            have Sn := Sn.keep Kq
            have O := O.keep Kq all0
            have E_b17 := E_b17.keep Kq
            have F_coder_b17 := F_coder_b17.keep Kq nin0
            have F_value_b17 := F_value_b17.keep Kq nin0
            have V_c := V_c.keep Kq nin0
            refine own_goW (U' := T22.setTop (mkF m 303 #[.val (.int p1), .val (.int p2), .val (.int p3), .val (.int p4), .val (.int ln), .val (.int nl), .val (.int c0'), .val (.int c1'), .val (.int c2'), .val (.ref b4), .val (.ref b5), .val (.ref b7), .val (.ref b10), .val (.ref b17), .val (.ref en1)] [(.ref en1)])) st22 ?_
            refine own_goW (U' := T22.setTop (mkF m 305 #[.val (.int p1), .val (.int p2), .val (.int p3), .val (.int p4), .val (.int ln), .val (.int nl), .val (.int c0'), .val (.int c1'), .val (.int c2'), .val (.ref b4), .val (.ref b5), .val (.ref b7), .val (.ref b10), .val (.ref b17), .val (.ref en1)] [(.ref en1), (.ref en1)])) (fun t k => XS.aload X22.here hx rfl (hb hby at_303) rfl rfl k) ?_
            refine own_goW (U' := T22.setTop (mkF m 308 #[.val (.int p1), .val (.int p2), .val (.int p3), .val (.int p4), .val (.int ln), .val (.int nl), .val (.int c0'), .val (.int c1'), .val (.int c2'), .val (.ref b4), .val (.ref b5), .val (.ref b7), .val (.ref b10), .val (.ref b17), .val (.ref en1)] [])) (fun t k => Jvm.RoadKit.acmp (g := (mkF m 305 #[.val (.int p1), .val (.int p2), .val (.int p3), .val (.int p4), .val (.int ln), .val (.int nl), .val (.int c0'), .val (.int c1'), .val (.int c2'), .val (.ref b4), .val (.ref b5), .val (.ref b7), .val (.ref b10), .val (.ref b17), .val (.ref en1)] [(.ref en1), (.ref en1)])) X22 hx rfl rfl rfl (pc0 := 305) (pc' := 308) (same := true) rfl (hb hby at_305) rfl (decide_eq_true (congrArg Value.ref rfl)) (by decide) (by decide) k) ?_
            refine own_goW (U' := T22.setTop (mkF m 309 #[.val (.int p1), .val (.int p2), .val (.int p3), .val (.int p4), .val (.int ln), .val (.int nl), .val (.int c0'), .val (.int c1'), .val (.int c2'), .val (.ref b4), .val (.ref b5), .val (.ref b7), .val (.ref b10), .val (.ref b17), .val (.ref en1)] [(.int (1 : Int32))])) (fun t k => XS.iconst X22.here hx rfl (hb hby at_308) k) ?_
            refine own_goW (U' := T22.setTop (mkF m 313 #[.val (.int p1), .val (.int p2), .val (.int p3), .val (.int p4), .val (.int ln), .val (.int nl), .val (.int c0'), .val (.int c1'), .val (.int c2'), .val (.ref b4), .val (.ref b5), .val (.ref b7), .val (.ref b10), .val (.ref b17), .val (.ref en1)] [(.int (1 : Int32))])) (fun t k => XS.goto X22.here hx rfl (pc0 := 309) (pc' := 313) rfl (hb hby at_309) (by decide) (by decide) k) ?_
            refine own_retWN X22 hx Sn e22 I (t := .boolean) hret (by simp) hlk (hb hby at_313) ?_ (by decide) (by decide)
            exact ⟨rfl, N18⟩
          · refine own_goW (U' := T18.setTop (mkF m 214 #[.val (.int p1), .val (.int p2), .val (.int p3), .val (.int p4), .val (.int ln), .val (.int nl), .val (.int c0'), .val (.int c1'), .val (.int c2'), .val (.ref b4), .val (.ref b5), .val (.ref b7), .val (.ref b10), .val (.ref b17), .val .null] [])) (fun t k => XS.icmpYes X18.here hx rfl (pc0 := 203) (pc' := 214) rfl (hb hby at_203) rfl (feq hc203).2 (by decide) (by decide) k) ?_
            refine own_goW (U' := T18.setTop (mkF m 216 #[.val (.int p1), .val (.int p2), .val (.int p3), .val (.int p4), .val (.int ln), .val (.int nl), .val (.int c0'), .val (.int c1'), .val (.int c2'), .val (.ref b4), .val (.ref b5), .val (.ref b7), .val (.ref b10), .val (.ref b17), .val .null] [(.int c0')])) (fun t k => XS.iload X18.here hx rfl (hb hby at_214) rfl k) ?_
            refine own_goW (U' := T18.setTop (mkF m 218 #[.val (.int p1), .val (.int p2), .val (.int p3), .val (.int p4), .val (.int ln), .val (.int nl), .val (.int c0'), .val (.int c1'), .val (.int c2'), .val (.ref b4), .val (.ref b5), .val (.ref b7), .val (.ref b10), .val (.ref b17), .val .null] [(.int (62 : Int32)), (.int c0')])) (fun t k => XS.bipush X18.here hx rfl (hb hby at_216) k) ?_
            by_cases hc218 : c0' = (62 : Int32)
            · refine own_goW (U' := T18.setTop (mkF m 221 #[.val (.int p1), .val (.int p2), .val (.int p3), .val (.int p4), .val (.int ln), .val (.int nl), .val (.int c0'), .val (.int c1'), .val (.int c2'), .val (.ref b4), .val (.ref b5), .val (.ref b7), .val (.ref b10), .val (.ref b17), .val .null] [])) (fun t k => XS.icmpNo X18.here hx rfl (hb hby at_218) rfl (teq hc218).2 k) ?_
              obtain ⟨T23, X23, e23, st23⟩ := getS2 X18 hx hZ hown (host := "") (Or.inl (hw _ (List.mem_of_getElem? (i := 75) rfl))) Via.refl e18 (S3.ext O.2) (g := (mkF m 221 #[.val (.int p1), .val (.int p2), .val (.int p3), .val (.int p4), .val (.int ln), .val (.int nl), .val (.int c0'), .val (.int c1'), .val (.int c2'), .val (.ref b4), .val (.ref b5), .val (.ref b7), .val (.ref b10), .val (.ref b17), .val .null] [])) rfl (hb hby at_221)
              refine own_goW (U' := T23.setTop (mkF m 224 #[.val (.int p1), .val (.int p2), .val (.int p3), .val (.int p4), .val (.int ln), .val (.int nl), .val (.int c0'), .val (.int c1'), .val (.int c2'), .val (.ref b4), .val (.ref b5), .val (.ref b7), .val (.ref b10), .val (.ref b17), .val .null] [(.ref en3)])) st23 ?_
              refine own_goW (U' := T23.setTop (mkF m 226 #[.val (.int p1), .val (.int p2), .val (.int p3), .val (.int p4), .val (.int ln), .val (.int nl), .val (.int c0'), .val (.int c1'), .val (.int c2'), .val (.ref b4), .val (.ref b5), .val (.ref b7), .val (.ref b10), .val (.ref b17), .val (.ref en3)] [])) (fun t k => XS.astore X23.here hx rfl (hb hby at_224) rfl rfl (l' := #[.val (.int p1), .val (.int p2), .val (.int p3), .val (.int p4), .val (.int ln), .val (.int nl), .val (.int c0'), .val (.int c1'), .val (.int c2'), .val (.ref b4), .val (.ref b5), .val (.ref b7), .val (.ref b10), .val (.ref b17), .val (.ref en3)]) rfl k) ?_
              refine own_goW (U' := T23.setTop (mkF m 298 #[.val (.int p1), .val (.int p2), .val (.int p3), .val (.int p4), .val (.int ln), .val (.int nl), .val (.int c0'), .val (.int c1'), .val (.int c2'), .val (.ref b4), .val (.ref b5), .val (.ref b7), .val (.ref b10), .val (.ref b17), .val (.ref en3)] [])) (fun t k => XS.goto X23.here hx rfl (pc0 := 226) (pc' := 298) rfl (hb hby at_226) (by decide) (by decide) k) ?_
              refine own_goW (U' := T23.setTop (mkF m 300 #[.val (.int p1), .val (.int p2), .val (.int p3), .val (.int p4), .val (.int ln), .val (.int nl), .val (.int c0'), .val (.int c1'), .val (.int c2'), .val (.ref b4), .val (.ref b5), .val (.ref b7), .val (.ref b10), .val (.ref b17), .val (.ref en3)] [(.ref b17)])) (fun t k => XS.aload X23.here hx rfl (hb hby at_298) rfl rfl k) ?_
              obtain ⟨v24, T24, h24, L24, e24, X24, hQ24, st24⟩ := own_callS X23 hx hZ (y := (⟨"com/example/pagemark/pagemark/statements/Restriction$Operator", "ofSymbol", "(Ljava/lang/String;)Lcom/example/pagemark/pagemark/statements/Restriction$Operator;"⟩ : MethodName)) hown (hw _ (List.mem_of_getElem? (i := 26) rfl)) (hw _ (List.mem_of_getElem? (i := 27) rfl)) (hw _ (List.mem_of_getElem? (i := 28) rfl)) (hw _ (List.mem_of_getElem? (i := 29) rfl)) (by decide) (own_rmos1 l Z a0 hw b17 h18 n0 en0 en1 en2 en3 en4 en5 O vv kv S_v V_v E_v tx0 tx1 tx2 tx3 tx4 tx5 bx0 bx1 bx2 bx3 bx4 bx5 kx0 kx1 kx2 kx3 kx4 kx5 FT0 ET0 FC0 FV0 VB0 FT1 ET1 FC1 FV1 VB1 FT2 ET2 FC2 FV2 VB2 FT3 ET3 FC3 FV3 VB3 FT4 ET4 FC4 FV4 VB4 FT5 ET5 FC5 FV5 VB5 cs hcs S_cs (own_bv c0') _ _ E_b17 F_coder_b17 F_value_b17 V_c) (W := 0) (by decide) (by decide) (g := (mkF m 300 #[.val (.int p1), .val (.int p2), .val (.int p3), .val (.int p4), .val (.int ln), .val (.int nl), .val (.int c0'), .val (.int c1'), .val (.int c2'), .val (.ref b4), .val (.ref b5), .val (.ref b7), .val (.ref b10), .val (.ref b17), .val (.ref en3)] [(.ref b17)])) rfl (by rw [hml]; rfl) (argsL := [(.ref b17)]) (rest := []) (lenOf own_pd10 rfl) rfl rfl (by show 2 * 0 + _ ≤ _; exact Nat.le_of_eq rfl) (hb hby at_300) e23 (by decide) (by decide)
              have hex : own_o1 en0 en1 en3 (own_bv c0') = (.ref en3) := by
                unfold own_o1
                simp only [k0_60, k0_61, k0_62, k0_73]
                simp [hc188, hc203, hc218]
              rw [hex] at hQ24
              obtain ⟨rfl, rfl, Kq⟩ := hQ24
              rw [List.append_nil] at X24
              have Sn := Sn.keep Kq
              have O := O.keep Kq all0
              have E_b17 := E_b17.keep Kq
              have F_coder_b17 := F_coder_b17.keep Kq nin0
              have F_value_b17 := F_value_b17.keep Kq nin0
              have V_c := V_c.keep Kq nin0
              refine own_goW (U' := T24.setTop (mkF m 303 #[.val (.int p1), .val (.int p2), .val (.int p3), .val (.int p4), .val (.int ln), .val (.int nl), .val (.int c0'), .val (.int c1'), .val (.int c2'), .val (.ref b4), .val (.ref b5), .val (.ref b7), .val (.ref b10), .val (.ref b17), .val (.ref en3)] [(.ref en3)])) st24 ?_
              refine own_goW (U' := T24.setTop (mkF m 305 #[.val (.int p1), .val (.int p2), .val (.int p3), .val (.int p4), .val (.int ln), .val (.int nl), .val (.int c0'), .val (.int c1'), .val (.int c2'), .val (.ref b4), .val (.ref b5), .val (.ref b7), .val (.ref b10), .val (.ref b17), .val (.ref en3)] [(.ref en3), (.ref en3)])) (fun t k => XS.aload X24.here hx rfl (hb hby at_303) rfl rfl k) ?_
              refine own_goW (U' := T24.setTop (mkF m 308 #[.val (.int p1), .val (.int p2), .val (.int p3), .val (.int p4), .val (.int ln), .val (.int nl), .val (.int c0'), .val (.int c1'), .val (.int c2'), .val (.ref b4), .val (.ref b5), .val (.ref b7), .val (.ref b10), .val (.ref b17), .val (.ref en3)] [])) (fun t k => Jvm.RoadKit.acmp (g := (mkF m 305 #[.val (.int p1), .val (.int p2), .val (.int p3), .val (.int p4), .val (.int ln), .val (.int nl), .val (.int c0'), .val (.int c1'), .val (.int c2'), .val (.ref b4), .val (.ref b5), .val (.ref b7), .val (.ref b10), .val (.ref b17), .val (.ref en3)] [(.ref en3), (.ref en3)])) X24 hx rfl rfl rfl (pc0 := 305) (pc' := 308) (same := true) rfl (hb hby at_305) rfl (decide_eq_true (congrArg Value.ref rfl)) (by decide) (by decide) k) ?_
              refine own_goW (U' := T24.setTop (mkF m 309 #[.val (.int p1), .val (.int p2), .val (.int p3), .val (.int p4), .val (.int ln), .val (.int nl), .val (.int c0'), .val (.int c1'), .val (.int c2'), .val (.ref b4), .val (.ref b5), .val (.ref b7), .val (.ref b10), .val (.ref b17), .val (.ref en3)] [(.int (1 : Int32))])) (fun t k => XS.iconst X24.here hx rfl (hb hby at_308) k) ?_
              refine own_goW (U' := T24.setTop (mkF m 313 #[.val (.int p1), .val (.int p2), .val (.int p3), .val (.int p4), .val (.int ln), .val (.int nl), .val (.int c0'), .val (.int c1'), .val (.int c2'), .val (.ref b4), .val (.ref b5), .val (.ref b7), .val (.ref b10), .val (.ref b17), .val (.ref en3)] [(.int (1 : Int32))])) (fun t k => XS.goto X24.here hx rfl (pc0 := 309) (pc' := 313) rfl (hb hby at_309) (by decide) (by decide) k) ?_
              refine own_retWN X24 hx Sn e24 I (t := .boolean) hret (by simp) hlk (hb hby at_313) ?_ (by decide) (by decide)
              exact ⟨rfl, N18⟩
            · refine own_goW (U' := T18.setTop (mkF m 298 #[.val (.int p1), .val (.int p2), .val (.int p3), .val (.int p4), .val (.int ln), .val (.int nl), .val (.int c0'), .val (.int c1'), .val (.int c2'), .val (.ref b4), .val (.ref b5), .val (.ref b7), .val (.ref b10), .val (.ref b17), .val .null] [])) (fun t k => XS.icmpYes X18.here hx rfl (pc0 := 218) (pc' := 298) rfl (hb hby at_218) rfl (feq hc218).2 (by decide) (by decide) k) ?_
              refine own_goW (U' := T18.setTop (mkF m 300 #[.val (.int p1), .val (.int p2), .val (.int p3), .val (.int p4), .val (.int ln), .val (.int nl), .val (.int c0'), .val (.int c1'), .val (.int c2'), .val (.ref b4), .val (.ref b5), .val (.ref b7), .val (.ref b10), .val (.ref b17), .val .null] [(.ref b17)])) (fun t k => XS.aload X18.here hx rfl (hb hby at_298) rfl rfl k) ?_
              obtain ⟨v25, T25, h25, L25, e25, X25, hQ25, st25⟩ := own_callS X18 hx hZ (y := (⟨"com/example/pagemark/pagemark/statements/Restriction$Operator", "ofSymbol", "(Ljava/lang/String;)Lcom/example/pagemark/pagemark/statements/Restriction$Operator;"⟩ : MethodName)) hown (hw _ (List.mem_of_getElem? (i := 26) rfl)) (hw _ (List.mem_of_getElem? (i := 27) rfl)) (hw _ (List.mem_of_getElem? (i := 28) rfl)) (hw _ (List.mem_of_getElem? (i := 29) rfl)) (by decide) (own_rmos1 l Z a0 hw b17 h18 n0 en0 en1 en2 en3 en4 en5 O vv kv S_v V_v E_v tx0 tx1 tx2 tx3 tx4 tx5 bx0 bx1 bx2 bx3 bx4 bx5 kx0 kx1 kx2 kx3 kx4 kx5 FT0 ET0 FC0 FV0 VB0 FT1 ET1 FC1 FV1 VB1 FT2 ET2 FC2 FV2 VB2 FT3 ET3 FC3 FV3 VB3 FT4 ET4 FC4 FV4 VB4 FT5 ET5 FC5 FV5 VB5 cs hcs S_cs (own_bv c0') _ _ E_b17 F_coder_b17 F_value_b17 V_c) (W := 0) (by decide) (by decide) (g := (mkF m 300 #[.val (.int p1), .val (.int p2), .val (.int p3), .val (.int p4), .val (.int ln), .val (.int nl), .val (.int c0'), .val (.int c1'), .val (.int c2'), .val (.ref b4), .val (.ref b5), .val (.ref b7), .val (.ref b10), .val (.ref b17), .val .null] [(.ref b17)])) rfl (by rw [hml]; rfl) (argsL := [(.ref b17)]) (rest := []) (lenOf own_pd10 rfl) rfl rfl (by show 2 * 0 + _ ≤ _; exact Nat.le_of_eq rfl) (hb hby at_300) e18 (by decide) (by decide)
              have hex : own_o1 en0 en1 en3 (own_bv c0') = .null := by
                unfold own_o1
                simp only [k0_60, k0_61, k0_62, k0_73]
                simp [hc188, hc203, hc218]
              rw [hex] at hQ25
              obtain ⟨rfl, rfl, Kq⟩ := hQ25
              rw [List.append_nil] at X25
              have Sn := Sn.keep Kq
              have O := O.keep Kq all0
              have E_b17 := E_b17.keep Kq
              have F_coder_b17 := F_coder_b17.keep Kq nin0
              have F_value_b17 := F_value_b17.keep Kq nin0
              have V_c := V_c.keep Kq nin0
              refine own_goW (U' := T25.setTop (mkF m 303 #[.val (.int p1), .val (.int p2), .val (.int p3), .val (.int p4), .val (.int ln), .val (.int nl), .val (.int c0'), .val (.int c1'), .val (.int c2'), .val (.ref b4), .val (.ref b5), .val (.ref b7), .val (.ref b10), .val (.ref b17), .val .null] [.null])) st25 ?_
              refine own_goW (U' := T25.setTop (mkF m 305 #[.val (.int p1), .val (.int p2), .val (.int p3), .val (.int p4), .val (.int ln), .val (.int nl), .val (.int c0'), .val (.int c1'), .val (.int c2'), .val (.ref b4), .val (.ref b5), .val (.ref b7), .val (.ref b10), .val (.ref b17), .val .null] [.null, .null])) (fun t k => XS.aload X25.here hx rfl (hb hby at_303) rfl rfl k) ?_
              refine own_goW (U' := T25.setTop (mkF m 308 #[.val (.int p1), .val (.int p2), .val (.int p3), .val (.int p4), .val (.int ln), .val (.int nl), .val (.int c0'), .val (.int c1'), .val (.int c2'), .val (.ref b4), .val (.ref b5), .val (.ref b7), .val (.ref b10), .val (.ref b17), .val .null] [])) (fun t k => Jvm.RoadKit.acmp (g := (mkF m 305 #[.val (.int p1), .val (.int p2), .val (.int p3), .val (.int p4), .val (.int ln), .val (.int nl), .val (.int c0'), .val (.int c1'), .val (.int c2'), .val (.ref b4), .val (.ref b5), .val (.ref b7), .val (.ref b10), .val (.ref b17), .val .null] [.null, .null])) X25 hx rfl rfl rfl (pc0 := 305) (pc' := 308) (same := true) rfl (hb hby at_305) rfl (decide_eq_true rfl) (by decide) (by decide) k) ?_
              refine own_goW (U' := T25.setTop (mkF m 309 #[.val (.int p1), .val (.int p2), .val (.int p3), .val (.int p4), .val (.int ln), .val (.int nl), .val (.int c0'), .val (.int c1'), .val (.int c2'), .val (.ref b4), .val (.ref b5), .val (.ref b7), .val (.ref b10), .val (.ref b17), .val .null] [(.int (1 : Int32))])) (fun t k => XS.iconst X25.here hx rfl (hb hby at_308) k) ?_
              refine own_goW (U' := T25.setTop (mkF m 313 #[.val (.int p1), .val (.int p2), .val (.int p3), .val (.int p4), .val (.int ln), .val (.int nl), .val (.int c0'), .val (.int c1'), .val (.int c2'), .val (.ref b4), .val (.ref b5), .val (.ref b7), .val (.ref b10), .val (.ref b17), .val .null] [(.int (1 : Int32))])) (fun t k => XS.goto X25.here hx rfl (pc0 := 309) (pc' := 313) rfl (hb hby at_309) (by decide) (by decide) k) ?_
              refine own_retWN X25 hx Sn e25 I (t := .boolean) hret (by simp) hlk (hb hby at_313) ?_ (by decide) (by decide)
              exact ⟨rfl, N18⟩
      · refine own_goW (U' := T13.setTop (mkF m 139 #[.val (.int p1), .val (.int p2), .val (.int p3), .val (.int p4), .val (.int ln), .val (.int nl), .val (.int c0'), .val (.int c1'), .val (.int c2'), .val (.ref b4), .val (.ref b5), .val (.ref b7), .val (.ref b10), .unset, .unset] [])) (fun t k => XS.icmpYes X13.here hx rfl (pc0 := 122) (pc' := 139) rfl (hb hby at_122) rfl (feq hl1).2 (by decide) (by decide) k) ?_
        refine own_goW (U' := T13.setTop (mkF m 141 #[.val (.int p1), .val (.int p2), .val (.int p3), .val (.int p4), .val (.int ln), .val (.int nl), .val (.int c0'), .val (.int c1'), .val (.int c2'), .val (.ref b4), .val (.ref b5), .val (.ref b7), .val (.ref b10), .unset, .unset] [(.int ln)])) (fun t k => XS.iload X13.here hx rfl (hb hby at_139) rfl k) ?_
        refine own_goW (U' := T13.setTop (mkF m 142 #[.val (.int p1), .val (.int p2), .val (.int p3), .val (.int p4), .val (.int ln), .val (.int nl), .val (.int c0'), .val (.int c1'), .val (.int c2'), .val (.ref b4), .val (.ref b5), .val (.ref b7), .val (.ref b10), .unset, .unset] [(.int (2 : Int32)), (.int ln)])) (fun t k => XS.iconst X13.here hx rfl (hb hby at_141) k) ?_
        by_cases hl2 : ln = (2 : Int32)
        · refine own_goW (U' := T13.setTop (mkF m 145 #[.val (.int p1), .val (.int p2), .val (.int p3), .val (.int p4), .val (.int ln), .val (.int nl), .val (.int c0'), .val (.int c1'), .val (.int c2'), .val (.ref b4), .val (.ref b5), .val (.ref b7), .val (.ref b10), .unset, .unset] [])) (fun t k => XS.icmpNo X13.here hx rfl (hb hby at_142) rfl (teq hl2).2 k) ?_
          obtain ⟨T26, h26, X26, e26, E26, A26, D26, -, st26⟩ := newO X13 hx hZ hown (hw _ (List.mem_of_getElem? (i := 5) rfl)) (hw _ (List.mem_of_getElem? (i := 6) rfl)) (hw _ (List.mem_of_getElem? (i := 7) rfl)) e13 (g := (mkF m 145 #[.val (.int p1), .val (.int p2), .val (.int p3), .val (.int p4), .val (.int ln), .val (.int nl), .val (.int c0'), .val (.int c1'), .val (.int c2'), .val (.ref b4), .val (.ref b5), .val (.ref b7), .val (.ref b10), .unset, .unset] [])) rfl (hb hby at_145) (by decide) (by decide)
          obtain ⟨b26, g26⟩ : ∃ z, z = h13.size := ⟨_, rfl⟩
          rw [← g26] at A26 D26 st26
          have ne_b4_b26 : b4 ≠ b26 := Nat.ne_of_lt (Nat.lt_of_lt_of_eq V_b4.lt g26.symm)
          have ne_b5_b26 : b5 ≠ b26 := Nat.ne_of_lt (Nat.lt_of_lt_of_eq V_b5.lt g26.symm)
          have ne_b7_b26 : b7 ≠ b26 := Nat.ne_of_lt (Nat.lt_of_lt_of_eq V_b7.lt g26.symm)
          have ne_b10_b26 : b10 ≠ b26 := Nat.ne_of_lt (Nat.lt_of_lt_of_eq V_b10.lt g26.symm)
          have g_b26 : n0 ≤ b26 := Nat.le_trans (Nat.le_trans (Nat.le_of_eq O.1.symm) O.2.1) (Nat.le_of_eq g26.symm)
          have Sn := Sn.ext E26
          have O := O.ext E26
          have V_b4 := V_b4.ext E26
          have E_b4 := E_b4.ext E26
          have V_b5 := V_b5.ext E26
          have E_b5 := E_b5.ext E26
          have V_b7 := V_b7.ext E26
          have E_b7 := E_b7.ext E26
          have V_b10 := V_b10.ext E26
          have E_b10 := E_b10.ext E26
          have E_b26 := A26
          have F_value_b26 : Fld Z h26 b26 "java/lang/String" "value" "[B" .null := D26 (Or.inr (hw _ (List.mem_of_getElem? (i := 20) rfl))) (ty := (.array .byte)) (by decide)
          have F_coder_b26 : Fld Z h26 b26 "java/lang/String" "coder" "B" (.int (0 : Int32)) := D26 (Or.inr (hw _ (List.mem_of_getElem? (i := 21) rfl))) (ty := .byte) (by decide)
          refine own_goW (U' := T26.setTop (mkF m 148 #[.val (.int p1), .val (.int p2), .val (.int p3), .val (.int p4), .val (.int ln), .val (.int nl), .val (.int c0'), .val (.int c1'), .val (.int c2'), .val (.ref b4), .val (.ref b5), .val (.ref b7), .val (.ref b10), .unset, .unset] [(.ref b26)])) st26 ?_
          refine own_goW (U' := T26.setTop (mkF m 149 #[.val (.int p1), .val (.int p2), .val (.int p3), .val (.int p4), .val (.int ln), .val (.int nl), .val (.int c0'), .val (.int c1'), .val (.int c2'), .val (.ref b4), .val (.ref b5), .val (.ref b7), .val (.ref b10), .unset, .unset] [(.ref b26), (.ref b26)])) (fun t k => XS.dup X26.here hx rfl (hb hby at_148) rfl rfl k) ?_
          refine own_goW (U' := T26.setTop (mkF m 151 #[.val (.int p1), .val (.int p2), .val (.int p3), .val (.int p4), .val (.int ln), .val (.int nl), .val (.int c0'), .val (.int c1'), .val (.int c2'), .val (.ref b4), .val (.ref b5), .val (.ref b7), .val (.ref b10), .unset, .unset] [(.ref b7), (.ref b26), (.ref b26)])) (fun t k => XS.aload X26.here hx rfl (hb hby at_149) rfl rfl k) ?_
          obtain ⟨v27, T27, h27, L27, e27, X27, hQ27, st27⟩ := own_callC X26 hx hZ (y := (⟨"java/lang/String", "<init>", "([C)V"⟩ : MethodName)) rfl hown (hw _ (List.mem_of_getElem? (i := 8) rfl)) (hw _ (List.mem_of_getElem? (i := 9) rfl)) (hw _ (List.mem_of_getElem? (i := 7) rfl)) (hw _ (List.mem_of_getElem? (i := 10) rfl)) (by decide) (a := b26) (own_rms12 l Z a0 hw b26 b7 h26 n0 g_b26 O cs hcs S_cs c0' c1' hb0 hb1 _ _ E_b26 F_value_b26 F_coder_b26 _ V_b7) (W := 1) (by decide) (by decide) (g := (mkF m 151 #[.val (.int p1), .val (.int p2), .val (.int p3), .val (.int p4), .val (.int ln), .val (.int nl), .val (.int c0'), .val (.int c1'), .val (.int c2'), .val (.ref b4), .val (.ref b5), .val (.ref b7), .val (.ref b10), .unset, .unset] [(.ref b7), (.ref b26), (.ref b26)])) rfl (by rw [hml]; rfl) (argsL := [(.ref b7)]) (rest := [(.ref b26)]) (lenOf own_pd4 rfl) rfl rfl (by show 2 * 0 + _ ≤ _; exact Nat.le_of_eq rfl) (hb hby at_151) e26 (by decide) (by decide)
          obtain ⟨rfl, Nq, Kq, c, kc, Fv, Fc, V_c, -⟩ := hQ27
          have Sn := Sn.keep Kq
          have O := O.keep Kq (allS g_b26 all0)
          have V_b4 := V_b4.keep Kq (ninS ne_b4_b26 nin0)
          have E_b4 := E_b4.keep Kq
          have V_b5 := V_b5.keep Kq (ninS ne_b5_b26 nin0)
          have E_b5 := E_b5.keep Kq
          have V_b7 := V_b7.keep Kq (ninS ne_b7_b26 nin0)
          have E_b7 := E_b7.keep Kq
          have V_b10 := V_b10.keep Kq (ninS ne_b10_b26 nin0)
          have E_b10 := E_b10.keep Kq
          have E_b26 := E_b26.keep Kq
          have F_value_b26 := Fv
          have F_coder_b26 := Fc
          have N27 := Fr.app N13 Nq
          refine own_goW (U' := T27.setTop (mkF m 154 #[.val (.int p1), .val (.int p2), .val (.int p3), .val (.int p4), .val (.int ln), .val (.int nl), .val (.int c0'), .val (.int c1'), .val (.int c2'), .val (.ref b4), .val (.ref b5), .val (.ref b7), .val (.ref b10), .unset, .unset] [(.ref b26)])) st27 ?_
          refine own_goW (U' := T27.setTop (mkF m 156 #[.val (.int p1), .val (.int p2), .val (.int p3), .val (.int p4), .val (.int ln), .val (.int nl), .val (.int c0'), .val (.int c1'), .val (.int c2'), .val (.ref b4), .val (.ref b5), .val (.ref b7), .val (.ref b10), .val (.ref b26), .unset] [])) (fun t k => XS.astore X27.here hx rfl (hb hby at_154) rfl rfl (l' := #[.val (.int p1), .val (.int p2), .val (.int p3), .val (.int p4), .val (.int ln), .val (.int nl), .val (.int c0'), .val (.int c1'), .val (.int c2'), .val (.ref b4), .val (.ref b5), .val (.ref b7), .val (.ref b10), .val (.ref b26), .unset]) rfl k) ?_
          refine own_goW (U' := T27.setTop (mkF m 170 #[.val (.int p1), .val (.int p2), .val (.int p3), .val (.int p4), .val (.int ln), .val (.int nl), .val (.int c0'), .val (.int c1'), .val (.int c2'), .val (.ref b4), .val (.ref b5), .val (.ref b7), .val (.ref b10), .val (.ref b26), .unset] [])) (fun t k => XS.goto X27.here hx rfl (pc0 := 156) (pc' := 170) rfl (hb hby at_156) (by decide) (by decide) k) ?_
          refine own_goW (U' := T27.setTop (mkF m 171 #[.val (.int p1), .val (.int p2), .val (.int p3), .val (.int p4), .val (.int ln), .val (.int nl), .val (.int c0'), .val (.int c1'), .val (.int c2'), .val (.ref b4), .val (.ref b5), .val (.ref b7), .val (.ref b10), .val (.ref b26), .unset] [.null])) (fun t k => XS.aconstNull X27.here hx rfl (hb hby at_170) k) ?_
          refine own_goW (U' := T27.setTop (mkF m 173 #[.val (.int p1), .val (.int p2), .val (.int p3), .val (.int p4), .val (.int ln), .val (.int nl), .val (.int c0'), .val (.int c1'), .val (.int c2'), .val (.ref b4), .val (.ref b5), .val (.ref b7), .val (.ref b10), .val (.ref b26), .val .null] [])) (fun t k => XS.astore X27.here hx rfl (hb hby at_171) rfl rfl (l' := #[.val (.int p1), .val (.int p2), .val (.int p3), .val (.int p4), .val (.int ln), .val (.int nl), .val (.int c0'), .val (.int c1'), .val (.int c2'), .val (.ref b4), .val (.ref b5), .val (.ref b7), .val (.ref b10), .val (.ref b26), .val .null]) rfl k) ?_
          refine own_goW (U' := T27.setTop (mkF m 175 #[.val (.int p1), .val (.int p2), .val (.int p3), .val (.int p4), .val (.int ln), .val (.int nl), .val (.int c0'), .val (.int c1'), .val (.int c2'), .val (.ref b4), .val (.ref b5), .val (.ref b7), .val (.ref b10), .val (.ref b26), .val .null] [(.int nl)])) (fun t k => XS.iload X27.here hx rfl (hb hby at_173) rfl k) ?_
          refine own_goW (U' := T27.setTop (mkF m 178 #[.val (.int p1), .val (.int p2), .val (.int p3), .val (.int p4), .val (.int ln), .val (.int nl), .val (.int c0'), .val (.int c1'), .val (.int c2'), .val (.ref b4), .val (.ref b5), .val (.ref b7), .val (.ref b10), .val (.ref b26), .val .null] [])) (fun t k => XS.ifNo X27.here hx rfl (hb hby at_175) rfl ((if0 _ _).trans (teq hnl).2) k) ?_
          refine own_goW (U' := T27.setTop (mkF m 180 #[.val (.int p1), .val (.int p2), .val (.int p3), .val (.int p4), .val (.int ln), .val (.int nl), .val (.int c0'), .val (.int c1'), .val (.int c2'), .val (.ref b4), .val (.ref b5), .val (.ref b7), .val (.ref b10), .val (.ref b26), .val .null] [(.int ln)])) (fun t k => XS.iload X27.here hx rfl (hb hby at_178) rfl k) ?_
          refine own_goW (U' := T27.setTop (mkF m 181 #[.val (.int p1), .val (.int p2), .val (.int p3), .val (.int p4), .val (.int ln), .val (.int nl), .val (.int c0'), .val (.int c1'), .val (.int c2'), .val (.ref b4), .val (.ref b5), .val (.ref b7), .val (.ref b10), .val (.ref b26), .val .null] [(.int (1 : Int32)), (.int ln)])) (fun t k => XS.iconst X27.here hx rfl (hb hby at_180) k) ?_
          refine own_goW (U' := T27.setTop (mkF m 229 #[.val (.int p1), .val (.int p2), .val (.int p3), .val (.int p4), .val (.int ln), .val (.int nl), .val (.int c0'), .val (.int c1'), .val (.int c2'), .val (.ref b4), .val (.ref b5), .val (.ref b7), .val (.ref b10), .val (.ref b26), .val .null] [])) (fun t k => XS.icmpYes X27.here hx rfl (pc0 := 181) (pc' := 229) rfl (hb hby at_181) rfl (feq (by rw [hl2]; decide)).2 (by decide) (by decide) k) ?_
          refine own_goW (U' := T27.setTop (mkF m 231 #[.val (.int p1), .val (.int p2), .val (.int p3), .val (.int p4), .val (.int ln), .val (.int nl), .val (.int c0'), .val (.int c1'), .val (.int c2'), .val (.ref b4), .val (.ref b5), .val (.ref b7), .val (.ref b10), .val (.ref b26), .val .null] [(.int ln)])) (fun t k => XS.iload X27.here hx rfl (hb hby at_229) rfl k) ?_
          refine own_goW (U' := T27.setTop (mkF m 232 #[.val (.int p1), .val (.int p2), .val (.int p3), .val (.int p4), .val (.int ln), .val (.int nl), .val (.int c0'), .val (.int c1'), .val (.int c2'), .val (.ref b4), .val (.ref b5), .val (.ref b7), .val (.ref b10), .val (.ref b26), .val .null] [(.int (2 : Int32)), (.int ln)])) (fun t k => XS.iconst X27.here hx rfl (hb hby at_231) k) ?_
          refine own_goW (U' := T27.setTop (mkF m 235 #[.val (.int p1), .val (.int p2), .val (.int p3), .val (.int p4), .val (.int ln), .val (.int nl), .val (.int c0'), .val (.int c1'), .val (.int c2'), .val (.ref b4), .val (.ref b5), .val (.ref b7), .val (.ref b10), .val (.ref b26), .val .null] [])) (fun t k => XS.icmpNo X27.here hx rfl (hb hby at_232) rfl (teq hl2).2 k) ?_
          refine own_goW (U' := T27.setTop (mkF m 237 #[.val (.int p1), .val (.int p2), .val (.int p3), .val (.int p4), .val (.int ln), .val (.int nl), .val (.int c0'), .val (.int c1'), .val (.int c2'), .val (.ref b4), .val (.ref b5), .val (.ref b7), .val (.ref b10), .val (.ref b26), .val .null] [(.int c0')])) (fun t k => XS.iload X27.here hx rfl (hb hby at_235) rfl k) ?_
          refine own_goW (U' := T27.setTop (mkF m 239 #[.val (.int p1), .val (.int p2), .val (.int p3), .val (.int p4), .val (.int ln), .val (.int nl), .val (.int c0'), .val (.int c1'), .val (.int c2'), .val (.ref b4), .val (.ref b5), .val (.ref b7), .val (.ref b10), .val (.ref b26), .val .null] [(.int (60 : Int32)), (.int c0')])) (fun t k => XS.bipush X27.here hx rfl (hb hby at_237) k) ?_
          by_cases hc239 : c0' = (60 : Int32)
          · refine own_goW (U' := T27.setTop (mkF m 242 #[.val (.int p1), .val (.int p2), .val (.int p3), .val (.int p4), .val (.int ln), .val (.int nl), .val (.int c0'), .val (.int c1'), .val (.int c2'), .val (.ref b4), .val (.ref b5), .val (.ref b7), .val (.ref b10), .val (.ref b26), .val .null] [])) (fun t k => XS.icmpNo X27.here hx rfl (hb hby at_239) rfl (teq hc239).2 k) ?_
            refine own_goW (U' := T27.setTop (mkF m 244 #[.val (.int p1), .val (.int p2), .val (.int p3), .val (.int p4), .val (.int ln), .val (.int nl), .val (.int c0'), .val (.int c1'), .val (.int c2'), .val (.ref b4), .val (.ref b5), .val (.ref b7), .val (.ref b10), .val (.ref b26), .val .null] [(.int c1')])) (fun t k => XS.iload X27.here hx rfl (hb hby at_242) rfl k) ?_
            refine own_goW (U' := T27.setTop (mkF m 246 #[.val (.int p1), .val (.int p2), .val (.int p3), .val (.int p4), .val (.int ln), .val (.int nl), .val (.int c0'), .val (.int c1'), .val (.int c2'), .val (.ref b4), .val (.ref b5), .val (.ref b7), .val (.ref b10), .val (.ref b26), .val .null] [(.int (61 : Int32)), (.int c1')])) (fun t k => XS.bipush X27.here hx rfl (hb hby at_244) k) ?_
            by_cases hc246 : c1' = (61 : Int32)
            · refine own_goW (U' := T27.setTop (mkF m 249 #[.val (.int p1), .val (.int p2), .val (.int p3), .val (.int p4), .val (.int ln), .val (.int nl), .val (.int c0'), .val (.int c1'), .val (.int c2'), .val (.ref b4), .val (.ref b5), .val (.ref b7), .val (.ref b10), .val (.ref b26), .val .null] [])) (fun t k => XS.icmpNo X27.here hx rfl (hb hby at_246) rfl (teq hc246).2 k) ?_
              obtain ⟨T28, X28, e28, st28⟩ := getS2 X27 hx hZ hown (host := "") (Or.inl (hw _ (List.mem_of_getElem? (i := 77) rfl))) Via.refl e27 (S2.ext O.2) (g := (mkF m 249 #[.val (.int p1), .val (.int p2), .val (.int p3), .val (.int p4), .val (.int ln), .val (.int nl), .val (.int c0'), .val (.int c1'), .val (.int c2'), .val (.ref b4), .val (.ref b5), .val (.ref b7), .val (.ref b10), .val (.ref b26), .val .null] [])) rfl (hb hby at_249)
              refine own_goW (U' := T28.setTop (mkF m 252 #[.val (.int p1), .val (.int p2), .val (.int p3), .val (.int p4), .val (.int ln), .val (.int nl), .val (.int c0'), .val (.int c1'), .val (.int c2'), .val (.ref b4), .val (.ref b5), .val (.ref b7), .val (.ref b10), .val (.ref b26), .val .null] [(.ref en2)])) st28 ?_
              refine own_goW (U' := T28.setTop (mkF m 254 #[.val (.int p1), .val (.int p2), .val (.int p3), .val (.int p4), .val (.int ln), .val (.int nl), .val (.int c0'), .val (.int c1'), .val (.int c2'), .val (.ref b4), .val (.ref b5), .val (.ref b7), .val (.ref b10), .val (.ref b26), .val (.ref en2)] [])) (fun t k => XS.astore X28.here hx rfl (hb hby at_252) rfl rfl (l' := #[.val (.int p1), .val (.int p2), .val (.int p3), .val (.int p4), .val (.int ln), .val (.int nl), .val (.int c0'), .val (.int c1'), .val (.int c2'), .val (.ref b4), .val (.ref b5), .val (.ref b7), .val (.ref b10), .val (.ref b26), .val (.ref en2)]) rfl k) ?_
              refine own_goW (U' := T28.setTop (mkF m 298 #[.val (.int p1), .val (.int p2), .val (.int p3), .val (.int p4), .val (.int ln), .val (.int nl), .val (.int c0'), .val (.int c1'), .val (.int c2'), .val (.ref b4), .val (.ref b5), .val (.ref b7), .val (.ref b10), .val (.ref b26), .val (.ref en2)] [])) (fun t k => XS.goto X28.here hx rfl (pc0 := 254) (pc' := 298) rfl (hb hby at_254) (by decide) (by decide) k) ?_
              refine own_goW (U' := T28.setTop (mkF m 300 #[.val (.int p1), .val (.int p2), .val (.int p3), .val (.int p4), .val (.int ln), .val (.int nl), .val (.int c0'), .val (.int c1'), .val (.int c2'), .val (.ref b4), .val (.ref b5), .val (.ref b7), .val (.ref b10), .val (.ref b26), .val (.ref en2)] [(.ref b26)])) (fun t k => XS.aload X28.here hx rfl (hb hby at_298) rfl rfl k) ?_
              obtain ⟨v29, T29, h29, L29, e29, X29, hQ29, st29⟩ := own_callS X28 hx hZ (y := (⟨"com/example/pagemark/pagemark/statements/Restriction$Operator", "ofSymbol", "(Ljava/lang/String;)Lcom/example/pagemark/pagemark/statements/Restriction$Operator;"⟩ : MethodName)) hown (hw _ (List.mem_of_getElem? (i := 26) rfl)) (hw _ (List.mem_of_getElem? (i := 27) rfl)) (hw _ (List.mem_of_getElem? (i := 28) rfl)) (hw _ (List.mem_of_getElem? (i := 29) rfl)) (by decide) (own_rmos2 l Z a0 hw b26 h27 n0 en0 en1 en2 en3 en4 en5 O vv kv S_v V_v E_v tx0 tx1 tx2 tx3 tx4 tx5 bx0 bx1 bx2 bx3 bx4 bx5 kx0 kx1 kx2 kx3 kx4 kx5 FT0 ET0 FC0 FV0 VB0 FT1 ET1 FC1 FV1 VB1 FT2 ET2 FC2 FV2 VB2 FT3 ET3 FC3 FV3 VB3 FT4 ET4 FC4 FV4 VB4 FT5 ET5 FC5 FV5 VB5 cs hcs S_cs (own_bv c0') (own_bv c1') _ _ E_b26 F_coder_b26 F_value_b26 V_c) (W := 0) (by decide) (by decide) (g := (mkF m 300 #[.val (.int p1), .val (.int p2), .val (.int p3), .val (.int p4), .val (.int ln), .val (.int nl), .val (.int c0'), .val (.int c1'), .val (.int c2'), .val (.ref b4), .val (.ref b5), .val (.ref b7), .val (.ref b10), .val (.ref b26), .val (.ref en2)] [(.ref b26)])) rfl (by rw [hml]; rfl) (argsL := [(.ref b26)]) (rest := []) (lenOf own_pd10 rfl) rfl rfl (by show 2 * 0 + _ ≤ _; exact Nat.le_of_eq rfl) (hb hby at_300) e28 (by decide) (by decide)
              have hex : own_o2 en2 en4 en5 (own_bv c0') (own_bv c1') = (.ref en2) := by
                unfold own_o2
                simp only [k0_60, k0_61, k0_62, k0_73, k1_61, k1_78]
                simp [hc239, hc246]
              rw [hex] at hQ29
              obtain ⟨rfl, rfl, Kq⟩ := hQ29
              rw [List.append_nil] at X29
              have Sn := Sn.keep Kq
              have O := O.keep Kq all0
              have E_b26 := E_b26.keep Kq
              have F_coder_b26 := F_coder_b26.keep Kq nin0
              have F_value_b26 := F_value_b26.keep Kq nin0
              have V_c := V_c.keep Kq nin0
              refine own_goW (U' := T29.setTop (mkF m 303 #[.val (.int p1), .val (.int p2), .val (.int p3), .val (.int p4), .val (.int ln), .val (.int nl), .val (.int c0'), .val (.int c1'), .val (.int c2'), .val (.ref b4), .val (.ref b5), .val (.ref b7), .val (.ref b10), .val (.ref b26), .val (.ref en2)] [(.ref en2)])) st29 ?_
              refine own_goW (U' := T29.setTop (mkF m 305 #[.val (.int p1), .val (.int p2), .val (.int p3), .val (.int p4), .val (.int ln), .val (.int nl), .val (.int c0'), .val (.int c1'), .val (.int c2'), .val (.ref b4), .val (.ref b5), .val (.ref b7), .val (.ref b10), .val (.ref b26), .val (.ref en2)] [(.ref en2), (.ref en2)])) (fun t k => XS.aload X29.here hx rfl (hb hby at_303) rfl rfl k) ?_
              refine own_goW (U' := T29.setTop (mkF m 308 #[.val (.int p1), .val (.int p2), .val (.int p3), .val (.int p4), .val (.int ln), .val (.int nl), .val (.int c0'), .val (.int c1'), .val (.int c2'), .val (.ref b4), .val (.ref b5), .val (.ref b7), .val (.ref b10), .val (.ref b26), .val (.ref en2)] [])) (fun t k => Jvm.RoadKit.acmp (g := (mkF m 305 #[.val (.int p1), .val (.int p2), .val (.int p3), .val (.int p4), .val (.int ln), .val (.int nl), .val (.int c0'), .val (.int c1'), .val (.int c2'), .val (.ref b4), .val (.ref b5), .val (.ref b7), .val (.ref b10), .val (.ref b26), .val (.ref en2)] [(.ref en2), (.ref en2)])) X29 hx rfl rfl rfl (pc0 := 305) (pc' := 308) (same := true) rfl (hb hby at_305) rfl (decide_eq_true (congrArg Value.ref rfl)) (by decide) (by decide) k) ?_
              refine own_goW (U' := T29.setTop (mkF m 309 #[.val (.int p1), .val (.int p2), .val (.int p3), .val (.int p4), .val (.int ln), .val (.int nl), .val (.int c0'), .val (.int c1'), .val (.int c2'), .val (.ref b4), .val (.ref b5), .val (.ref b7), .val (.ref b10), .val (.ref b26), .val (.ref en2)] [(.int (1 : Int32))])) (fun t k => XS.iconst X29.here hx rfl (hb hby at_308) k) ?_
              refine own_goW (U' := T29.setTop (mkF m 313 #[.val (.int p1), .val (.int p2), .val (.int p3), .val (.int p4), .val (.int ln), .val (.int nl), .val (.int c0'), .val (.int c1'), .val (.int c2'), .val (.ref b4), .val (.ref b5), .val (.ref b7), .val (.ref b10), .val (.ref b26), .val (.ref en2)] [(.int (1 : Int32))])) (fun t k => XS.goto X29.here hx rfl (pc0 := 309) (pc' := 313) rfl (hb hby at_309) (by decide) (by decide) k) ?_
              refine own_retWN X29 hx Sn e29 I (t := .boolean) hret (by simp) hlk (hb hby at_313) ?_ (by decide) (by decide)
              exact ⟨rfl, N27⟩
            · refine own_goW (U' := T27.setTop (mkF m 257 #[.val (.int p1), .val (.int p2), .val (.int p3), .val (.int p4), .val (.int ln), .val (.int nl), .val (.int c0'), .val (.int c1'), .val (.int c2'), .val (.ref b4), .val (.ref b5), .val (.ref b7), .val (.ref b10), .val (.ref b26), .val .null] [])) (fun t k => XS.icmpYes X27.here hx rfl (pc0 := 246) (pc' := 257) rfl (hb hby at_246) rfl (feq hc246).2 (by decide) (by decide) k) ?_
              refine own_goW (U' := T27.setTop (mkF m 259 #[.val (.int p1), .val (.int p2), .val (.int p3), .val (.int p4), .val (.int ln), .val (.int nl), .val (.int c0'), .val (.int c1'), .val (.int c2'), .val (.ref b4), .val (.ref b5), .val (.ref b7), .val (.ref b10), .val (.ref b26), .val .null] [(.int c0')])) (fun t k => XS.iload X27.here hx rfl (hb hby at_257) rfl k) ?_
              refine own_goW (U' := T27.setTop (mkF m 261 #[.val (.int p1), .val (.int p2), .val (.int p3), .val (.int p4), .val (.int ln), .val (.int nl), .val (.int c0'), .val (.int c1'), .val (.int c2'), .val (.ref b4), .val (.ref b5), .val (.ref b7), .val (.ref b10), .val (.ref b26), .val .null] [(.int (62 : Int32)), (.int c0')])) (fun t k => XS.bipush X27.here hx rfl (hb hby at_259) k) ?_
              by_cases hc261 : c0' = (62 : Int32)
              · refine own_goW (U' := T27.setTop (mkF m 264 #[.val (.int p1), .val (.int p2), .val (.int p3), .val (.int p4), .val (.int ln), .val (.int nl), .val (.int c0'), .val (.int c1'), .val (.int c2'), .val (.ref b4), .val (.ref b5), .val (.ref b7), .val (.ref b10), .val (.ref b26), .val .null] [])) (fun t k => XS.icmpNo X27.here hx rfl (hb hby at_261) rfl (teq hc261).2 k) ?_
                refine own_goW (U' := T27.setTop (mkF m 266 #[.val (.int p1), .val (.int p2), .val (.int p3), .val (.int p4), .val (.int ln), .val (.int nl), .val (.int c0'), .val (.int c1'), .val (.int c2'), .val (.ref b4), .val (.ref b5), .val (.ref b7), .val (.ref b10), .val (.ref b26), .val .null] [(.int c1')])) (fun t k => XS.iload X27.here hx rfl (hb hby at_264) rfl k) ?_
                refine own_goW (U' := T27.setTop (mkF m 268 #[.val (.int p1), .val (.int p2), .val (.int p3), .val (.int p4), .val (.int ln), .val (.int nl), .val (.int c0'), .val (.int c1'), .val (.int c2'), .val (.ref b4), .val (.ref b5), .val (.ref b7), .val (.ref b10), .val (.ref b26), .val .null] [(.int (61 : Int32)), (.int c1')])) (fun t k => XS.bipush X27.here hx rfl (hb hby at_266) k) ?_
                by_cases hc268 : c1' = (61 : Int32)
                · refine own_goW (U' := T27.setTop (mkF m 271 #[.val (.int p1), .val (.int p2), .val (.int p3), .val (.int p4), .val (.int ln), .val (.int nl), .val (.int c0'), .val (.int c1'), .val (.int c2'), .val (.ref b4), .val (.ref b5), .val (.ref b7), .val (.ref b10), .val (.ref b26), .val .null] [])) (fun t k => XS.icmpNo X27.here hx rfl (hb hby at_268) rfl (teq hc268).2 k) ?_
                  exact absurd (hc239.symm.trans hc261) (by decide)
                · refine own_goW (U' := T27.setTop (mkF m 279 #[.val (.int p1), .val (.int p2), .val (.int p3), .val (.int p4), .val (.int ln), .val (.int nl), .val (.int c0'), .val (.int c1'), .val (.int c2'), .val (.ref b4), .val (.ref b5), .val (.ref b7), .val (.ref b10), .val (.ref b26), .val .null] [])) (fun t k => XS.icmpYes X27.here hx rfl (pc0 := 268) (pc' := 279) rfl (hb hby at_268) rfl (feq hc268).2 (by decide) (by decide) k) ?_
                  refine own_goW (U' := T27.setTop (mkF m 281 #[.val (.int p1), .val (.int p2), .val (.int p3), .val (.int p4), .val (.int ln), .val (.int nl), .val (.int c0'), .val (.int c1'), .val (.int c2'), .val (.ref b4), .val (.ref b5), .val (.ref b7), .val (.ref b10), .val (.ref b26), .val .null] [(.int c0')])) (fun t k => XS.iload X27.here hx rfl (hb hby at_279) rfl k) ?_
                  refine own_goW (U' := T27.setTop (mkF m 283 #[.val (.int p1), .val (.int p2), .val (.int p3), .val (.int p4), .val (.int ln), .val (.int nl), .val (.int c0'), .val (.int c1'), .val (.int c2'), .val (.ref b4), .val (.ref b5), .val (.ref b7), .val (.ref b10), .val (.ref b26), .val .null] [(.int (73 : Int32)), (.int c0')])) (fun t k => XS.bipush X27.here hx rfl (hb hby at_281) k) ?_
                  by_cases hc283 : c0' = (73 : Int32)
                  · refine own_goW (U' := T27.setTop (mkF m 286 #[.val (.int p1), .val (.int p2), .val (.int p3), .val (.int p4), .val (.int ln), .val (.int nl), .val (.int c0'), .val (.int c1'), .val (.int c2'), .val (.ref b4), .val (.ref b5), .val (.ref b7), .val (.ref b10), .val (.ref b26), .val .null] [])) (fun t k => XS.icmpNo X27.here hx rfl (hb hby at_283) rfl (teq hc283).2 k) ?_
                    refine own_goW (U' := T27.setTop (mkF m 288 #[.val (.int p1), .val (.int p2), .val (.int p3), .val (.int p4), .val (.int ln), .val (.int nl), .val (.int c0'), .val (.int c1'), .val (.int c2'), .val (.ref b4), .val (.ref b5), .val (.ref b7), .val (.ref b10), .val (.ref b26), .val .null] [(.int c1')])) (fun t k => XS.iload X27.here hx rfl (hb hby at_286) rfl k) ?_
                    refine own_goW (U' := T27.setTop (mkF m 290 #[.val (.int p1), .val (.int p2), .val (.int p3), .val (.int p4), .val (.int ln), .val (.int nl), .val (.int c0'), .val (.int c1'), .val (.int c2'), .val (.ref b4), .val (.ref b5), .val (.ref b7), .val (.ref b10), .val (.ref b26), .val .null] [(.int (78 : Int32)), (.int c1')])) (fun t k => XS.bipush X27.here hx rfl (hb hby at_288) k) ?_
                    by_cases hc290 : c1' = (78 : Int32)
                    · refine own_goW (U' := T27.setTop (mkF m 293 #[.val (.int p1), .val (.int p2), .val (.int p3), .val (.int p4), .val (.int ln), .val (.int nl), .val (.int c0'), .val (.int c1'), .val (.int c2'), .val (.ref b4), .val (.ref b5), .val (.ref b7), .val (.ref b10), .val (.ref b26), .val .null] [])) (fun t k => XS.icmpNo X27.here hx rfl (hb hby at_290) rfl (teq hc290).2 k) ?_
                      exact absurd (hc239.symm.trans hc261) (by decide)
                    · refine own_goW (U' := T27.setTop (mkF m 298 #[.val (.int p1), .val (.int p2), .val (.int p3), .val (.int p4), .val (.int ln), .val (.int nl), .val (.int c0'), .val (.int c1'), .val (.int c2'), .val (.ref b4), .val (.ref b5), .val (.ref b7), .val (.ref b10), .val (.ref b26), .val .null] [])) (fun t k => XS.icmpYes X27.here hx rfl (pc0 := 290) (pc' := 298) rfl (hb hby at_290) rfl (feq hc290).2 (by decide) (by decide) k) ?_
                      refine own_goW (U' := T27.setTop (mkF m 300 #[.val (.int p1), .val (.int p2), .val (.int p3), .val (.int p4), .val (.int ln), .val (.int nl), .val (.int c0'), .val (.int c1'), .val (.int c2'), .val (.ref b4), .val (.ref b5), .val (.ref b7), .val (.ref b10), .val (.ref b26), .val .null] [(.ref b26)])) (fun t k => XS.aload X27.here hx rfl (hb hby at_298) rfl rfl k) ?_
                      exact absurd (hc239.symm.trans hc261) (by decide)
                  · refine own_goW (U' := T27.setTop (mkF m 298 #[.val (.int p1), .val (.int p2), .val (.int p3), .val (.int p4), .val (.int ln), .val (.int nl), .val (.int c0'), .val (.int c1'), .val (.int c2'), .val (.ref b4), .val (.ref b5), .val (.ref b7), .val (.ref b10), .val (.ref b26), .val .null] [])) (fun t k => XS.icmpYes X27.here hx rfl (pc0 := 283) (pc' := 298) rfl (hb hby at_283) rfl (feq hc283).2 (by decide) (by decide) k) ?_
                    refine own_goW (U' := T27.setTop (mkF m 300 #[.val (.int p1), .val (.int p2), .val (.int p3), .val (.int p4), .val (.int ln), .val (.int nl), .val (.int c0'), .val (.int c1'), .val (.int c2'), .val (.ref b4), .val (.ref b5), .val (.ref b7), .val (.ref b10), .val (.ref b26), .val .null] [(.ref b26)])) (fun t k => XS.aload X27.here hx rfl (hb hby at_298) rfl rfl k) ?_
                    exact absurd (hc239.symm.trans hc261) (by decide)
              · refine own_goW (U' := T27.setTop (mkF m 279 #[.val (.int p1), .val (.int p2), .val (.int p3), .val (.int p4), .val (.int ln), .val (.int nl), .val (.int c0'), .val (.int c1'), .val (.int c2'), .val (.ref b4), .val (.ref b5), .val (.ref b7), .val (.ref b10), .val (.ref b26), .val .null] [])) (fun t k => XS.icmpYes X27.here hx rfl (pc0 := 261) (pc' := 279) rfl (hb hby at_261) rfl (feq hc261).2 (by decide) (by decide) k) ?_
                refine own_goW (U' := T27.setTop (mkF m 281 #[.val (.int p1), .val (.int p2), .val (.int p3), .val (.int p4), .val (.int ln), .val (.int nl), .val (.int c0'), .val (.int c1'), .val (.int c2'), .val (.ref b4), .val (.ref b5), .val (.ref b7), .val (.ref b10), .val (.ref b26), .val .null] [(.int c0')])) (fun t k => XS.iload X27.here hx rfl (hb hby at_279) rfl k) ?_
                refine own_goW (U' := T27.setTop (mkF m 283 #[.val (.int p1), .val (.int p2), .val (.int p3), .val (.int p4), .val (.int ln), .val (.int nl), .val (.int c0'), .val (.int c1'), .val (.int c2'), .val (.ref b4), .val (.ref b5), .val (.ref b7), .val (.ref b10), .val (.ref b26), .val .null] [(.int (73 : Int32)), (.int c0')])) (fun t k => XS.bipush X27.here hx rfl (hb hby at_281) k) ?_
                by_cases hc283 : c0' = (73 : Int32)
                · refine own_goW (U' := T27.setTop (mkF m 286 #[.val (.int p1), .val (.int p2), .val (.int p3), .val (.int p4), .val (.int ln), .val (.int nl), .val (.int c0'), .val (.int c1'), .val (.int c2'), .val (.ref b4), .val (.ref b5), .val (.ref b7), .val (.ref b10), .val (.ref b26), .val .null] [])) (fun t k => XS.icmpNo X27.here hx rfl (hb hby at_283) rfl (teq hc283).2 k) ?_
                  refine own_goW (U' := T27.setTop (mkF m 288 #[.val (.int p1), .val (.int p2), .val (.int p3), .val (.int p4), .val (.int ln), .val (.int nl), .val (.int c0'), .val (.int c1'), .val (.int c2'), .val (.ref b4), .val (.ref b5), .val (.ref b7), .val (.ref b10), .val (.ref b26), .val .null] [(.int c1')])) (fun t k => XS.iload X27.here hx rfl (hb hby at_286) rfl k) ?_
                  refine own_goW (U' := T27.setTop (mkF m 290 #[.val (.int p1), .val (.int p2), .val (.int p3), .val (.int p4), .val (.int ln), .val (.int nl), .val (.int c0'), .val (.int c1'), .val (.int c2'), .val (.ref b4), .val (.ref b5), .val (.ref b7), .val (.ref b10), .val (.ref b26), .val .null] [(.int (78 : Int32)), (.int c1')])) (fun t k => XS.bipush X27.here hx rfl (hb hby at_288) k) ?_
                  by_cases hc290 : c1' = (78 : Int32)
                  · refine own_goW (U' := T27.setTop (mkF m 293 #[.val (.int p1), .val (.int p2), .val (.int p3), .val (.int p4), .val (.int ln), .val (.int nl), .val (.int c0'), .val (.int c1'), .val (.int c2'), .val (.ref b4), .val (.ref b5), .val (.ref b7), .val (.ref b10), .val (.ref b26), .val .null] [])) (fun t k => XS.icmpNo X27.here hx rfl (hb hby at_290) rfl (teq hc290).2 k) ?_
                    exact absurd (hc239.symm.trans hc283) (by decide)
                  · refine own_goW (U' := T27.setTop (mkF m 298 #[.val (.int p1), .val (.int p2), .val (.int p3), .val (.int p4), .val (.int ln), .val (.int nl), .val (.int c0'), .val (.int c1'), .val (.int c2'), .val (.ref b4), .val (.ref b5), .val (.ref b7), .val (.ref b10), .val (.ref b26), .val .null] [])) (fun t k => XS.icmpYes X27.here hx rfl (pc0 := 290) (pc' := 298) rfl (hb hby at_290) rfl (feq hc290).2 (by decide) (by decide) k) ?_
                    refine own_goW (U' := T27.setTop (mkF m 300 #[.val (.int p1), .val (.int p2), .val (.int p3), .val (.int p4), .val (.int ln), .val (.int nl), .val (.int c0'), .val (.int c1'), .val (.int c2'), .val (.ref b4), .val (.ref b5), .val (.ref b7), .val (.ref b10), .val (.ref b26), .val .null] [(.ref b26)])) (fun t k => XS.aload X27.here hx rfl (hb hby at_298) rfl rfl k) ?_
                    exact absurd (hc239.symm.trans hc283) (by decide)
                · refine own_goW (U' := T27.setTop (mkF m 298 #[.val (.int p1), .val (.int p2), .val (.int p3), .val (.int p4), .val (.int ln), .val (.int nl), .val (.int c0'), .val (.int c1'), .val (.int c2'), .val (.ref b4), .val (.ref b5), .val (.ref b7), .val (.ref b10), .val (.ref b26), .val .null] [])) (fun t k => XS.icmpYes X27.here hx rfl (pc0 := 283) (pc' := 298) rfl (hb hby at_283) rfl (feq hc283).2 (by decide) (by decide) k) ?_
                  refine own_goW (U' := T27.setTop (mkF m 300 #[.val (.int p1), .val (.int p2), .val (.int p3), .val (.int p4), .val (.int ln), .val (.int nl), .val (.int c0'), .val (.int c1'), .val (.int c2'), .val (.ref b4), .val (.ref b5), .val (.ref b7), .val (.ref b10), .val (.ref b26), .val .null] [(.ref b26)])) (fun t k => XS.aload X27.here hx rfl (hb hby at_298) rfl rfl k) ?_
                  obtain ⟨v30, T30, h30, L30, e30, X30, hQ30, st30⟩ := own_callS X27 hx hZ (y := (⟨"com/example/pagemark/pagemark/statements/Restriction$Operator", "ofSymbol", "(Ljava/lang/String;)Lcom/example/pagemark/pagemark/statements/Restriction$Operator;"⟩ : MethodName)) hown (hw _ (List.mem_of_getElem? (i := 26) rfl)) (hw _ (List.mem_of_getElem? (i := 27) rfl)) (hw _ (List.mem_of_getElem? (i := 28) rfl)) (hw _ (List.mem_of_getElem? (i := 29) rfl)) (by decide) (own_rmos2 l Z a0 hw b26 h27 n0 en0 en1 en2 en3 en4 en5 O vv kv S_v V_v E_v tx0 tx1 tx2 tx3 tx4 tx5 bx0 bx1 bx2 bx3 bx4 bx5 kx0 kx1 kx2 kx3 kx4 kx5 FT0 ET0 FC0 FV0 VB0 FT1 ET1 FC1 FV1 VB1 FT2 ET2 FC2 FV2 VB2 FT3 ET3 FC3 FV3 VB3 FT4 ET4 FC4 FV4 VB4 FT5 ET5 FC5 FV5 VB5 cs hcs S_cs (own_bv c0') (own_bv c1') _ _ E_b26 F_coder_b26 F_value_b26 V_c) (W := 0) (by decide) (by decide) (g := (mkF m 300 #[.val (.int p1), .val (.int p2), .val (.int p3), .val (.int p4), .val (.int ln), .val (.int nl), .val (.int c0'), .val (.int c1'), .val (.int c2'), .val (.ref b4), .val (.ref b5), .val (.ref b7), .val (.ref b10), .val (.ref b26), .val .null] [(.ref b26)])) rfl (by rw [hml]; rfl) (argsL := [(.ref b26)]) (rest := []) (lenOf own_pd10 rfl) rfl rfl (by show 2 * 0 + _ ≤ _; exact Nat.le_of_eq rfl) (hb hby at_300) e27 (by decide) (by decide)
                  have hex : own_o2 en2 en4 en5 (own_bv c0') (own_bv c1') = .null := by
                    unfold own_o2
                    simp only [k0_60, k0_61, k0_62, k0_73, k1_61, k1_78]
                    simp [hc239, hc246, hc261, hc283]
                  rw [hex] at hQ30
                  obtain ⟨rfl, rfl, Kq⟩ := hQ30
                  rw [List.append_nil] at X30
                  have Sn := Sn.keep Kq
                  have O := O.keep Kq all0
                  have E_b26 := E_b26.keep Kq
                  have F_coder_b26 := F_coder_b26.keep Kq nin0
                  have F_value_b26 := F_value_b26.keep Kq nin0
                  have V_c := V_c.keep Kq nin0
                  refine own_goW (U' := T30.setTop (mkF m 303 #[.val (.int p1), .val (.int p2), .val (.int p3), .val (.int p4), .val (.int ln), .val (.int nl), .val (.int c0'), .val (.int c1'), .val (.int c2'), .val (.ref b4), .val (.ref b5), .val (.ref b7), .val (.ref b10), .val (.ref b26), .val .null] [.null])) st30 ?_
                  refine own_goW (U' := T30.setTop (mkF m 305 #[.val (.int p1), .val (.int p2), .val (.int p3), .val (.int p4), .val (.int ln), .val (.int nl), .val (.int c0'), .val (.int c1'), .val (.int c2'), .val (.ref b4), .val (.ref b5), .val (.ref b7), .val (.ref b10), .val (.ref b26), .val .null] [.null, .null])) (fun t k => XS.aload X30.here hx rfl (hb hby at_303) rfl rfl k) ?_
                  refine own_goW (U' := T30.setTop (mkF m 308 #[.val (.int p1), .val (.int p2), .val (.int p3), .val (.int p4), .val (.int ln), .val (.int nl), .val (.int c0'), .val (.int c1'), .val (.int c2'), .val (.ref b4), .val (.ref b5), .val (.ref b7), .val (.ref b10), .val (.ref b26), .val .null] [])) (fun t k => Jvm.RoadKit.acmp (g := (mkF m 305 #[.val (.int p1), .val (.int p2), .val (.int p3), .val (.int p4), .val (.int ln), .val (.int nl), .val (.int c0'), .val (.int c1'), .val (.int c2'), .val (.ref b4), .val (.ref b5), .val (.ref b7), .val (.ref b10), .val (.ref b26), .val .null] [.null, .null])) X30 hx rfl rfl rfl (pc0 := 305) (pc' := 308) (same := true) rfl (hb hby at_305) rfl (decide_eq_true rfl) (by decide) (by decide) k) ?_
                  refine own_goW (U' := T30.setTop (mkF m 309 #[.val (.int p1), .val (.int p2), .val (.int p3), .val (.int p4), .val (.int ln), .val (.int nl), .val (.int c0'), .val (.int c1'), .val (.int c2'), .val (.ref b4), .val (.ref b5), .val (.ref b7), .val (.ref b10), .val (.ref b26), .val .null] [(.int (1 : Int32))])) (fun t k => XS.iconst X30.here hx rfl (hb hby at_308) k) ?_
                  refine own_goW (U' := T30.setTop (mkF m 313 #[.val (.int p1), .val (.int p2), .val (.int p3), .val (.int p4), .val (.int ln), .val (.int nl), .val (.int c0'), .val (.int c1'), .val (.int c2'), .val (.ref b4), .val (.ref b5), .val (.ref b7), .val (.ref b10), .val (.ref b26), .val .null] [(.int (1 : Int32))])) (fun t k => XS.goto X30.here hx rfl (pc0 := 309) (pc' := 313) rfl (hb hby at_309) (by decide) (by decide) k) ?_
                  refine own_retWN X30 hx Sn e30 I (t := .boolean) hret (by simp) hlk (hb hby at_313) ?_ (by decide) (by decide)
                  exact ⟨rfl, N27⟩
          · refine own_goW (U' := T27.setTop (mkF m 257 #[.val (.int p1), .val (.int p2), .val (.int p3), .val (.int p4), .val (.int ln), .val (.int nl), .val (.int c0'), .val (.int c1'), .val (.int c2'), .val (.ref b4), .val (.ref b5), .val (.ref b7), .val (.ref b10), .val (.ref b26), .val .null] [])) (fun t k => XS.icmpYes X27.here hx rfl (pc0 := 239) (pc' := 257) rfl (hb hby at_239) rfl (feq hc239).2 (by decide) (by decide) k) ?_
            refine own_goW (U' := T27.setTop (mkF m 259 #[.val (.int p1), .val (.int p2), .val (.int p3), .val (.int p4), .val (.int ln), .val (.int nl), .val (.int c0'), .val (.int c1'), .val (.int c2'), .val (.ref b4), .val (.ref b5), .val (.ref b7), .val (.ref b10), .val (.ref b26), .val .null] [(.int c0')])) (fun t k => XS.iload X27.here hx rfl (hb hby at_257) rfl k) ?_
            refine own_goW (U' := T27.setTop (mkF m 261 #[.val (.int p1), .val (.int p2), .val (.int p3), .val (.int p4), .val (.int ln), .val (.int nl), .val (.int c0'), .val (.int c1'), .val (.int c2'), .val (.ref b4), .val (.ref b5), .val (.ref b7), .val (.ref b10), .val (.ref b26), .val .null] [(.int (62 : Int32)), (.int c0')])) (fun t k => XS.bipush X27.here hx rfl (hb hby at_259) k) ?_
            by_cases hc261 : c0' = (62 : Int32)
            · refine own_goW (U' := T27.setTop (mkF m 264 #[.val (.int p1), .val (.int p2), .val (.int p3), .val (.int p4), .val (.int ln), .val (.int nl), .val (.int c0'), .val (.int c1'), .val (.int c2'), .val (.ref b4), .val (.ref b5), .val (.ref b7), .val (.ref b10), .val (.ref b26), .val .null] [])) (fun t k => XS.icmpNo X27.here hx rfl (hb hby at_261) rfl (teq hc261).2 k) ?_
              refine own_goW (U' := T27.setTop (mkF m 266 #[.val (.int p1), .val (.int p2), .val (.int p3), .val (.int p4), .val (.int ln), .val (.int nl), .val (.int c0'), .val (.int c1'), .val (.int c2'), .val (.ref b4), .val (.ref b5), .val (.ref b7), .val (.ref b10), .val (.ref b26), .val .null] [(.int c1')])) (fun t k => XS.iload X27.here hx rfl (hb hby at_264) rfl k) ?_
              refine own_goW (U' := T27.setTop (mkF m 268 #[.val (.int p1), .val (.int p2), .val (.int p3), .val (.int p4), .val (.int ln), .val (.int nl), .val (.int c0'), .val (.int c1'), .val (.int c2'), .val (.ref b4), .val (.ref b5), .val (.ref b7), .val (.ref b10), .val (.ref b26), .val .null] [(.int (61 : Int32)), (.int c1')])) (fun t k => XS.bipush X27.here hx rfl (hb hby at_266) k) ?_
              by_cases hc268 : c1' = (61 : Int32)
              · refine own_goW (U' := T27.setTop (mkF m 271 #[.val (.int p1), .val (.int p2), .val (.int p3), .val (.int p4), .val (.int ln), .val (.int nl), .val (.int c0'), .val (.int c1'), .val (.int c2'), .val (.ref b4), .val (.ref b5), .val (.ref b7), .val (.ref b10), .val (.ref b26), .val .null] [])) (fun t k => XS.icmpNo X27.here hx rfl (hb hby at_268) rfl (teq hc268).2 k) ?_
                obtain ⟨T31, X31, e31, st31⟩ := getS2 X27 hx hZ hown (host := "") (Or.inl (hw _ (List.mem_of_getElem? (i := 78) rfl))) Via.refl e27 (S4.ext O.2) (g := (mkF m 271 #[.val (.int p1), .val (.int p2), .val (.int p3), .val (.int p4), .val (.int ln), .val (.int nl), .val (.int c0'), .val (.int c1'), .val (.int c2'), .val (.ref b4), .val (.ref b5), .val (.ref b7), .val (.ref b10), .val (.ref b26), .val .null] [])) rfl (hb hby at_271)
                refine own_goW (U' := T31.setTop (mkF m 274 #[.val (.int p1), .val (.int p2), .val (.int p3), .val (.int p4), .val (.int ln), .val (.int nl), .val (.int c0'), .val (.int c1'), .val (.int c2'), .val (.ref b4), .val (.ref b5), .val (.ref b7), .val (.ref b10), .val (.ref b26), .val .null] [(.ref en4)])) st31 ?_
                refine own_goW (U' := T31.setTop (mkF m 276 #[.val (.int p1), .val (.int p2), .val (.int p3), .val (.int p4), .val (.int ln), .val (.int nl), .val (.int c0'), .val (.int c1'), .val (.int c2'), .val (.ref b4), .val (.ref b5), .val (.ref b7), .val (.ref b10), .val (.ref b26), .val (.ref en4)] [])) (fun t k => XS.astore X31.here hx rfl (hb hby at_274) rfl rfl (l' := #[.val (.int p1), .val (.int p2), .val (.int p3), .val (.int p4), .val (.int ln), .val (.int nl), .val (.int c0'), .val (.int c1'), .val (.int c2'), .val (.ref b4), .val (.ref b5), .val (.ref b7), .val (.ref b10), .val (.ref b26), .val (.ref en4)]) rfl k) ?_
                refine own_goW (U' := T31.setTop (mkF m 298 #[.val (.int p1), .val (.int p2), .val (.int p3), .val (.int p4), .val (.int ln), .val (.int nl), .val (.int c0'), .val (.int c1'), .val (.int c2'), .val (.ref b4), .val (.ref b5), .val (.ref b7), .val (.ref b10), .val (.ref b26), .val (.ref en4)] [])) (fun t k => XS.goto X31.here hx rfl (pc0 := 276) (pc' := 298) rfl (hb hby at_276) (by decide) (by decide) k) ?_
                refine own_goW (U' := T31.setTop (mkF m 300 #[.val (.int p1), .val (.int p2), .val (.int p3), .val (.int p4), .val (.int ln), .val (.int nl), .val (.int c0'), .val (.int c1'), .val (.int c2'), .val (.ref b4), .val (.ref b5), .val (.ref b7), .val (.ref b10), .val (.ref b26), .val (.ref en4)] [(.ref b26)])) (fun t k => XS.aload X31.here hx rfl (hb hby at_298) rfl rfl k) ?_
                obtain ⟨v32, T32, h32, L32, e32, X32, hQ32, st32⟩ := own_callS X31 hx hZ (y := (⟨"com/example/pagemark/pagemark/statements/Restriction$Operator", "ofSymbol", "(Ljava/lang/String;)Lcom/example/pagemark/pagemark/statements/Restriction$Operator;"⟩ : MethodName)) hown (hw _ (List.mem_of_getElem? (i := 26) rfl)) (hw _ (List.mem_of_getElem? (i := 27) rfl)) (hw _ (List.mem_of_getElem? (i := 28) rfl)) (hw _ (List.mem_of_getElem? (i := 29) rfl)) (by decide) (own_rmos2 l Z a0 hw b26 h27 n0 en0 en1 en2 en3 en4 en5 O vv kv S_v V_v E_v tx0 tx1 tx2 tx3 tx4 tx5 bx0 bx1 bx2 bx3 bx4 bx5 kx0 kx1 kx2 kx3 kx4 kx5 FT0 ET0 FC0 FV0 VB0 FT1 ET1 FC1 FV1 VB1 FT2 ET2 FC2 FV2 VB2 FT3 ET3 FC3 FV3 VB3 FT4 ET4 FC4 FV4 VB4 FT5 ET5 FC5 FV5 VB5 cs hcs S_cs (own_bv c0') (own_bv c1') _ _ E_b26 F_coder_b26 F_value_b26 V_c) (W := 0) (by decide) (by decide) (g := (mkF m 300 #[.val (.int p1), .val (.int p2), .val (.int p3), .val (.int p4), .val (.int ln), .val (.int nl), .val (.int c0'), .val (.int c1'), .val (.int c2'), .val (.ref b4), .val (.ref b5), .val (.ref b7), .val (.ref b10), .val (.ref b26), .val (.ref en4)] [(.ref b26)])) rfl (by rw [hml]; rfl) (argsL := [(.ref b26)]) (rest := []) (lenOf own_pd10 rfl) rfl rfl (by show 2 * 0 + _ ≤ _; exact Nat.le_of_eq rfl) (hb hby at_300) e31 (by decide) (by decide)
                have hex : own_o2 en2 en4 en5 (own_bv c0') (own_bv c1') = (.ref en4) := by
                  unfold own_o2
                  simp only [k0_60, k0_61, k0_62, k0_73, k1_61, k1_78]
                  simp [hc239, hc261, hc268]
                rw [hex] at hQ32
                obtain ⟨rfl, rfl, Kq⟩ := hQ32
                rw [List.append_nil] at X32
                have Sn := Sn.keep Kq
                have O := O.keep Kq all0
                have E_b26 := E_b26.keep Kq
                have F_coder_b26 := F_coder_b26.keep Kq nin0
                have F_value_b26 := F_value_b26.keep Kq nin0
                have V_c := V_c.keep Kq nin0
                refine own_goW (U' := T32.setTop (mkF m 303 #[.val (.int p1), .val (.int p2), .val (.int p3), .val (.int p4), .val (.int ln), .val (.int nl), .val (.int c0'), .val (.int c1'), .val (.int c2'), .val (.ref b4), .val (.ref b5), .val (.ref b7), .val (.ref b10), .val (.ref b26), .val (.ref en4)] [(.ref en4)])) st32 ?_
                refine own_goW (U' := T32.setTop (mkF m 305 #[.val (.int p1), .val (.int p2), .val (.int p3), .val (.int p4), .val (.int ln), .val (.int nl), .val (.int c0'), .val (.int c1'), .val (.int c2'), .val (.ref b4), .val (.ref b5), .val (.ref b7), .val (.ref b10), .val (.ref b26), .val (.ref en4)] [(.ref en4), (.ref en4)])) (fun t k => XS.aload X32.here hx rfl (hb hby at_303) rfl rfl k) ?_
                refine own_goW (U' := T32.setTop (mkF m 308 #[.val (.int p1), .val (.int p2), .val (.int p3), .val (.int p4), .val (.int ln), .val (.int nl), .val (.int c0'), .val (.int c1'), .val (.int c2'), .val (.ref b4), .val (.ref b5), .val (.ref b7), .val (.ref b10), .val (.ref b26), .val (.ref en4)] [])) (fun t k => Jvm.RoadKit.acmp (g := (mkF m 305 #[.val (.int p1), .val (.int p2), .val (.int p3), .val (.int p4), .val (.int ln), .val (.int nl), .val (.int c0'), .val (.int c1'), .val (.int c2'), .val (.ref b4), .val (.ref b5), .val (.ref b7), .val (.ref b10), .val (.ref b26), .val (.ref en4)] [(.ref en4), (.ref en4)])) X32 hx rfl rfl rfl (pc0 := 305) (pc' := 308) (same := true) rfl (hb hby at_305) rfl (decide_eq_true (congrArg Value.ref rfl)) (by decide) (by decide) k) ?_
                refine own_goW (U' := T32.setTop (mkF m 309 #[.val (.int p1), .val (.int p2), .val (.int p3), .val (.int p4), .val (.int ln), .val (.int nl), .val (.int c0'), .val (.int c1'), .val (.int c2'), .val (.ref b4), .val (.ref b5), .val (.ref b7), .val (.ref b10), .val (.ref b26), .val (.ref en4)] [(.int (1 : Int32))])) (fun t k => XS.iconst X32.here hx rfl (hb hby at_308) k) ?_
                refine own_goW (U' := T32.setTop (mkF m 313 #[.val (.int p1), .val (.int p2), .val (.int p3), .val (.int p4), .val (.int ln), .val (.int nl), .val (.int c0'), .val (.int c1'), .val (.int c2'), .val (.ref b4), .val (.ref b5), .val (.ref b7), .val (.ref b10), .val (.ref b26), .val (.ref en4)] [(.int (1 : Int32))])) (fun t k => XS.goto X32.here hx rfl (pc0 := 309) (pc' := 313) rfl (hb hby at_309) (by decide) (by decide) k) ?_
                refine own_retWN X32 hx Sn e32 I (t := .boolean) hret (by simp) hlk (hb hby at_313) ?_ (by decide) (by decide)
                exact ⟨rfl, N27⟩
              · refine own_goW (U' := T27.setTop (mkF m 279 #[.val (.int p1), .val (.int p2), .val (.int p3), .val (.int p4), .val (.int ln), .val (.int nl), .val (.int c0'), .val (.int c1'), .val (.int c2'), .val (.ref b4), .val (.ref b5), .val (.ref b7), .val (.ref b10), .val (.ref b26), .val .null] [])) (fun t k => XS.icmpYes X27.here hx rfl (pc0 := 268) (pc' := 279) rfl (hb hby at_268) rfl (feq hc268).2 (by decide) (by decide) k) ?_
                refine own_goW (U' := T27.setTop (mkF m 281 #[.val (.int p1), .val (.int p2), .val (.int p3), .val (.int p4), .val (.int ln), .val (.int nl), .val (.int c0'), .val (.int c1'), .val (.int c2'), .val (.ref b4), .val (.ref b5), .val (.ref b7), .val (.ref b10), .val (.ref b26), .val .null] [(.int c0')])) (fun t k => XS.iload X27.here hx rfl (hb hby at_279) rfl k) ?_
                refine own_goW (U' := T27.setTop (mkF m 283 #[.val (.int p1), .val (.int p2), .val (.int p3), .val (.int p4), .val (.int ln), .val (.int nl), .val (.int c0'), .val (.int c1'), .val (.int c2'), .val (.ref b4), .val (.ref b5), .val (.ref b7), .val (.ref b10), .val (.ref b26), .val .null] [(.int (73 : Int32)), (.int c0')])) (fun t k => XS.bipush X27.here hx rfl (hb hby at_281) k) ?_
                by_cases hc283 : c0' = (73 : Int32)
                · refine own_goW (U' := T27.setTop (mkF m 286 #[.val (.int p1), .val (.int p2), .val (.int p3), .val (.int p4), .val (.int ln), .val (.int nl), .val (.int c0'), .val (.int c1'), .val (.int c2'), .val (.ref b4), .val (.ref b5), .val (.ref b7), .val (.ref b10), .val (.ref b26), .val .null] [])) (fun t k => XS.icmpNo X27.here hx rfl (hb hby at_283) rfl (teq hc283).2 k) ?_
                  refine own_goW (U' := T27.setTop (mkF m 288 #[.val (.int p1), .val (.int p2), .val (.int p3), .val (.int p4), .val (.int ln), .val (.int nl), .val (.int c0'), .val (.int c1'), .val (.int c2'), .val (.ref b4), .val (.ref b5), .val (.ref b7), .val (.ref b10), .val (.ref b26), .val .null] [(.int c1')])) (fun t k => XS.iload X27.here hx rfl (hb hby at_286) rfl k) ?_
                  refine own_goW (U' := T27.setTop (mkF m 290 #[.val (.int p1), .val (.int p2), .val (.int p3), .val (.int p4), .val (.int ln), .val (.int nl), .val (.int c0'), .val (.int c1'), .val (.int c2'), .val (.ref b4), .val (.ref b5), .val (.ref b7), .val (.ref b10), .val (.ref b26), .val .null] [(.int (78 : Int32)), (.int c1')])) (fun t k => XS.bipush X27.here hx rfl (hb hby at_288) k) ?_
                  by_cases hc290 : c1' = (78 : Int32)
                  · refine own_goW (U' := T27.setTop (mkF m 293 #[.val (.int p1), .val (.int p2), .val (.int p3), .val (.int p4), .val (.int ln), .val (.int nl), .val (.int c0'), .val (.int c1'), .val (.int c2'), .val (.ref b4), .val (.ref b5), .val (.ref b7), .val (.ref b10), .val (.ref b26), .val .null] [])) (fun t k => XS.icmpNo X27.here hx rfl (hb hby at_290) rfl (teq hc290).2 k) ?_
                    exact absurd (hc261.symm.trans hc283) (by decide)
                  · refine own_goW (U' := T27.setTop (mkF m 298 #[.val (.int p1), .val (.int p2), .val (.int p3), .val (.int p4), .val (.int ln), .val (.int nl), .val (.int c0'), .val (.int c1'), .val (.int c2'), .val (.ref b4), .val (.ref b5), .val (.ref b7), .val (.ref b10), .val (.ref b26), .val .null] [])) (fun t k => XS.icmpYes X27.here hx rfl (pc0 := 290) (pc' := 298) rfl (hb hby at_290) rfl (feq hc290).2 (by decide) (by decide) k) ?_
                    refine own_goW (U' := T27.setTop (mkF m 300 #[.val (.int p1), .val (.int p2), .val (.int p3), .val (.int p4), .val (.int ln), .val (.int nl), .val (.int c0'), .val (.int c1'), .val (.int c2'), .val (.ref b4), .val (.ref b5), .val (.ref b7), .val (.ref b10), .val (.ref b26), .val .null] [(.ref b26)])) (fun t k => XS.aload X27.here hx rfl (hb hby at_298) rfl rfl k) ?_
                    exact absurd (hc261.symm.trans hc283) (by decide)
                · refine own_goW (U' := T27.setTop (mkF m 298 #[.val (.int p1), .val (.int p2), .val (.int p3), .val (.int p4), .val (.int ln), .val (.int nl), .val (.int c0'), .val (.int c1'), .val (.int c2'), .val (.ref b4), .val (.ref b5), .val (.ref b7), .val (.ref b10), .val (.ref b26), .val .null] [])) (fun t k => XS.icmpYes X27.here hx rfl (pc0 := 283) (pc' := 298) rfl (hb hby at_283) rfl (feq hc283).2 (by decide) (by decide) k) ?_
                  refine own_goW (U' := T27.setTop (mkF m 300 #[.val (.int p1), .val (.int p2), .val (.int p3), .val (.int p4), .val (.int ln), .val (.int nl), .val (.int c0'), .val (.int c1'), .val (.int c2'), .val (.ref b4), .val (.ref b5), .val (.ref b7), .val (.ref b10), .val (.ref b26), .val .null] [(.ref b26)])) (fun t k => XS.aload X27.here hx rfl (hb hby at_298) rfl rfl k) ?_
                  obtain ⟨v33, T33, h33, L33, e33, X33, hQ33, st33⟩ := own_callS X27 hx hZ (y := (⟨"com/example/pagemark/pagemark/statements/Restriction$Operator", "ofSymbol", "(Ljava/lang/String;)Lcom/example/pagemark/pagemark/statements/Restriction$Operator;"⟩ : MethodName)) hown (hw _ (List.mem_of_getElem? (i := 26) rfl)) (hw _ (List.mem_of_getElem? (i := 27) rfl)) (hw _ (List.mem_of_getElem? (i := 28) rfl)) (hw _ (List.mem_of_getElem? (i := 29) rfl)) (by decide) (own_rmos2 l Z a0 hw b26 h27 n0 en0 en1 en2 en3 en4 en5 O vv kv S_v V_v E_v tx0 tx1 tx2 tx3 tx4 tx5 bx0 bx1 bx2 bx3 bx4 bx5 kx0 kx1 kx2 kx3 kx4 kx5 FT0 ET0 FC0 FV0 VB0 FT1 ET1 FC1 FV1 VB1 FT2 ET2 FC2 FV2 VB2 FT3 ET3 FC3 FV3 VB3 FT4 ET4 FC4 FV4 VB4 FT5 ET5 FC5 FV5 VB5 cs hcs S_cs (own_bv c0') (own_bv c1') _ _ E_b26 F_coder_b26 F_value_b26 V_c) (W := 0) (by decide) (by decide) (g := (mkF m 300 #[.val (.int p1), .val (.int p2), .val (.int p3), .val (.int p4), .val (.int ln), .val (.int nl), .val (.int c0'), .val (.int c1'), .val (.int c2'), .val (.ref b4), .val (.ref b5), .val (.ref b7), .val (.ref b10), .val (.ref b26), .val .null] [(.ref b26)])) rfl (by rw [hml]; rfl) (argsL := [(.ref b26)]) (rest := []) (lenOf own_pd10 rfl) rfl rfl (by show 2 * 0 + _ ≤ _; exact Nat.le_of_eq rfl) (hb hby at_300) e27 (by decide) (by decide)
                  have hex : own_o2 en2 en4 en5 (own_bv c0') (own_bv c1') = .null := by
                    unfold own_o2
                    simp only [k0_60, k0_61, k0_62, k0_73, k1_61, k1_78]
                    simp [hc239, hc261, hc268, hc283]
                  rw [hex] at hQ33
                  obtain ⟨rfl, rfl, Kq⟩ := hQ33
                  rw [List.append_nil] at X33
                  have Sn := Sn.keep Kq
                  have O := O.keep Kq all0
                  have E_b26 := E_b26.keep Kq
                  have F_coder_b26 := F_coder_b26.keep Kq nin0
                  have F_value_b26 := F_value_b26.keep Kq nin0
                  have V_c := V_c.keep Kq nin0
                  refine own_goW (U' := T33.setTop (mkF m 303 #[.val (.int p1), .val (.int p2), .val (.int p3), .val (.int p4), .val (.int ln), .val (.int nl), .val (.int c0'), .val (.int c1'), .val (.int c2'), .val (.ref b4), .val (.ref b5), .val (.ref b7), .val (.ref b10), .val (.ref b26), .val .null] [.null])) st33 ?_
                  refine own_goW (U' := T33.setTop (mkF m 305 #[.val (.int p1), .val (.int p2), .val (.int p3), .val (.int p4), .val (.int ln), .val (.int nl), .val (.int c0'), .val (.int c1'), .val (.int c2'), .val (.ref b4), .val (.ref b5), .val (.ref b7), .val (.ref b10), .val (.ref b26), .val .null] [.null, .null])) (fun t k => XS.aload X33.here hx rfl (hb hby at_303) rfl rfl k) ?_
                  refine own_goW (U' := T33.setTop (mkF m 308 #[.val (.int p1), .val (.int p2), .val (.int p3), .val (.int p4), .val (.int ln), .val (.int nl), .val (.int c0'), .val (.int c1'), .val (.int c2'), .val (.ref b4), .val (.ref b5), .val (.ref b7), .val (.ref b10), .val (.ref b26), .val .null] [])) (fun t k => Jvm.RoadKit.acmp (g := (mkF m 305 #[.val (.int p1), .val (.int p2), .val (.int p3), .val (.int p4), .val (.int ln), .val (.int nl), .val (.int c0'), .val (.int c1'), .val (.int c2'), .val (.ref b4), .val (.ref b5), .val (.ref b7), .val (.ref b10), .val (.ref b26), .val .null] [.null, .null])) X33 hx rfl rfl rfl (pc0 := 305) (pc' := 308) (same := true) rfl (hb hby at_305) rfl (decide_eq_true rfl) (by decide) (by decide) k) ?_
                  refine own_goW (U' := T33.setTop (mkF m 309 #[.val (.int p1), .val (.int p2), .val (.int p3), .val (.int p4), .val (.int ln), .val (.int nl), .val (.int c0'), .val (.int c1'), .val (.int c2'), .val (.ref b4), .val (.ref b5), .val (.ref b7), .val (.ref b10), .val (.ref b26), .val .null] [(.int (1 : Int32))])) (fun t k => XS.iconst X33.here hx rfl (hb hby at_308) k) ?_
                  refine own_goW (U' := T33.setTop (mkF m 313 #[.val (.int p1), .val (.int p2), .val (.int p3), .val (.int p4), .val (.int ln), .val (.int nl), .val (.int c0'), .val (.int c1'), .val (.int c2'), .val (.ref b4), .val (.ref b5), .val (.ref b7), .val (.ref b10), .val (.ref b26), .val .null] [(.int (1 : Int32))])) (fun t k => XS.goto X33.here hx rfl (pc0 := 309) (pc' := 313) rfl (hb hby at_309) (by decide) (by decide) k) ?_
                  refine own_retWN X33 hx Sn e33 I (t := .boolean) hret (by simp) hlk (hb hby at_313) ?_ (by decide) (by decide)
                  exact ⟨rfl, N27⟩
            · refine own_goW (U' := T27.setTop (mkF m 279 #[.val (.int p1), .val (.int p2), .val (.int p3), .val (.int p4), .val (.int ln), .val (.int nl), .val (.int c0'), .val (.int c1'), .val (.int c2'), .val (.ref b4), .val (.ref b5), .val (.ref b7), .val (.ref b10), .val (.ref b26), .val .null] [])) (fun t k => XS.icmpYes X27.here hx rfl (pc0 := 261) (pc' := 279) rfl (hb hby at_261) rfl (feq hc261).2 (by decide) (by decide) k) ?_
              refine own_goW (U' := T27.setTop (mkF m 281 #[.val (.int p1), .val (.int p2), .val (.int p3), .val (.int p4), .val (.int ln), .val (.int nl), .val (.int c0'), .val (.int c1'), .val (.int c2'), .val (.ref b4), .val (.ref b5), .val (.ref b7), .val (.ref b10), .val (.ref b26), .val .null] [(.int c0')])) (fun t k => XS.iload X27.here hx rfl (hb hby at_279) rfl k) ?_
              refine own_goW (U' := T27.setTop (mkF m 283 #[.val (.int p1), .val (.int p2), .val (.int p3), .val (.int p4), .val (.int ln), .val (.int nl), .val (.int c0'), .val (.int c1'), .val (.int c2'), .val (.ref b4), .val (.ref b5), .val (.ref b7), .val (.ref b10), .val (.ref b26), .val .null] [(.int (73 : Int32)), (.int c0')])) (fun t k => XS.bipush X27.here hx rfl (hb hby at_281) k) ?_
              by_cases hc283 : c0' = (73 : Int32)
              · refine own_goW (U' := T27.setTop (mkF m 286 #[.val (.int p1), .val (.int p2), .val (.int p3), .val (.int p4), .val (.int ln), .val (.int nl), .val (.int c0'), .val (.int c1'), .val (.int c2'), .val (.ref b4), .val (.ref b5), .val (.ref b7), .val (.ref b10), .val (.ref b26), .val .null] [])) (fun t k => XS.icmpNo X27.here hx rfl (hb hby at_283) rfl (teq hc283).2 k) ?_
                refine own_goW (U' := T27.setTop (mkF m 288 #[.val (.int p1), .val (.int p2), .val (.int p3), .val (.int p4), .val (.int ln), .val (.int nl), .val (.int c0'), .val (.int c1'), .val (.int c2'), .val (.ref b4), .val (.ref b5), .val (.ref b7), .val (.ref b10), .val (.ref b26), .val .null] [(.int c1')])) (fun t k => XS.iload X27.here hx rfl (hb hby at_286) rfl k) ?_
                refine own_goW (U' := T27.setTop (mkF m 290 #[.val (.int p1), .val (.int p2), .val (.int p3), .val (.int p4), .val (.int ln), .val (.int nl), .val (.int c0'), .val (.int c1'), .val (.int c2'), .val (.ref b4), .val (.ref b5), .val (.ref b7), .val (.ref b10), .val (.ref b26), .val .null] [(.int (78 : Int32)), (.int c1')])) (fun t k => XS.bipush X27.here hx rfl (hb hby at_288) k) ?_
                by_cases hc290 : c1' = (78 : Int32)
                · refine own_goW (U' := T27.setTop (mkF m 293 #[.val (.int p1), .val (.int p2), .val (.int p3), .val (.int p4), .val (.int ln), .val (.int nl), .val (.int c0'), .val (.int c1'), .val (.int c2'), .val (.ref b4), .val (.ref b5), .val (.ref b7), .val (.ref b10), .val (.ref b26), .val .null] [])) (fun t k => XS.icmpNo X27.here hx rfl (hb hby at_290) rfl (teq hc290).2 k) ?_
                  obtain ⟨T34, X34, e34, st34⟩ := getS2 X27 hx hZ hown (host := "") (Or.inl (hw _ (List.mem_of_getElem? (i := 79) rfl))) Via.refl e27 (S5.ext O.2) (g := (mkF m 293 #[.val (.int p1), .val (.int p2), .val (.int p3), .val (.int p4), .val (.int ln), .val (.int nl), .val (.int c0'), .val (.int c1'), .val (.int c2'), .val (.ref b4), .val (.ref b5), .val (.ref b7), .val (.ref b10), .val (.ref b26), .val .null] [])) rfl (hb hby at_293)
                  refine own_goW (U' := T34.setTop (mkF m 296 #[.val (.int p1), .val (.int p2), .val (.int p3), .val (.int p4), .val (.int ln), .val (.int nl), .val (.int c0'), .val (.int c1'), .val (.int c2'), .val (.ref b4), .val (.ref b5), .val (.ref b7), .val (.ref b10), .val (.ref b26), .val .null] [(.ref en5)])) st34 ?_
                  refine own_goW (U' := T34.setTop (mkF m 298 #[.val (.int p1), .val (.int p2), .val (.int p3), .val (.int p4), .val (.int ln), .val (.int nl), .val (.int c0'), .val (.int c1'), .val (.int c2'), .val (.ref b4), .val (.ref b5), .val (.ref b7), .val (.ref b10), .val (.ref b26), .val (.ref en5)] [])) (fun t k => XS.astore X34.here hx rfl (hb hby at_296) rfl rfl (l' := #[.val (.int p1), .val (.int p2), .val (.int p3), .val (.int p4), .val (.int ln), .val (.int nl), .val (.int c0'), .val (.int c1'), .val (.int c2'), .val (.ref b4), .val (.ref b5), .val (.ref b7), .val (.ref b10), .val (.ref b26), .val (.ref en5)]) rfl k) ?_
                  refine own_goW (U' := T34.setTop (mkF m 300 #[.val (.int p1), .val (.int p2), .val (.int p3), .val (.int p4), .val (.int ln), .val (.int nl), .val (.int c0'), .val (.int c1'), .val (.int c2'), .val (.ref b4), .val (.ref b5), .val (.ref b7), .val (.ref b10), .val (.ref b26), .val (.ref en5)] [(.ref b26)])) (fun t k => XS.aload X34.here hx rfl (hb hby at_298) rfl rfl k) ?_
                  obtain ⟨v35, T35, h35, L35, e35, X35, hQ35, st35⟩ := own_callS X34 hx hZ (y := (⟨"com/example/pagemark/pagemark/statements/Restriction$Operator", "ofSymbol", "(Ljava/lang/String;)Lcom/example/pagemark/pagemark/statements/Restriction$Operator;"⟩ : MethodName)) hown (hw _ (List.mem_of_getElem? (i := 26) rfl)) (hw _ (List.mem_of_getElem? (i := 27) rfl)) (hw _ (List.mem_of_getElem? (i := 28) rfl)) (hw _ (List.mem_of_getElem? (i := 29) rfl)) (by decide) (own_rmos2 l Z a0 hw b26 h27 n0 en0 en1 en2 en3 en4 en5 O vv kv S_v V_v E_v tx0 tx1 tx2 tx3 tx4 tx5 bx0 bx1 bx2 bx3 bx4 bx5 kx0 kx1 kx2 kx3 kx4 kx5 FT0 ET0 FC0 FV0 VB0 FT1 ET1 FC1 FV1 VB1 FT2 ET2 FC2 FV2 VB2 FT3 ET3 FC3 FV3 VB3 FT4 ET4 FC4 FV4 VB4 FT5 ET5 FC5 FV5 VB5 cs hcs S_cs (own_bv c0') (own_bv c1') _ _ E_b26 F_coder_b26 F_value_b26 V_c) (W := 0) (by decide) (by decide) (g := (mkF m 300 #[.val (.int p1), .val (.int p2), .val (.int p3), .val (.int p4), .val (.int ln), .val (.int nl), .val (.int c0'), .val (.int c1'), .val (.int c2'), .val (.ref b4), .val (.ref b5), .val (.ref b7), .val (.ref b10), .val (.ref b26), .val (.ref en5)] [(.ref b26)])) rfl (by rw [hml]; rfl) (argsL := [(.ref b26)]) (rest := []) (lenOf own_pd10 rfl) rfl rfl (by show 2 * 0 + _ ≤ _; exact Nat.le_of_eq rfl) (hb hby at_300) e34 (by decide) (by decide)
                  have hex : own_o2 en2 en4 en5 (own_bv c0') (own_bv c1') = (.ref en5) := by
                    unfold own_o2
                    simp only [k0_60, k0_61, k0_62, k0_73, k1_61, k1_78]
                    simp [hc239, hc261, hc283, hc290]
                  rw [hex] at hQ35
                  obtain ⟨rfl, rfl, Kq⟩ := hQ35
                  rw [List.append_nil] at X35
                  have Sn := Sn.keep Kq
                  have O := O.keep Kq all0
                  have E_b26 := E_b26.keep Kq
                  have F_coder_b26 := F_coder_b26.keep Kq nin0
                  have F_value_b26 := F_value_b26.keep Kq nin0
                  have V_c := V_c.keep Kq nin0
                  refine own_goW (U' := T35.setTop (mkF m 303 #[.val (.int p1), .val (.int p2), .val (.int p3), .val (.int p4), .val (.int ln), .val (.int nl), .val (.int c0'), .val (.int c1'), .val (.int c2'), .val (.ref b4), .val (.ref b5), .val (.ref b7), .val (.ref b10), .val (.ref b26), .val (.ref en5)] [(.ref en5)])) st35 ?_
                  refine own_goW (U' := T35.setTop (mkF m 305 #[.val (.int p1), .val (.int p2), .val (.int p3), .val (.int p4), .val (.int ln), .val (.int nl), .val (.int c0'), .val (.int c1'), .val (.int c2'), .val (.ref b4), .val (.ref b5), .val (.ref b7), .val (.ref b10), .val (.ref b26), .val (.ref en5)] [(.ref en5), (.ref en5)])) (fun t k => XS.aload X35.here hx rfl (hb hby at_303) rfl rfl k) ?_
                  refine own_goW (U' := T35.setTop (mkF m 308 #[.val (.int p1), .val (.int p2), .val (.int p3), .val (.int p4), .val (.int ln), .val (.int nl), .val (.int c0'), .val (.int c1'), .val (.int c2'), .val (.ref b4), .val (.ref b5), .val (.ref b7), .val (.ref b10), .val (.ref b26), .val (.ref en5)] [])) (fun t k => Jvm.RoadKit.acmp (g := (mkF m 305 #[.val (.int p1), .val (.int p2), .val (.int p3), .val (.int p4), .val (.int ln), .val (.int nl), .val (.int c0'), .val (.int c1'), .val (.int c2'), .val (.ref b4), .val (.ref b5), .val (.ref b7), .val (.ref b10), .val (.ref b26), .val (.ref en5)] [(.ref en5), (.ref en5)])) X35 hx rfl rfl rfl (pc0 := 305) (pc' := 308) (same := true) rfl (hb hby at_305) rfl (decide_eq_true (congrArg Value.ref rfl)) (by decide) (by decide) k) ?_
                  refine own_goW (U' := T35.setTop (mkF m 309 #[.val (.int p1), .val (.int p2), .val (.int p3), .val (.int p4), .val (.int ln), .val (.int nl), .val (.int c0'), .val (.int c1'), .val (.int c2'), .val (.ref b4), .val (.ref b5), .val (.ref b7), .val (.ref b10), .val (.ref b26), .val (.ref en5)] [(.int (1 : Int32))])) (fun t k => XS.iconst X35.here hx rfl (hb hby at_308) k) ?_
                  refine own_goW (U' := T35.setTop (mkF m 313 #[.val (.int p1), .val (.int p2), .val (.int p3), .val (.int p4), .val (.int ln), .val (.int nl), .val (.int c0'), .val (.int c1'), .val (.int c2'), .val (.ref b4), .val (.ref b5), .val (.ref b7), .val (.ref b10), .val (.ref b26), .val (.ref en5)] [(.int (1 : Int32))])) (fun t k => XS.goto X35.here hx rfl (pc0 := 309) (pc' := 313) rfl (hb hby at_309) (by decide) (by decide) k) ?_
                  refine own_retWN X35 hx Sn e35 I (t := .boolean) hret (by simp) hlk (hb hby at_313) ?_ (by decide) (by decide)
                  exact ⟨rfl, N27⟩
                · refine own_goW (U' := T27.setTop (mkF m 298 #[.val (.int p1), .val (.int p2), .val (.int p3), .val (.int p4), .val (.int ln), .val (.int nl), .val (.int c0'), .val (.int c1'), .val (.int c2'), .val (.ref b4), .val (.ref b5), .val (.ref b7), .val (.ref b10), .val (.ref b26), .val .null] [])) (fun t k => XS.icmpYes X27.here hx rfl (pc0 := 290) (pc' := 298) rfl (hb hby at_290) rfl (feq hc290).2 (by decide) (by decide) k) ?_
                  refine own_goW (U' := T27.setTop (mkF m 300 #[.val (.int p1), .val (.int p2), .val (.int p3), .val (.int p4), .val (.int ln), .val (.int nl), .val (.int c0'), .val (.int c1'), .val (.int c2'), .val (.ref b4), .val (.ref b5), .val (.ref b7), .val (.ref b10), .val (.ref b26), .val .null] [(.ref b26)])) (fun t k => XS.aload X27.here hx rfl (hb hby at_298) rfl rfl k) ?_
                  obtain ⟨v36, T36, h36, L36, e36, X36, hQ36, st36⟩ := own_callS X27 hx hZ (y := (⟨"com/example/pagemark/pagemark/statements/Restriction$Operator", "ofSymbol", "(Ljava/lang/String;)Lcom/example/pagemark/pagemark/statements/Restriction$Operator;"⟩ : MethodName)) hown (hw _ (List.mem_of_getElem? (i := 26) rfl)) (hw _ (List.mem_of_getElem? (i := 27) rfl)) (hw _ (List.mem_of_getElem? (i := 28) rfl)) (hw _ (List.mem_of_getElem? (i := 29) rfl)) (by decide) (own_rmos2 l Z a0 hw b26 h27 n0 en0 en1 en2 en3 en4 en5 O vv kv S_v V_v E_v tx0 tx1 tx2 tx3 tx4 tx5 bx0 bx1 bx2 bx3 bx4 bx5 kx0 kx1 kx2 kx3 kx4 kx5 FT0 ET0 FC0 FV0 VB0 FT1 ET1 FC1 FV1 VB1 FT2 ET2 FC2 FV2 VB2 FT3 ET3 FC3 FV3 VB3 FT4 ET4 FC4 FV4 VB4 FT5 ET5 FC5 FV5 VB5 cs hcs S_cs (own_bv c0') (own_bv c1') _ _ E_b26 F_coder_b26 F_value_b26 V_c) (W := 0) (by decide) (by decide) (g := (mkF m 300 #[.val (.int p1), .val (.int p2), .val (.int p3), .val (.int p4), .val (.int ln), .val (.int nl), .val (.int c0'), .val (.int c1'), .val (.int c2'), .val (.ref b4), .val (.ref b5), .val (.ref b7), .val (.ref b10), .val (.ref b26), .val .null] [(.ref b26)])) rfl (by rw [hml]; rfl) (argsL := [(.ref b26)]) (rest := []) (lenOf own_pd10 rfl) rfl rfl (by show 2 * 0 + _ ≤ _; exact Nat.le_of_eq rfl) (hb hby at_300) e27 (by decide) (by decide)
                  have hex : own_o2 en2 en4 en5 (own_bv c0') (own_bv c1') = .null := by
                    unfold own_o2
                    simp only [k0_60, k0_61, k0_62, k0_73, k1_61, k1_78]
                    simp [hc239, hc261, hc283, hc290]
                  rw [hex] at hQ36
                  obtain ⟨rfl, rfl, Kq⟩ := hQ36
                  rw [List.append_nil] at X36
                  have Sn := Sn.keep Kq
                  have O := O.keep Kq all0
                  have E_b26 := E_b26.keep Kq
                  have F_coder_b26 := F_coder_b26.keep Kq nin0
                  have F_value_b26 := F_value_b26.keep Kq nin0
                  have V_c := V_c.keep Kq nin0
                  refine own_goW (U' := T36.setTop (mkF m 303 #[.val (.int p1), .val (.int p2), .val (.int p3), .val (.int p4), .val (.int ln), .val (.int nl), .val (.int c0'), .val (.int c1'), .val (.int c2'), .val (.ref b4), .val (.ref b5), .val (.ref b7), .val (.ref b10), .val (.ref b26), .val .null] [.null])) st36 ?_
                  refine own_goW (U' := T36.setTop (mkF m 305 #[.val (.int p1), .val (.int p2), .val (.int p3), .val (.int p4), .val (.int ln), .val (.int nl), .val (.int c0'), .val (.int c1'), .val (.int c2'), .val (.ref b4), .val (.ref b5), .val (.ref b7), .val (.ref b10), .val (.ref b26), .val .null] [.null, .null])) (fun t k => XS.aload X36.here hx rfl (hb hby at_303) rfl rfl k) ?_
                  refine own_goW (U' := T36.setTop (mkF m 308 #[.val (.int p1), .val (.int p2), .val (.int p3), .val (.int p4), .val (.int ln), .val (.int nl), .val (.int c0'), .val (.int c1'), .val (.int c2'), .val (.ref b4), .val (.ref b5), .val (.ref b7), .val (.ref b10), .val (.ref b26), .val .null] [])) (fun t k => Jvm.RoadKit.acmp (g := (mkF m 305 #[.val (.int p1), .val (.int p2), .val (.int p3), .val (.int p4), .val (.int ln), .val (.int nl), .val (.int c0'), .val (.int c1'), .val (.int c2'), .val (.ref b4), .val (.ref b5), .val (.ref b7), .val (.ref b10), .val (.ref b26), .val .null] [.null, .null])) X36 hx rfl rfl rfl (pc0 := 305) (pc' := 308) (same := true) rfl (hb hby at_305) rfl (decide_eq_true rfl) (by decide) (by decide) k) ?_
                  refine own_goW (U' := T36.setTop (mkF m 309 #[.val (.int p1), .val (.int p2), .val (.int p3), .val (.int p4), .val (.int ln), .val (.int nl), .val (.int c0'), .val (.int c1'), .val (.int c2'), .val (.ref b4), .val (.ref b5), .val (.ref b7), .val (.ref b10), .val (.ref b26), .val .null] [(.int (1 : Int32))])) (fun t k => XS.iconst X36.here hx rfl (hb hby at_308) k) ?_
                  refine own_goW (U' := T36.setTop (mkF m 313 #[.val (.int p1), .val (.int p2), .val (.int p3), .val (.int p4), .val (.int ln), .val (.int nl), .val (.int c0'), .val (.int c1'), .val (.int c2'), .val (.ref b4), .val (.ref b5), .val (.ref b7), .val (.ref b10), .val (.ref b26), .val .null] [(.int (1 : Int32))])) (fun t k => XS.goto X36.here hx rfl (pc0 := 309) (pc' := 313) rfl (hb hby at_309) (by decide) (by decide) k) ?_
                  refine own_retWN X36 hx Sn e36 I (t := .boolean) hret (by simp) hlk (hb hby at_313) ?_ (by decide) (by decide)
                  exact ⟨rfl, N27⟩
              · refine own_goW (U' := T27.setTop (mkF m 298 #[.val (.int p1), .val (.int p2), .val (.int p3), .val (.int p4), .val (.int ln), .val (.int nl), .val (.int c0'), .val (.int c1'), .val (.int c2'), .val (.ref b4), .val (.ref b5), .val (.ref b7), .val (.ref b10), .val (.ref b26), .val .null] [])) (fun t k => XS.icmpYes X27.here hx rfl (pc0 := 283) (pc' := 298) rfl (hb hby at_283) rfl (feq hc283).2 (by decide) (by decide) k) ?_
                refine own_goW (U' := T27.setTop (mkF m 300 #[.val (.int p1), .val (.int p2), .val (.int p3), .val (.int p4), .val (.int ln), .val (.int nl), .val (.int c0'), .val (.int c1'), .val (.int c2'), .val (.ref b4), .val (.ref b5), .val (.ref b7), .val (.ref b10), .val (.ref b26), .val .null] [(.ref b26)])) (fun t k => XS.aload X27.here hx rfl (hb hby at_298) rfl rfl k) ?_
                obtain ⟨v37, T37, h37, L37, e37, X37, hQ37, st37⟩ := own_callS X27 hx hZ (y := (⟨"com/example/pagemark/pagemark/statements/Restriction$Operator", "ofSymbol", "(Ljava/lang/String;)Lcom/example/pagemark/pagemark/statements/Restriction$Operator;"⟩ : MethodName)) hown (hw _ (List.mem_of_getElem? (i := 26) rfl)) (hw _ (List.mem_of_getElem? (i := 27) rfl)) (hw _ (List.mem_of_getElem? (i := 28) rfl)) (hw _ (List.mem_of_getElem? (i := 29) rfl)) (by decide) (own_rmos2 l Z a0 hw b26 h27 n0 en0 en1 en2 en3 en4 en5 O vv kv S_v V_v E_v tx0 tx1 tx2 tx3 tx4 tx5 bx0 bx1 bx2 bx3 bx4 bx5 kx0 kx1 kx2 kx3 kx4 kx5 FT0 ET0 FC0 FV0 VB0 FT1 ET1 FC1 FV1 VB1 FT2 ET2 FC2 FV2 VB2 FT3 ET3 FC3 FV3 VB3 FT4 ET4 FC4 FV4 VB4 FT5 ET5 FC5 FV5 VB5 cs hcs S_cs (own_bv c0') (own_bv c1') _ _ E_b26 F_coder_b26 F_value_b26 V_c) (W := 0) (by decide) (by decide) (g := (mkF m 300 #[.val (.int p1), .val (.int p2), .val (.int p3), .val (.int p4), .val (.int ln), .val (.int nl), .val (.int c0'), .val (.int c1'), .val (.int c2'), .val (.ref b4), .val (.ref b5), .val (.ref b7), .val (.ref b10), .val (.ref b26), .val .null] [(.ref b26)])) rfl (by rw [hml]; rfl) (argsL := [(.ref b26)]) (rest := []) (lenOf own_pd10 rfl) rfl rfl (by show 2 * 0 + _ ≤ _; exact Nat.le_of_eq rfl) (hb hby at_300) e27 (by decide) (by decide)
                have hex : own_o2 en2 en4 en5 (own_bv c0') (own_bv c1') = .null := by
                  unfold own_o2
                  simp only [k0_60, k0_61, k0_62, k0_73, k1_61, k1_78]
                  simp [hc239, hc261, hc283]
                rw [hex] at hQ37
                obtain ⟨rfl, rfl, Kq⟩ := hQ37
                rw [List.append_nil] at X37
                have Sn := Sn.keep Kq
                have O := O.keep Kq all0
                have E_b26 := E_b26.keep Kq
                have F_coder_b26 := F_coder_b26.keep Kq nin0
                have F_value_b26 := F_value_b26.keep Kq nin0
                have V_c := V_c.keep Kq nin0
                refine own_goW (U' := T37.setTop (mkF m 303 #[.val (.int p1), .val (.int p2), .val (.int p3), .val (.int p4), .val (.int ln), .val (.int nl), .val (.int c0'), .val (.int c1'), .val (.int c2'), .val (.ref b4), .val (.ref b5), .val (.ref b7), .val (.ref b10), .val (.ref b26), .val .null] [.null])) st37 ?_
                refine own_goW (U' := T37.setTop (mkF m 305 #[.val (.int p1), .val (.int p2), .val (.int p3), .val (.int p4), .val (.int ln), .val (.int nl), .val (.int c0'), .val (.int c1'), .val (.int c2'), .val (.ref b4), .val (.ref b5), .val (.ref b7), .val (.ref b10), .val (.ref b26), .val .null] [.null, .null])) (fun t k => XS.aload X37.here hx rfl (hb hby at_303) rfl rfl k) ?_
                refine own_goW (U' := T37.setTop (mkF m 308 #[.val (.int p1), .val (.int p2), .val (.int p3), .val (.int p4), .val (.int ln), .val (.int nl), .val (.int c0'), .val (.int c1'), .val (.int c2'), .val (.ref b4), .val (.ref b5), .val (.ref b7), .val (.ref b10), .val (.ref b26), .val .null] [])) (fun t k => Jvm.RoadKit.acmp (g := (mkF m 305 #[.val (.int p1), .val (.int p2), .val (.int p3), .val (.int p4), .val (.int ln), .val (.int nl), .val (.int c0'), .val (.int c1'), .val (.int c2'), .val (.ref b4), .val (.ref b5), .val (.ref b7), .val (.ref b10), .val (.ref b26), .val .null] [.null, .null])) X37 hx rfl rfl rfl (pc0 := 305) (pc' := 308) (same := true) rfl (hb hby at_305) rfl (decide_eq_true rfl) (by decide) (by decide) k) ?_
                refine own_goW (U' := T37.setTop (mkF m 309 #[.val (.int p1), .val (.int p2), .val (.int p3), .val (.int p4), .val (.int ln), .val (.int nl), .val (.int c0'), .val (.int c1'), .val (.int c2'), .val (.ref b4), .val (.ref b5), .val (.ref b7), .val (.ref b10), .val (.ref b26), .val .null] [(.int (1 : Int32))])) (fun t k => XS.iconst X37.here hx rfl (hb hby at_308) k) ?_
                refine own_goW (U' := T37.setTop (mkF m 313 #[.val (.int p1), .val (.int p2), .val (.int p3), .val (.int p4), .val (.int ln), .val (.int nl), .val (.int c0'), .val (.int c1'), .val (.int c2'), .val (.ref b4), .val (.ref b5), .val (.ref b7), .val (.ref b10), .val (.ref b26), .val .null] [(.int (1 : Int32))])) (fun t k => XS.goto X37.here hx rfl (pc0 := 309) (pc' := 313) rfl (hb hby at_309) (by decide) (by decide) k) ?_
                refine own_retWN X37 hx Sn e37 I (t := .boolean) hret (by simp) hlk (hb hby at_313) ?_ (by decide) (by decide)
                exact ⟨rfl, N27⟩
        · refine own_goW (U' := T13.setTop (mkF m 159 #[.val (.int p1), .val (.int p2), .val (.int p3), .val (.int p4), .val (.int ln), .val (.int nl), .val (.int c0'), .val (.int c1'), .val (.int c2'), .val (.ref b4), .val (.ref b5), .val (.ref b7), .val (.ref b10), .unset, .unset] [])) (fun t k => XS.icmpYes X13.here hx rfl (pc0 := 142) (pc' := 159) rfl (hb hby at_142) rfl (feq hl2).2 (by decide) (by decide) k) ?_
          obtain ⟨T38, h38, X38, e38, E38, A38, D38, -, st38⟩ := newO X13 hx hZ hown (hw _ (List.mem_of_getElem? (i := 5) rfl)) (hw _ (List.mem_of_getElem? (i := 6) rfl)) (hw _ (List.mem_of_getElem? (i := 7) rfl)) e13 (g := (mkF m 159 #[.val (.int p1), .val (.int p2), .val (.int p3), .val (.int p4), .val (.int ln), .val (.int nl), .val (.int c0'), .val (.int c1'), .val (.int c2'), .val (.ref b4), .val (.ref b5), .val (.ref b7), .val (.ref b10), .unset, .unset] [])) rfl (hb hby at_159) (by decide) (by decide)
          obtain ⟨b38, g38⟩ : ∃ z, z = h13.size := ⟨_, rfl⟩
          rw [← g38] at A38 D38 st38
          have ne_b4_b38 : b4 ≠ b38 := Nat.ne_of_lt (Nat.lt_of_lt_of_eq V_b4.lt g38.symm)
          have ne_b5_b38 : b5 ≠ b38 := Nat.ne_of_lt (Nat.lt_of_lt_of_eq V_b5.lt g38.symm)
          have ne_b7_b38 : b7 ≠ b38 := Nat.ne_of_lt (Nat.lt_of_lt_of_eq V_b7.lt g38.symm)
          have ne_b10_b38 : b10 ≠ b38 := Nat.ne_of_lt (Nat.lt_of_lt_of_eq V_b10.lt g38.symm)
          have g_b38 : n0 ≤ b38 := Nat.le_trans (Nat.le_trans (Nat.le_of_eq O.1.symm) O.2.1) (Nat.le_of_eq g38.symm)
          have Sn := Sn.ext E38
          have O := O.ext E38
          have V_b4 := V_b4.ext E38
          have E_b4 := E_b4.ext E38
          have V_b5 := V_b5.ext E38
          have E_b5 := E_b5.ext E38
          have V_b7 := V_b7.ext E38
          have E_b7 := E_b7.ext E38
          have V_b10 := V_b10.ext E38
          have E_b10 := E_b10.ext E38
          have E_b38 := A38
          have F_value_b38 : Fld Z h38 b38 "java/lang/String" "value" "[B" .null := D38 (Or.inr (hw _ (List.mem_of_getElem? (i := 20) rfl))) (ty := (.array .byte)) (by decide)
          have F_coder_b38 : Fld Z h38 b38 "java/lang/String" "coder" "B" (.int (0 : Int32)) := D38 (Or.inr (hw _ (List.mem_of_getElem? (i := 21) rfl))) (ty := .byte) (by decide)
          refine own_goW (U' := T38.setTop (mkF m 162 #[.val (.int p1), .val (.int p2), .val (.int p3), .val (.int p4), .val (.int ln), .val (.int nl), .val (.int c0'), .val (.int c1'), .val (.int c2'), .val (.ref b4), .val (.ref b5), .val (.ref b7), .val (.ref b10), .unset, .unset] [(.ref b38)])) st38 ?_
          refine own_goW (U' := T38.setTop (mkF m 163 #[.val (.int p1), .val (.int p2), .val (.int p3), .val (.int p4), .val (.int ln), .val (.int nl), .val (.int c0'), .val (.int c1'), .val (.int c2'), .val (.ref b4), .val (.ref b5), .val (.ref b7), .val (.ref b10), .unset, .unset] [(.ref b38), (.ref b38)])) (fun t k => XS.dup X38.here hx rfl (hb hby at_162) rfl rfl k) ?_
          refine own_goW (U' := T38.setTop (mkF m 165 #[.val (.int p1), .val (.int p2), .val (.int p3), .val (.int p4), .val (.int ln), .val (.int nl), .val (.int c0'), .val (.int c1'), .val (.int c2'), .val (.ref b4), .val (.ref b5), .val (.ref b7), .val (.ref b10), .unset, .unset] [(.ref b10), (.ref b38), (.ref b38)])) (fun t k => XS.aload X38.here hx rfl (hb hby at_163) rfl rfl k) ?_
          obtain ⟨v39, T39, h39, L39, e39, X39, hQ39, st39⟩ := own_callC X38 hx hZ (y := (⟨"java/lang/String", "<init>", "([C)V"⟩ : MethodName)) rfl hown (hw _ (List.mem_of_getElem? (i := 8) rfl)) (hw _ (List.mem_of_getElem? (i := 9) rfl)) (hw _ (List.mem_of_getElem? (i := 7) rfl)) (hw _ (List.mem_of_getElem? (i := 10) rfl)) (by decide) (a := b38) (own_rms13 l Z a0 hw b38 b10 h38 n0 g_b38 O cs hcs S_cs c0' c1' c2' hb0 hb1 hb2 _ _ E_b38 F_value_b38 F_coder_b38 _ V_b10) (W := 1) (by decide) (by decide) (g := (mkF m 165 #[.val (.int p1), .val (.int p2), .val (.int p3), .val (.int p4), .val (.int ln), .val (.int nl), .val (.int c0'), .val (.int c1'), .val (.int c2'), .val (.ref b4), .val (.ref b5), .val (.ref b7), .val (.ref b10), .unset, .unset] [(.ref b10), (.ref b38), (.ref b38)])) rfl (by rw [hml]; rfl) (argsL := [(.ref b10)]) (rest := [(.ref b38)]) (lenOf own_pd4 rfl) rfl rfl (by show 2 * 0 + _ ≤ _; exact Nat.le_of_eq rfl) (hb hby at_165) e38 (by decide) (by decide)
          obtain ⟨rfl, Nq, Kq, c, kc, Fv, Fc, V_c, -⟩ := hQ39
          have Sn := Sn.keep Kq
          have O := O.keep Kq (allS g_b38 all0)
          have V_b4 := V_b4.keep Kq (ninS ne_b4_b38 nin0)
          have E_b4 := E_b4.keep Kq
          have V_b5 := V_b5.keep Kq (ninS ne_b5_b38 nin0)
          have E_b5 := E_b5.keep Kq
          have V_b7 := V_b7.keep Kq (ninS ne_b7_b38 nin0)
          have E_b7 := E_b7.keep Kq
          have V_b10 := V_b10.keep Kq (ninS ne_b10_b38 nin0)
          have E_b10 := E_b10.keep Kq
          have E_b38 := E_b38.keep Kq
          have F_value_b38 := Fv
          have F_coder_b38 := Fc
          have N39 := Fr.app N13 Nq
          refine own_goW (U' := T39.setTop (mkF m 168 #[.val (.int p1), .val (.int p2), .val (.int p3), .val (.int p4), .val (.int ln), .val (.int nl), .val (.int c0'), .val (.int c1'), .val (.int c2'), .val (.ref b4), .val (.ref b5), .val (.ref b7), .val (.ref b10), .unset, .unset] [(.ref b38)])) st39 ?_
          refine own_goW (U' := T39.setTop (mkF m 170 #[.val (.int p1), .val (.int p2), .val (.int p3), .val (.int p4), .val (.int ln), .val (.int nl), .val (.int c0'), .val (.int c1'), .val (.int c2'), .val (.ref b4), .val (.ref b5), .val (.ref b7), .val (.ref b10), .val (.ref b38), .unset] [])) (fun t k => XS.astore X39.here hx rfl (hb hby at_168) rfl rfl (l' := #[.val (.int p1), .val (.int p2), .val (.int p3), .val (.int p4), .val (.int ln), .val (.int nl), .val (.int c0'), .val (.int c1'), .val (.int c2'), .val (.ref b4), .val (.ref b5), .val (.ref b7), .val (.ref b10), .val (.ref b38), .unset]) rfl k) ?_
          refine own_goW (U' := T39.setTop (mkF m 171 #[.val (.int p1), .val (.int p2), .val (.int p3), .val (.int p4), .val (.int ln), .val (.int nl), .val (.int c0'), .val (.int c1'), .val (.int c2'), .val (.ref b4), .val (.ref b5), .val (.ref b7), .val (.ref b10), .val (.ref b38), .unset] [.null])) (fun t k => XS.aconstNull X39.here hx rfl (hb hby at_170) k) ?_
          refine own_goW (U' := T39.setTop (mkF m 173 #[.val (.int p1), .val (.int p2), .val (.int p3), .val (.int p4), .val (.int ln), .val (.int nl), .val (.int c0'), .val (.int c1'), .val (.int c2'), .val (.ref b4), .val (.ref b5), .val (.ref b7), .val (.ref b10), .val (.ref b38), .val .null] [])) (fun t k => XS.astore X39.here hx rfl (hb hby at_171) rfl rfl (l' := #[.val (.int p1), .val (.int p2), .val (.int p3), .val (.int p4), .val (.int ln), .val (.int nl), .val (.int c0'), .val (.int c1'), .val (.int c2'), .val (.ref b4), .val (.ref b5), .val (.ref b7), .val (.ref b10), .val (.ref b38), .val .null]) rfl k) ?_
          refine own_goW (U' := T39.setTop (mkF m 175 #[.val (.int p1), .val (.int p2), .val (.int p3), .val (.int p4), .val (.int ln), .val (.int nl), .val (.int c0'), .val (.int c1'), .val (.int c2'), .val (.ref b4), .val (.ref b5), .val (.ref b7), .val (.ref b10), .val (.ref b38), .val .null] [(.int nl)])) (fun t k => XS.iload X39.here hx rfl (hb hby at_173) rfl k) ?_
          refine own_goW (U' := T39.setTop (mkF m 178 #[.val (.int p1), .val (.int p2), .val (.int p3), .val (.int p4), .val (.int ln), .val (.int nl), .val (.int c0'), .val (.int c1'), .val (.int c2'), .val (.ref b4), .val (.ref b5), .val (.ref b7), .val (.ref b10), .val (.ref b38), .val .null] [])) (fun t k => XS.ifNo X39.here hx rfl (hb hby at_175) rfl ((if0 _ _).trans (teq hnl).2) k) ?_
          refine own_goW (U' := T39.setTop (mkF m 180 #[.val (.int p1), .val (.int p2), .val (.int p3), .val (.int p4), .val (.int ln), .val (.int nl), .val (.int c0'), .val (.int c1'), .val (.int c2'), .val (.ref b4), .val (.ref b5), .val (.ref b7), .val (.ref b10), .val (.ref b38), .val .null] [(.int ln)])) (fun t k => XS.iload X39.here hx rfl (hb hby at_178) rfl k) ?_
          refine own_goW (U' := T39.setTop (mkF m 181 #[.val (.int p1), .val (.int p2), .val (.int p3), .val (.int p4), .val (.int ln), .val (.int nl), .val (.int c0'), .val (.int c1'), .val (.int c2'), .val (.ref b4), .val (.ref b5), .val (.ref b7), .val (.ref b10), .val (.ref b38), .val .null] [(.int (1 : Int32)), (.int ln)])) (fun t k => XS.iconst X39.here hx rfl (hb hby at_180) k) ?_
          refine own_goW (U' := T39.setTop (mkF m 229 #[.val (.int p1), .val (.int p2), .val (.int p3), .val (.int p4), .val (.int ln), .val (.int nl), .val (.int c0'), .val (.int c1'), .val (.int c2'), .val (.ref b4), .val (.ref b5), .val (.ref b7), .val (.ref b10), .val (.ref b38), .val .null] [])) (fun t k => XS.icmpYes X39.here hx rfl (pc0 := 181) (pc' := 229) rfl (hb hby at_181) rfl (feq hl1).2 (by decide) (by decide) k) ?_
          refine own_goW (U' := T39.setTop (mkF m 231 #[.val (.int p1), .val (.int p2), .val (.int p3), .val (.int p4), .val (.int ln), .val (.int nl), .val (.int c0'), .val (.int c1'), .val (.int c2'), .val (.ref b4), .val (.ref b5), .val (.ref b7), .val (.ref b10), .val (.ref b38), .val .null] [(.int ln)])) (fun t k => XS.iload X39.here hx rfl (hb hby at_229) rfl k) ?_
          refine own_goW (U' := T39.setTop (mkF m 232 #[.val (.int p1), .val (.int p2), .val (.int p3), .val (.int p4), .val (.int ln), .val (.int nl), .val (.int c0'), .val (.int c1'), .val (.int c2'), .val (.ref b4), .val (.ref b5), .val (.ref b7), .val (.ref b10), .val (.ref b38), .val .null] [(.int (2 : Int32)), (.int ln)])) (fun t k => XS.iconst X39.here hx rfl (hb hby at_231) k) ?_
          refine own_goW (U' := T39.setTop (mkF m 298 #[.val (.int p1), .val (.int p2), .val (.int p3), .val (.int p4), .val (.int ln), .val (.int nl), .val (.int c0'), .val (.int c1'), .val (.int c2'), .val (.ref b4), .val (.ref b5), .val (.ref b7), .val (.ref b10), .val (.ref b38), .val .null] [])) (fun t k => XS.icmpYes X39.here hx rfl (pc0 := 232) (pc' := 298) rfl (hb hby at_232) rfl (feq hl2).2 (by decide) (by decide) k) ?_
          refine own_goW (U' := T39.setTop (mkF m 300 #[.val (.int p1), .val (.int p2), .val (.int p3), .val (.int p4), .val (.int ln), .val (.int nl), .val (.int c0'), .val (.int c1'), .val (.int c2'), .val (.ref b4), .val (.ref b5), .val (.ref b7), .val (.ref b10), .val (.ref b38), .val .null] [(.ref b38)])) (fun t k => XS.aload X39.here hx rfl (hb hby at_298) rfl rfl k) ?_
          obtain ⟨v40, T40, h40, L40, e40, X40, hQ40, st40⟩ := own_callS X39 hx hZ (y := (⟨"com/example/pagemark/pagemark/statements/Restriction$Operator", "ofSymbol", "(Ljava/lang/String;)Lcom/example/pagemark/pagemark/statements/Restriction$Operator;"⟩ : MethodName)) hown (hw _ (List.mem_of_getElem? (i := 26) rfl)) (hw _ (List.mem_of_getElem? (i := 27) rfl)) (hw _ (List.mem_of_getElem? (i := 28) rfl)) (hw _ (List.mem_of_getElem? (i := 29) rfl)) (by decide) (own_rmos3 l Z a0 hw b38 h39 n0 en0 en1 en2 en3 en4 en5 O vv kv S_v V_v E_v tx0 tx1 tx2 tx3 tx4 tx5 bx0 bx1 bx2 bx3 bx4 bx5 kx0 kx1 kx2 kx3 kx4 kx5 FT0 ET0 FC0 FV0 VB0 FT1 ET1 FC1 FV1 VB1 FT2 ET2 FC2 FV2 VB2 FT3 ET3 FC3 FV3 VB3 FT4 ET4 FC4 FV4 VB4 FT5 ET5 FC5 FV5 VB5 cs hcs S_cs (own_bv c0') (own_bv c1') (own_bv c2') _ _ E_b38 F_coder_b38 F_value_b38 V_c) (W := 0) (by decide) (by decide) (g := (mkF m 300 #[.val (.int p1), .val (.int p2), .val (.int p3), .val (.int p4), .val (.int ln), .val (.int nl), .val (.int c0'), .val (.int c1'), .val (.int c2'), .val (.ref b4), .val (.ref b5), .val (.ref b7), .val (.ref b10), .val (.ref b38), .val .null] [(.ref b38)])) rfl (by rw [hml]; rfl) (argsL := [(.ref b38)]) (rest := []) (lenOf own_pd10 rfl) rfl rfl (by show 2 * 0 + _ ≤ _; exact Nat.le_of_eq rfl) (hb hby at_300) e39 (by decide) (by decide)
          obtain ⟨rfl, rfl, Kq⟩ := hQ40
          rw [List.append_nil] at X40
          have Sn := Sn.keep Kq
          have O := O.keep Kq all0
          have E_b38 := E_b38.keep Kq
          have F_coder_b38 := F_coder_b38.keep Kq nin0
          have F_value_b38 := F_value_b38.keep Kq nin0
          have V_c := V_c.keep Kq nin0
          refine own_goW (U' := T40.setTop (mkF m 303 #[.val (.int p1), .val (.int p2), .val (.int p3), .val (.int p4), .val (.int ln), .val (.int nl), .val (.int c0'), .val (.int c1'), .val (.int c2'), .val (.ref b4), .val (.ref b5), .val (.ref b7), .val (.ref b10), .val (.ref b38), .val .null] [.null])) st40 ?_
          refine own_goW (U' := T40.setTop (mkF m 305 #[.val (.int p1), .val (.int p2), .val (.int p3), .val (.int p4), .val (.int ln), .val (.int nl), .val (.int c0'), .val (.int c1'), .val (.int c2'), .val (.ref b4), .val (.ref b5), .val (.ref b7), .val (.ref b10), .val (.ref b38), .val .null] [.null, .null])) (fun t k => XS.aload X40.here hx rfl (hb hby at_303) rfl rfl k) ?_
          refine own_goW (U' := T40.setTop (mkF m 308 #[.val (.int p1), .val (.int p2), .val (.int p3), .val (.int p4), .val (.int ln), .val (.int nl), .val (.int c0'), .val (.int c1'), .val (.int c2'), .val (.ref b4), .val (.ref b5), .val (.ref b7), .val (.ref b10), .val (.ref b38), .val .null] [])) (fun t k => Jvm.RoadKit.acmp (g := (mkF m 305 #[.val (.int p1), .val (.int p2), .val (.int p3), .val (.int p4), .val (.int ln), .val (.int nl), .val (.int c0'), .val (.int c1'), .val (.int c2'), .val (.ref b4), .val (.ref b5), .val (.ref b7), .val (.ref b10), .val (.ref b38), .val .null] [.null, .null])) X40 hx rfl rfl rfl (pc0 := 305) (pc' := 308) (same := true) rfl (hb hby at_305) rfl (decide_eq_true rfl) (by decide) (by decide) k) ?_
          refine own_goW (U' := T40.setTop (mkF m 309 #[.val (.int p1), .val (.int p2), .val (.int p3), .val (.int p4), .val (.int ln), .val (.int nl), .val (.int c0'), .val (.int c1'), .val (.int c2'), .val (.ref b4), .val (.ref b5), .val (.ref b7), .val (.ref b10), .val (.ref b38), .val .null] [(.int (1 : Int32))])) (fun t k => XS.iconst X40.here hx rfl (hb hby at_308) k) ?_
          refine own_goW (U' := T40.setTop (mkF m 313 #[.val (.int p1), .val (.int p2), .val (.int p3), .val (.int p4), .val (.int ln), .val (.int nl), .val (.int c0'), .val (.int c1'), .val (.int c2'), .val (.ref b4), .val (.ref b5), .val (.ref b7), .val (.ref b10), .val (.ref b38), .val .null] [(.int (1 : Int32))])) (fun t k => XS.goto X40.here hx rfl (pc0 := 309) (pc' := 313) rfl (hb hby at_309) (by decide) (by decide) k) ?_
          refine own_retWN X40 hx Sn e40 I (t := .boolean) hret (by simp) hlk (hb hby at_313) ?_ (by decide) (by decide)
          exact ⟨rfl, N39⟩
  · refine own_goW (U' := T13.setTop (mkF m 94 #[.val (.int p1), .val (.int p2), .val (.int p3), .val (.int p4), .val (.int ln), .val (.int nl), .val (.int c0'), .val (.int c1'), .val (.int c2'), .val (.ref b4), .val (.ref b5), .val (.ref b7), .val (.ref b10), .unset, .unset] [])) (fun t k => XS.ifNo X13.here hx rfl (hb hby at_91) rfl ((if0 _ _).trans (feq hnl).1) k) ?_
    refine own_goW (U' := T13.setTop (mkF m 95 #[.val (.int p1), .val (.int p2), .val (.int p3), .val (.int p4), .val (.int ln), .val (.int nl), .val (.int c0'), .val (.int c1'), .val (.int c2'), .val (.ref b4), .val (.ref b5), .val (.ref b7), .val (.ref b10), .unset, .unset] [.null])) (fun t k => XS.aconstNull X13.here hx rfl (hb hby at_94) k) ?_
    refine own_goW (U' := T13.setTop (mkF m 97 #[.val (.int p1), .val (.int p2), .val (.int p3), .val (.int p4), .val (.int ln), .val (.int nl), .val (.int c0'), .val (.int c1'), .val (.int c2'), .val (.ref b4), .val (.ref b5), .val (.ref b7), .val (.ref b10), .val .null, .unset] [])) (fun t k => XS.astore X13.here hx rfl (hb hby at_95) rfl rfl (l' := #[.val (.int p1), .val (.int p2), .val (.int p3), .val (.int p4), .val (.int ln), .val (.int nl), .val (.int c0'), .val (.int c1'), .val (.int c2'), .val (.ref b4), .val (.ref b5), .val (.ref b7), .val (.ref b10), .val .null, .unset]) rfl k) ?_
    refine own_goW (U' := T13.setTop (mkF m 170 #[.val (.int p1), .val (.int p2), .val (.int p3), .val (.int p4), .val (.int ln), .val (.int nl), .val (.int c0'), .val (.int c1'), .val (.int c2'), .val (.ref b4), .val (.ref b5), .val (.ref b7), .val (.ref b10), .val .null, .unset] [])) (fun t k => XS.goto X13.here hx rfl (pc0 := 97) (pc' := 170) rfl (hb hby at_97) (by decide) (by decide) k) ?_
    refine own_goW (U' := T13.setTop (mkF m 171 #[.val (.int p1), .val (.int p2), .val (.int p3), .val (.int p4), .val (.int ln), .val (.int nl), .val (.int c0'), .val (.int c1'), .val (.int c2'), .val (.ref b4), .val (.ref b5), .val (.ref b7), .val (.ref b10), .val .null, .unset] [.null])) (fun t k => XS.aconstNull X13.here hx rfl (hb hby at_170) k) ?_
    refine own_goW (U' := T13.setTop (mkF m 173 #[.val (.int p1), .val (.int p2), .val (.int p3), .val (.int p4), .val (.int ln), .val (.int nl), .val (.int c0'), .val (.int c1'), .val (.int c2'), .val (.ref b4), .val (.ref b5), .val (.ref b7), .val (.ref b10), .val .null, .val .null] [])) (fun t k => XS.astore X13.here hx rfl (hb hby at_171) rfl rfl (l' := #[.val (.int p1), .val (.int p2), .val (.int p3), .val (.int p4), .val (.int ln), .val (.int nl), .val (.int c0'), .val (.int c1'), .val (.int c2'), .val (.ref b4), .val (.ref b5), .val (.ref b7), .val (.ref b10), .val .null, .val .null]) rfl k) ?_
    refine own_goW (U' := T13.setTop (mkF m 175 #[.val (.int p1), .val (.int p2), .val (.int p3), .val (.int p4), .val (.int ln), .val (.int nl), .val (.int c0'), .val (.int c1'), .val (.int c2'), .val (.ref b4), .val (.ref b5), .val (.ref b7), .val (.ref b10), .val .null, .val .null] [(.int nl)])) (fun t k => XS.iload X13.here hx rfl (hb hby at_173) rfl k) ?_
    refine own_goW (U' := T13.setTop (mkF m 298 #[.val (.int p1), .val (.int p2), .val (.int p3), .val (.int p4), .val (.int ln), .val (.int nl), .val (.int c0'), .val (.int c1'), .val (.int c2'), .val (.ref b4), .val (.ref b5), .val (.ref b7), .val (.ref b10), .val .null, .val .null] [])) (fun t k => XS.ifYes X13.here hx rfl (pc0 := 175) (pc' := 298) rfl (hb hby at_175) rfl ((if0 _ _).trans (feq hnl).2) (by decide) (by decide) k) ?_
    refine own_goW (U' := T13.setTop (mkF m 300 #[.val (.int p1), .val (.int p2), .val (.int p3), .val (.int p4), .val (.int ln), .val (.int nl), .val (.int c0'), .val (.int c1'), .val (.int c2'), .val (.ref b4), .val (.ref b5), .val (.ref b7), .val (.ref b10), .val .null, .val .null] [.null])) (fun t k => XS.aload X13.here hx rfl (hb hby at_298) rfl rfl k) ?_
    obtain ⟨v41, T41, h41, L41, e41, X41, hQ41, st41⟩ := own_callS X13 hx hZ (y := (⟨"com/example/pagemark/pagemark/statements/Restriction$Operator", "ofSymbol", "(Ljava/lang/String;)Lcom/example/pagemark/pagemark/statements/Restriction$Operator;"⟩ : MethodName)) hown (hw _ (List.mem_of_getElem? (i := 26) rfl)) (hw _ (List.mem_of_getElem? (i := 27) rfl)) (hw _ (List.mem_of_getElem? (i := 28) rfl)) (hw _ (List.mem_of_getElem? (i := 29) rfl)) (by decide) (own_rmosn l Z a0 hw h13 n0 en0 en1 en2 en3 en4 en5 O vv kv S_v V_v E_v tx0 tx1 tx2 tx3 tx4 tx5 bx0 bx1 bx2 bx3 bx4 bx5 kx0 kx1 kx2 kx3 kx4 kx5 FT0 ET0 FC0 FV0 VB0 FT1 ET1 FC1 FV1 VB1 FT2 ET2 FC2 FV2 VB2 FT3 ET3 FC3 FV3 VB3 FT4 ET4 FC4 FV4 VB4 FT5 ET5 FC5 FV5 VB5 cs hcs S_cs) (W := 0) (by decide) (by decide) (g := (mkF m 300 #[.val (.int p1), .val (.int p2), .val (.int p3), .val (.int p4), .val (.int ln), .val (.int nl), .val (.int c0'), .val (.int c1'), .val (.int c2'), .val (.ref b4), .val (.ref b5), .val (.ref b7), .val (.ref b10), .val .null, .val .null] [.null])) rfl (by rw [hml]; rfl) (argsL := [.null]) (rest := []) (lenOf own_pd10 rfl) rfl rfl (by show 2 * 0 + _ ≤ _; exact Nat.le_of_eq rfl) (hb hby at_300) e13 (by decide) (by decide)
    obtain ⟨rfl, rfl, Kq⟩ := hQ41
    rw [List.append_nil] at X41
    have Sn := Sn.keep Kq
    have O := O.keep Kq all0
    have V_b4 := V_b4.keep Kq nin0
    have E_b4 := E_b4.keep Kq
    have V_b5 := V_b5.keep Kq nin0
    have E_b5 := E_b5.keep Kq
    have V_b7 := V_b7.keep Kq nin0
    have E_b7 := E_b7.keep Kq
    have V_b10 := V_b10.keep Kq nin0
    have E_b10 := E_b10.keep Kq
    refine own_goW (U' := T41.setTop (mkF m 303 #[.val (.int p1), .val (.int p2), .val (.int p3), .val (.int p4), .val (.int ln), .val (.int nl), .val (.int c0'), .val (.int c1'), .val (.int c2'), .val (.ref b4), .val (.ref b5), .val (.ref b7), .val (.ref b10), .val .null, .val .null] [.null])) st41 ?_
    refine own_goW (U' := T41.setTop (mkF m 305 #[.val (.int p1), .val (.int p2), .val (.int p3), .val (.int p4), .val (.int ln), .val (.int nl), .val (.int c0'), .val (.int c1'), .val (.int c2'), .val (.ref b4), .val (.ref b5), .val (.ref b7), .val (.ref b10), .val .null, .val .null] [.null, .null])) (fun t k => XS.aload X41.here hx rfl (hb hby at_303) rfl rfl k) ?_
    refine own_goW (U' := T41.setTop (mkF m 308 #[.val (.int p1), .val (.int p2), .val (.int p3), .val (.int p4), .val (.int ln), .val (.int nl), .val (.int c0'), .val (.int c1'), .val (.int c2'), .val (.ref b4), .val (.ref b5), .val (.ref b7), .val (.ref b10), .val .null, .val .null] [])) (fun t k => Jvm.RoadKit.acmp (g := (mkF m 305 #[.val (.int p1), .val (.int p2), .val (.int p3), .val (.int p4), .val (.int ln), .val (.int nl), .val (.int c0'), .val (.int c1'), .val (.int c2'), .val (.ref b4), .val (.ref b5), .val (.ref b7), .val (.ref b10), .val .null, .val .null] [.null, .null])) X41 hx rfl rfl rfl (pc0 := 305) (pc' := 308) (same := true) rfl (hb hby at_305) rfl (decide_eq_true rfl) (by decide) (by decide) k) ?_
    refine own_goW (U' := T41.setTop (mkF m 309 #[.val (.int p1), .val (.int p2), .val (.int p3), .val (.int p4), .val (.int ln), .val (.int nl), .val (.int c0'), .val (.int c1'), .val (.int c2'), .val (.ref b4), .val (.ref b5), .val (.ref b7), .val (.ref b10), .val .null, .val .null] [(.int (1 : Int32))])) (fun t k => XS.iconst X41.here hx rfl (hb hby at_308) k) ?_
    refine own_goW (U' := T41.setTop (mkF m 313 #[.val (.int p1), .val (.int p2), .val (.int p3), .val (.int p4), .val (.int ln), .val (.int nl), .val (.int c0'), .val (.int c1'), .val (.int c2'), .val (.ref b4), .val (.ref b5), .val (.ref b7), .val (.ref b10), .val .null, .val .null] [(.int (1 : Int32))])) (fun t k => XS.goto X41.here hx rfl (pc0 := 309) (pc' := 313) rfl (hb hby at_309) (by decide) (by decide) k) ?_
    refine own_retWN X41 hx Sn e41 I (t := .boolean) hret (by simp) hlk (hb hby at_313) ?_ (by decide) (by decide)
    exact ⟨rfl, N13⟩
set_option maxRecDepth 65536 in
set_option maxHeartbeats 40000000 in
theorem comes_1 {Post : Tables → Env → Array Value → State → Outcome → State → Prop} (hpost : ∀ tb e args s v u, (limb_1_1.after args s (.returned v) u = true ∧ limb_1_2.after args s (.returned v) u = true) → ReturnedEndW s (.returned v) u (Jvm.fieldLocs frame_1_writes args s ++ Jvm.arrayLocs frame_1_arrays args s ++ Jvm.staticLocs frame_1_statics s) 24 1152 → Post tb e args s (.returned v) u) :
    ArmFor flags0 classFile x code maxLocals ret World_1 tables_1 room_1 Calls_1 rest_1 Pre_1 Post := by
  intro l hfl _ _ p e ha hc hk s m args below hf hA hF happ hP
  obtain ⟨hcalls, hrest, hpre⟩ := hP
  obtain ⟨-, -, -, hnamed, -, -, -, hat⟩ := (Spec.applies_iff hf).mp happ
  obtain ⟨hg, hn⟩ := and_e (Cond.before_iff.mp (show (Jvm.Cond.and given_1 narrow_1).before args s = true from hpre))
  obtain ⟨hcount, r0⟩ := and_e hg
  obtain ⟨g0, r1⟩ := and_e r0
  obtain ⟨g1, r2⟩ := and_e r1
  obtain ⟨g2, g3⟩ := and_e r2
  obtain ⟨w0, w1, w2, w3, rfl⟩ : ∃ w0 w1 w2 w3 : Value, args = #[w0, w1, w2, w3] := by
    have hs : args.size = 4 := by simpa [Cond.value, given_1] using hcount
    obtain ⟨L⟩ := args
    match L, hs with
    | [w0, w1, w2, w3], _ => exact ⟨w0, w1, w2, w3, rfl⟩
  have hw := fun d (hd : d ∈ tables_1) => atoms_spec (ws := Jvm.Cond.code x code maxLocals ret :: tables_1) hat d (List.mem_cons_of_mem _ hd)
  have hfit : Fit s := fun {y c} hc i hi => by
    obtain ⟨ha, rfl⟩ := Array.getElem?_eq_some_iff.mp hc
    have q := List.all_eq_true.mp ((Array.all_eq_true_iff_forall_mem.mp hF) _ (Array.getElem_mem ha)) i (List.mem_range.mpr hi)
    simpa [Array.getElem?_eq_getElem hi] using q
  obtain ⟨hsets, hown0⟩ := atoms_of _ (rest_1_c_eq ▸ (show rest_1_c.before _ s = true from hrest))
  have hr0 := Cond.before_iff.mp hown0
  obtain ⟨i0, ei0⟩ := is_v g0
  obtain rfl : w0 = (.int i0) := Option.some.inj ei0
  obtain ⟨i1, ei1⟩ := is_v g1
  obtain rfl : w1 = (.int i1) := Option.some.inj ei1
  obtain ⟨i2, ei2⟩ := is_v g2
  obtain rfl : w2 = (.int i2) := Option.some.inj ei2
  obtain ⟨i3, ei3⟩ := is_v g3
  obtain rfl : w3 = (.int i3) := Option.some.inj ei3
  obtain ⟨c1, hn⟩ := and_e hn
  obtain ⟨c2, hn⟩ := and_e hn
  obtain ⟨c3, hn⟩ := and_e hn
  obtain ⟨x0, hn⟩ := and_e hn
  obtain ⟨y0, hn⟩ := and_e hn
  obtain ⟨x1, hn⟩ := and_e hn
  obtain ⟨y1, hn⟩ := and_e hn
  obtain ⟨x2, hn⟩ := and_e hn
  obtain ⟨y2, hn⟩ := and_e hn
  obtain ⟨x3, hn⟩ := and_e hn
  obtain ⟨y3, hn⟩ := and_e hn
  obtain ⟨x4, hn⟩ := and_e hn
  obtain ⟨y4, hn⟩ := and_e hn
  obtain ⟨x5, hn⟩ := and_e hn
  obtain ⟨y5, hn⟩ := and_e hn
  obtain ⟨q0, hn⟩ := and_e hn
  obtain ⟨r0, hn⟩ := and_e hn
  obtain ⟨t0, hn⟩ := and_e hn
  obtain ⟨u0, hn⟩ := and_e hn
  obtain ⟨q1, hn⟩ := and_e hn
  obtain ⟨r1, hn⟩ := and_e hn
  obtain ⟨t1, hn⟩ := and_e hn
  obtain ⟨u1, hn⟩ := and_e hn
  obtain ⟨q2, hn⟩ := and_e hn
  obtain ⟨r2, hn⟩ := and_e hn
  obtain ⟨t2, hn⟩ := and_e hn
  obtain ⟨u2, hn⟩ := and_e hn
  obtain ⟨q3, hn⟩ := and_e hn
  obtain ⟨r3, hn⟩ := and_e hn
  obtain ⟨t3, hn⟩ := and_e hn
  obtain ⟨u3, hn⟩ := and_e hn
  obtain ⟨q4, hn⟩ := and_e hn
  obtain ⟨r4, hn⟩ := and_e hn
  obtain ⟨t4, hn⟩ := and_e hn
  obtain ⟨u4, hn⟩ := and_e hn
  obtain ⟨q5, hn⟩ := and_e hn
  obtain ⟨r5, hn⟩ := and_e hn
  obtain ⟨t5, hn⟩ := and_e hn
  obtain ⟨u5, hn⟩ := and_e hn
  obtain ⟨z2_0, hn⟩ := and_e hn
  obtain ⟨z4_0, hn⟩ := and_e hn
  obtain ⟨z5_0, hn⟩ := and_e hn
  obtain ⟨z0_0, hn⟩ := and_e hn
  obtain ⟨z1_0, hn⟩ := and_e hn
  obtain ⟨z3_0, hn⟩ := and_e hn
  obtain ⟨z4_1, hn⟩ := and_e hn
  obtain ⟨z2_1, hn⟩ := and_e hn
  have z5_1 := hn
  obtain ⟨vv, evv⟩ := exa_v c2
  obtain ⟨en0, ev0⟩ := exa_v x0
  obtain ⟨tx0, et0⟩ := exa_v q0
  obtain ⟨bx0, eb0⟩ := arr_v t0
  obtain ⟨en1, ev1⟩ := exa_v x1
  obtain ⟨tx1, et1⟩ := exa_v q1
  obtain ⟨bx1, eb1⟩ := arr_v t1
  obtain ⟨en2, ev2⟩ := exa_v x2
  obtain ⟨tx2, et2⟩ := exa_v q2
  obtain ⟨bx2, eb2⟩ := arr_v t2
  obtain ⟨en3, ev3⟩ := exa_v x3
  obtain ⟨tx3, et3⟩ := exa_v q3
  obtain ⟨bx3, eb3⟩ := arr_v t3
  obtain ⟨en4, ev4⟩ := exa_v x4
  obtain ⟨tx4, et4⟩ := exa_v q4
  obtain ⟨bx4, eb4⟩ := arr_v t4
  obtain ⟨en5, ev5⟩ := exa_v x5
  obtain ⟨tx5, et5⟩ := exa_v q5
  obtain ⟨bx5, eb5⟩ := arr_v t5
  have S0 := Sta.start ev0 (Or.inr ⟨hw _ (List.mem_of_getElem? (i := 28) rfl), hw _ (List.mem_of_getElem? (i := 42) rfl)⟩)
  have FT0 := Fld.start ((fld_at ev0).symm.trans et0)
  have ET0 := Exa.start et0 q0
  have FC0 := own_fldI et0 r0
  have FV0 := Fld.start ((fld_at et0).symm.trans eb0)
  obtain ⟨cb0, Ab0, hlb0, hbb0⟩ := own_lenN eb0 t0 u0
  have VB0 : own_Ar s s.heap bx0 cb0.cls .byte [.int (61 : Int32)] := ⟨cb0, Ab0, rfl, own_arr1 (own_szI (n := 1) (by decide) hlb0 hbb0) (own_elemI eb0 Ab0 z0_0), (by simp), (by intro v hv; simp only [List.mem_cons, List.not_mem_nil, or_false] at hv; rcases hv with rfl <;> decide)⟩
  have S1 := Sta.start ev1 (Or.inr ⟨hw _ (List.mem_of_getElem? (i := 28) rfl), hw _ (List.mem_of_getElem? (i := 43) rfl)⟩)
  have FT1 := Fld.start ((fld_at ev1).symm.trans et1)
  have ET1 := Exa.start et1 q1
  have FC1 := own_fldI et1 r1
  have FV1 := Fld.start ((fld_at et1).symm.trans eb1)
  obtain ⟨cb1, Ab1, hlb1, hbb1⟩ := own_lenN eb1 t1 u1
  have VB1 : own_Ar s s.heap bx1 cb1.cls .byte [.int (60 : Int32)] := ⟨cb1, Ab1, rfl, own_arr1 (own_szI (n := 1) (by decide) hlb1 hbb1) (own_elemI eb1 Ab1 z1_0), (by simp), (by intro v hv; simp only [List.mem_cons, List.not_mem_nil, or_false] at hv; rcases hv with rfl <;> decide)⟩
  have S2 := Sta.start ev2 (Or.inr ⟨hw _ (List.mem_of_getElem? (i := 28) rfl), hw _ (List.mem_of_getElem? (i := 44) rfl)⟩)
  have FT2 := Fld.start ((fld_at ev2).symm.trans et2)
  have ET2 := Exa.start et2 q2
  have FC2 := own_fldI et2 r2
  have FV2 := Fld.start ((fld_at et2).symm.trans eb2)
  obtain ⟨cb2, Ab2, hlb2, hbb2⟩ := own_lenN eb2 t2 u2
  have VB2 : own_Ar s s.heap bx2 cb2.cls .byte [.int (60 : Int32), .int (61 : Int32)] := ⟨cb2, Ab2, rfl, own_arr2 (own_szI (n := 2) (by decide) hlb2 hbb2) (own_elemI eb2 Ab2 z2_0) (own_elemI eb2 Ab2 z2_1), (by simp), (by intro v hv; simp only [List.mem_cons, List.not_mem_nil, or_false] at hv; rcases hv with rfl | rfl <;> decide)⟩
  have S3 := Sta.start ev3 (Or.inr ⟨hw _ (List.mem_of_getElem? (i := 28) rfl), hw _ (List.mem_of_getElem? (i := 45) rfl)⟩)
  have FT3 := Fld.start ((fld_at ev3).symm.trans et3)
  have ET3 := Exa.start et3 q3
  have FC3 := own_fldI et3 r3
  have FV3 := Fld.start ((fld_at et3).symm.trans eb3)
  obtain ⟨cb3, Ab3, hlb3, hbb3⟩ := own_lenN eb3 t3 u3
  have VB3 : own_Ar s s.heap bx3 cb3.cls .byte [.int (62 : Int32)] := ⟨cb3, Ab3, rfl, own_arr1 (own_szI (n := 1) (by decide) hlb3 hbb3) (own_elemI eb3 Ab3 z3_0), (by simp), (by intro v hv; simp only [List.mem_cons, List.not_mem_nil, or_false] at hv; rcases hv with rfl <;> decide)⟩
  have S4 := Sta.start ev4 (Or.inr ⟨hw _ (List.mem_of_getElem? (i := 28) rfl), hw _ (List.mem_of_getElem? (i := 46) rfl)⟩)
  have FT4 := Fld.start ((fld_at ev4).symm.trans et4)
  have ET4 := Exa.start et4 q4
  have FC4 := own_fldI et4 r4
  have FV4 := Fld.start ((fld_at et4).symm.trans eb4)
  obtain ⟨cb4, Ab4, hlb4, hbb4⟩ := own_lenN eb4 t4 u4
  have VB4 : own_Ar s s.heap bx4 cb4.cls .byte [.int (62 : Int32), .int (61 : Int32)] := ⟨cb4, Ab4, rfl, own_arr2 (own_szI (n := 2) (by decide) hlb4 hbb4) (own_elemI eb4 Ab4 z4_0) (own_elemI eb4 Ab4 z4_1), (by simp), (by intro v hv; simp only [List.mem_cons, List.not_mem_nil, or_false] at hv; rcases hv with rfl | rfl <;> decide)⟩
  have S5 := Sta.start ev5 (Or.inr ⟨hw _ (List.mem_of_getElem? (i := 28) rfl), hw _ (List.mem_of_getElem? (i := 47) rfl)⟩)
  have FT5 := Fld.start ((fld_at ev5).symm.trans et5)
  have ET5 := Exa.start et5 q5
  have FC5 := own_fldI et5 r5
  have FV5 := Fld.start ((fld_at et5).symm.trans eb5)
  obtain ⟨cb5, Ab5, hlb5, hbb5⟩ := own_lenN eb5 t5 u5
  have VB5 : own_Ar s s.heap bx5 cb5.cls .byte [.int (73 : Int32), .int (78 : Int32)] := ⟨cb5, Ab5, rfl, own_arr2 (own_szI (n := 2) (by decide) hlb5 hbb5) (own_elemI eb5 Ab5 z5_0) (own_elemI eb5 Ab5 z5_1), (by simp), (by intro v hv; simp only [List.mem_cons, List.not_mem_nil, or_false] at hv; rcases hv with rfl | rfl <;> decide)⟩
  have S_v := Sta.start evv (Or.inr ⟨hw _ (List.mem_of_getElem? (i := 28) rfl), hw _ (List.mem_of_getElem? (i := 34) rfl)⟩)
  have E_v := Exa.start evv c2
  obtain ⟨cv, Av, hlv, hbv⟩ := own_lenN evv c1 c3
  have el0 := own_elem evv ev0 Av y0
  have el1 := own_elem evv ev1 Av y1
  have el2 := own_elem evv ev2 Av y2
  have el3 := own_elem evv ev3 Av y3
  have el4 := own_elem evv ev4 Av y4
  have el5 := own_elem evv ev5 Av y5
  have V_v : own_Ar s s.heap vv cv.cls (.object "com/example/pagemark/pagemark/statements/Restriction$Operator") [(.ref en0), (.ref en1), (.ref en2), (.ref en3), (.ref en4), (.ref en5)] := ⟨cv, Av, rfl, own_arr6 (own_szI (n := 6) (by decide) hlv hbv) el0 el1 el2 el3 el4 el5, (by simp), (by intro v hv; simp only [List.mem_cons, List.not_mem_nil, or_false] at hv; rcases hv with rfl | rfl | rfl | rfl | rfl | rfl <;> rfl)⟩
  obtain ⟨cs, evcs⟩ := is_v (Cond.before_iff.mp (hsets _ (List.mem_of_getElem? (i := 1) rfl)))
  have hcs := own_ne0 evcs (hsets _ (List.mem_of_getElem? (i := 2) rfl))
  have S_cs := Sta.start evcs (Or.inl (hsets _ (List.mem_of_getElem? (i := 0) rfl)))
  have hhE : Jvm.Lit.constHeld s "java/lang/String" 7 := hcalls.1 _ (List.mem_of_getElem? (i := 0) rfl)
  obtain ⟨n, o, h1, h2, h3, _, L, _, rfl, ⟨rfl, N⟩, -, hq⟩ := own_rm0 l s _ hw tables_1 i0 i1 i2 i3 s.heap s.heap.size en0 en1 en2 en3 en4 en5 (Old.start s) vv _ S_v V_v E_v tx0 tx1 tx2 tx3 tx4 tx5 bx0 bx1 bx2 bx3 bx4 bx5 _ _ _ _ _ _ FT0 ET0 FC0 FV0 VB0 FT1 ET1 FC1 FV1 VB1 FT2 ET2 FC2 FV2 VB2 FT3 ET3 FC3 FV3 VB3 FT4 ET4 FC4 FV4 VB4 FT5 ET5 FC5 FV5 VB5 S0 S1 S2 S3 S4 S5 cs hcs S_cs hhE (hsets _ (List.mem_of_getElem? (i := 2) rfl)) p e ha hc hk s m _ below hf ((Spec.applies_iff_loose hf).mp happ).1 ⟨rfl, State.Warmed39.refl s, rfl, IB.start⟩ trivial
  refine ⟨n, _, h1, h2, h3, hpost _ _ _ _ _ _ ⟨Cond.after_iff.mpr rfl, Cond.after_iff.mpr (eq_i res_at (Term.int_eval (1)) rfl)⟩ ⟨hq.1, hq.2.1, hq.2.2.1, (hq.2.2.2.sift fun y hy => Or.inr (N y hy)).mono (by decide) (by decide)⟩⟩
theorem main_1_1 : Claimed_1_1 := comes_1 fun _ _ _ _ _ _ h hF => ⟨h.1, hF⟩
theorem main_1_2 : Claimed_1_2 := comes_1 fun _ _ _ _ _ _ h hF => ⟨h.2, hF⟩
end Jvm.Pilot.@@N@@
namespace Jvm.Pilot.@@N@@
open Jvm Jvm.ClassFile Sem Op Lib Jvm.Free Jvm.Stand Jvm.Pilot.@@N@@.Jvm.D
/-! MADE BY PROGRAM (witnessworld.py) out of the Statement's table words and the real class files: 22 classes; the members and pool entries that the words name. The judged class is class 1, her method 2. -/
namespace start1
open Jvm.ClassFile
def u (s : String) : CpInfo := .utf8 (stringToUtf16 s)
/-- a pool by its gaps: so many unusable entries, then the entry; so many at the end -/
def gap : Nat → List CpInfo → List CpInfo
  | 0, r => r
  | n + 1, r => .unusable :: gap n r
def poolList (es : List (Nat × CpInfo)) (last : Nat) : List CpInfo := es.foldr (fun e r => gap e.1 (e.2 :: r)) (gap last [])
def pool (es : List (Nat × CpInfo)) (last : Nat) : Array CpInfo := ⟨poolList es last⟩
def fileOf (pool : Array CpInfo) (this : Nat) (attrs : Array Attribute := #[]) (ms : Array MethodInfo := #[]) (fl : Nat := 33) (sup : Nat := 0) (ifs : Array Nat := #[]) (fds : Array FieldInfo := #[]) : ClassFile where
  minorVersion := 0
  majorVersion := 65
  constantPool := pool
  accessFlags := fl
  thisClass := this
  superClass := sup
  interfaces := ifs
  fields := fds
  methods := ms
  attributes := attrs
def plain (name : String) (sup : Option ClassId) : Class where
  name := name
  kind := .ordinary
  loader := none
  accessFlags := 33
  super := sup
  interfaces := #[]
  cf := none
  fields := #[]
  methods := #[]
  instanceTypes := #[]
  staticTypes := #[]
  resolved := #[]
  callSites := []
  init := .initialized
  statics := none
  mirror := none

def pool0 : Array CpInfo := pool [(5, u "<init>"), (0, u "()V"), (1, .class_ 10), (1, u "java/lang/Object"), (85, u "clone"), (0, u "()Ljava/lang/Object;")] 26

def k0c0 : Code := { maxStack := 0, maxLocals := 1, code := object_method_1_code, exceptionTable := #[], attributes := #[] }
def k0m0 : Method := { name := "<init>", desc := "()V", sig := { parameters := [], returnType := none }, accessFlags := 1, code := some k0c0 }
def k0m1 : Method := { name := "clone", desc := "()Ljava/lang/Object;", sig := { parameters := [], returnType := some (.object "java/lang/Object") }, accessFlags := 260, code := none }
/-- java/lang/Object -/
def k0 : Class := { plain "java/lang/Object" none with
  accessFlags := 33
  interfaces := #[]
  cf := some (fileOf pool0 8 #[] #[{ accessFlags := 1, nameIndex := 5, descriptorIndex := 6, attributes := #[] }, { accessFlags := 260, nameIndex := 96, descriptorIndex := 97, attributes := #[] }] 33 0 #[] #[])
  fields := #[]
  methods := #[k0m0, k0m1]
  instanceTypes := #[]
  staticTypes := #[]
  resolved := Array.replicate 124 none
  statics := none }

def pool1 : Array CpInfo := pool [(2, .class_ 4), (1, u "java/lang/Object"), (0, u "<init>"), (0, u "()V"), (0, .methodref 8 9), (0, .class_ 10), (0, .nameAndType 11 12), (0, u "com/example/pagemark/pagemark/statements/OperatorOfSymbolPinLaw"), (0, u "pick"), (0, u "(I)C"), (0, .class_ 14), (0, u "java/lang/String"), (0, .methodref 13 16), (0, .nameAndType 5 17), (0, u "([C)V"), (0, .fieldref 19 20), (0, .class_ 21), (0, .nameAndType 22 23), (0, u "com/example/pagemark/pagemark/statements/Restriction$Operator"), (0, u "EQUAL"), (0, u "Lcom/example/pagemark/pagemark/statements/Restriction$Operator;"), (0, .fieldref 19 25), (0, .nameAndType 26 23), (0, u "LESS"), (0, .fieldref 19 28), (0, .nameAndType 29 23), (0, u "GREATER"), (0, .fieldref 19 31), (0, .nameAndType 32 23), (0, u "LESS_OR_EQUAL"), (0, .fieldref 19 34), (0, .nameAndType 35 23), (0, u "GREATER_OR_EQUAL"), (0, .fieldref 19 37), (0, .nameAndType 38 23), (0, u "IN"), (0, .methodref 19 40), (0, .nameAndType 41 42), (0, u "ofSymbol"), (0, u "(Ljava/lang/String;)Lcom/example/pagemark/pagemark/statements/Restriction$Operator;"), (3, u "law"), (0, u "(IIII)Z")] 8

def k1m0 : Method := { name := "<init>", desc := "()V", sig := { parameters := [], returnType := none }, accessFlags := 2, code := none }
def k1c1 : Code := { maxStack := 2, maxLocals := 2, code := method_2_code, exceptionTable := #[], attributes := #[] }
def k1m1 : Method := { name := "pick", desc := "(I)C", sig := { parameters := [.int], returnType := some .char }, accessFlags := 10, code := some k1c1 }
def k1c2 : Code := { maxStack := 4, maxLocals := 15, code := code, exceptionTable := #[], attributes := #[] }
def k1m2 : Method := { name := "law", desc := "(IIII)Z", sig := { parameters := [.int, .int, .int, .int], returnType := some .boolean }, accessFlags := 9, code := some k1c2 }
/-- com/example/pagemark/pagemark/statements/OperatorOfSymbolPinLaw -/
def k1 : Class := { plain "com/example/pagemark/pagemark/statements/OperatorOfSymbolPinLaw" (some 0) with
  accessFlags := 49
  interfaces := #[]
  cf := some (fileOf pool1 8 #[] #[{ accessFlags := 2, nameIndex := 5, descriptorIndex := 6, attributes := #[] }, { accessFlags := 10, nameIndex := 11, descriptorIndex := 12, attributes := #[] }, { accessFlags := 9, nameIndex := 46, descriptorIndex := 47, attributes := #[] }] 49 2 #[] #[])
  fields := #[]
  methods := #[k1m0, k1m1, k1m2]
  instanceTypes := #[]
  staticTypes := #[]
  resolved := Array.replicate 56 none
  statics := none }

def pool2 : Array CpInfo := pool [(1, .class_ 2), (0, u "java/io/Serializable"), (0, .class_ 4), (0, u "java/lang/Object")] 2

/-- java/io/Serializable -/
def k2 : Class := { plain "java/io/Serializable" (some 0) with
  accessFlags := 1537
  interfaces := #[]
  cf := some (fileOf pool2 1 #[] #[] 1537 3 #[] #[])
  fields := #[]
  methods := #[]
  instanceTypes := #[]
  staticTypes := #[]
  resolved := Array.replicate 7 none
  statics := none }

def pool3 : Array CpInfo := pool [(1, .class_ 2), (0, u "java/lang/Comparable"), (0, .class_ 4), (0, u "java/lang/Object")] 7

/-- java/lang/Comparable -/
def k3 : Class := { plain "java/lang/Comparable" (some 0) with
  accessFlags := 1537
  interfaces := #[]
  cf := some (fileOf pool3 1 #[] #[] 1537 3 #[] #[])
  fields := #[]
  methods := #[]
  instanceTypes := #[]
  staticTypes := #[]
  resolved := Array.replicate 12 none
  statics := none }

def pool4 : Array CpInfo := pool [(2, .class_ 4), (1, u "java/lang/CharSequence"), (42, .class_ 48), (0, u "java/lang/CharSequence$1CodePointIterator"), (10, .class_ 60), (0, u "java/lang/CharSequence$1CharIterator"), (5, .class_ 67), (0, u "java/lang/Object")] 63

/-- java/lang/CharSequence -/
def k4 : Class := { plain "java/lang/CharSequence" (some 0) with
  accessFlags := 1537
  interfaces := #[]
  cf := some (fileOf pool4 2 #[.nestMembers #[47, 59]] #[] 1537 66 #[] #[])
  fields := #[]
  methods := #[]
  instanceTypes := #[]
  staticTypes := #[]
  resolved := Array.replicate 131 none
  statics := none }

def pool5 : Array CpInfo := pool [(1, .class_ 2), (0, u "java/lang/constant/Constable"), (0, .class_ 4), (0, u "java/lang/Object")] 6

/-- java/lang/constant/Constable -/
def k5 : Class := { plain "java/lang/constant/Constable" (some 0) with
  accessFlags := 1537
  interfaces := #[]
  cf := some (fileOf pool5 1 #[] #[] 1537 3 #[] #[])
  fields := #[]
  methods := #[]
  instanceTypes := #[]
  staticTypes := #[]
  resolved := Array.replicate 11 none
  statics := none }

def pool6 : Array CpInfo := pool [(1, .class_ 2), (0, u "java/lang/constant/ConstantDesc"), (0, .class_ 4), (0, u "java/lang/Object")] 32

/-- java/lang/constant/ConstantDesc -/
def k6 : Class := { plain "java/lang/constant/ConstantDesc" (some 0) with
  accessFlags := 1537
  interfaces := #[]
  cf := some (fileOf pool6 1 #[] #[] 1537 3 #[] #[])
  fields := #[]
  methods := #[]
  instanceTypes := #[]
  staticTypes := #[]
  resolved := Array.replicate 37 none
  statics := none }

def pool7 : Array CpInfo := pool [(1, .methodref 2 3), (0, .class_ 4), (0, .nameAndType 5 6), (0, u "java/lang/Object"), (0, u "<init>"), (0, u "()V"), (0, .string 8), (0, u ""), (0, .fieldref 10 11), (0, .class_ 12), (0, .nameAndType 13 14), (0, u "java/lang/String"), (0, u "value"), (0, u "[B"), (0, .fieldref 10 16), (0, .nameAndType 17 18), (0, u "coder"), (0, u "B"), (2, u "hash"), (0, u "I"), (2, u "hashIsZero"), (0, u "Z"), (0, .methodref 10 28), (0, .nameAndType 5 29), (0, u "([CIILjava/lang/Void;)V"), (8, .fieldref 10 39), (0, .nameAndType 40 26), (0, u "COMPACT_STRINGS"), (1, .class_ 44), (1, u "java/lang/StringUTF16"), (0, u "compress"), (1, .methodref 42 48), (0, .nameAndType 49 50), (0, u "coderFromArrayLen"), (0, u "([BI)B"), (56, .class_ 109), (1, u "java/lang/StringLatin1"), (67, .methodref 42 178), (0, .nameAndType 45 179), (0, u "([CII)[B"), (361, .methodref 107 542), (0, .nameAndType 543 544), (0, u "equals"), (0, u "([B[B)Z"), (28, u "(Ljava/lang/Object;)Z"), (1, .class_ 576), (0, u "java/lang/CharSequence"), (22, u "CASE_INSENSITIVE_ORDER"), (0, u "Ljava/util/Comparator;"), (409, u "([C)V"), (90, u "serialPersistentFields"), (0, u "[Ljava/io/ObjectStreamField;"), (0, .class_ 1104), (0, u "java/lang/String$CaseInsensitiveComparator"), (1, .class_ 1107), (0, u "java/io/Serializable"), (0, .class_ 1109), (0, u "java/lang/Comparable"), (0, .class_ 1111), (0, u "java/lang/constant/Constable"), (0, .class_ 1113), (0, u "java/lang/constant/ConstantDesc"), (2, u "serialVersionUID"), (0, u "J"), (3, u "REPL"), (0, u "C"), (2, u "LATIN1"), (1, u "UTF16")] 323

def k7m0 : Method := { name := "<init>", desc := "()V", sig := { parameters := [], returnType := none }, accessFlags := 1, code := none }
def k7c1 : Code := { maxStack := 5, maxLocals := 2, code := jdk_42_method_3_code, exceptionTable := #[], attributes := #[] }
def k7m1 : Method := { name := "<init>", desc := "([C)V", sig := { parameters := [(.array .char)], returnType := none }, accessFlags := 1, code := some k7c1 }
def k7c2 : Code := { maxStack := 2, maxLocals := 3, code := jdk_42_method_66_code, exceptionTable := #[], attributes := #[] }
def k7m2 : Method := { name := "equals", desc := "(Ljava/lang/Object;)Z", sig := { parameters := [(.object "java/lang/Object")], returnType := some .boolean }, accessFlags := 1, code := some k7c2 }
def k7c3 : Code := { maxStack := 4, maxLocals := 6, code := jdk_42_method_149_code, exceptionTable := #[], attributes := #[] }
def k7m3 : Method := { name := "<init>", desc := "([CIILjava/lang/Void;)V", sig := { parameters := [(.array .char), .int, .int, (.object "java/lang/Void")], returnType := none }, accessFlags := 2, code := some k7c3 }
/-- java/lang/String -/
def k7 : Class := { plain "java/lang/String" (some 0) with
  accessFlags := 49
  interfaces := #[2, 3, 4, 5, 6]
  cf := some (fileOf pool7 10 #[.nestMembers #[1103]] #[{ accessFlags := 1, nameIndex := 5, descriptorIndex := 6, attributes := #[] }, { accessFlags := 1, nameIndex := 5, descriptorIndex := 1010, attributes := #[] }, { accessFlags := 1, nameIndex := 543, descriptorIndex := 573, attributes := #[] }, { accessFlags := 2, nameIndex := 5, descriptorIndex := 29, attributes := #[] }] 49 2 #[1106, 1108, 575, 1110, 1112] #[{ accessFlags := 18, nameIndex := 13, descriptorIndex := 14, attributes := #[] }, { accessFlags := 18, nameIndex := 17, descriptorIndex := 18, attributes := #[] }, { accessFlags := 2, nameIndex := 21, descriptorIndex := 22, attributes := #[] }, { accessFlags := 2, nameIndex := 25, descriptorIndex := 26, attributes := #[] }, { accessFlags := 26, nameIndex := 1116, descriptorIndex := 1117, attributes := #[] }, { accessFlags := 24, nameIndex := 40, descriptorIndex := 26, attributes := #[] }, { accessFlags := 26, nameIndex := 1101, descriptorIndex := 1102, attributes := #[] }, { accessFlags := 26, nameIndex := 1121, descriptorIndex := 1122, attributes := #[] }, { accessFlags := 25, nameIndex := 599, descriptorIndex := 600, attributes := #[] }, { accessFlags := 24, nameIndex := 1125, descriptorIndex := 18, attributes := #[] }, { accessFlags := 24, nameIndex := 1127, descriptorIndex := 18, attributes := #[] }])
  fields := #[{ name := "value", type := (.array .byte), accessFlags := 18, slot := 0, constantValue := 0 }, { name := "coder", type := .byte, accessFlags := 18, slot := 1, constantValue := 0 }, { name := "hash", type := .int, accessFlags := 2, slot := 2, constantValue := 0 }, { name := "hashIsZero", type := .boolean, accessFlags := 2, slot := 3, constantValue := 0 }, { name := "serialVersionUID", type := .long, accessFlags := 26, slot := 0, constantValue := 0 }, { name := "COMPACT_STRINGS", type := .boolean, accessFlags := 24, slot := 1, constantValue := 0 }, { name := "serialPersistentFields", type := (.array (.object "java/io/ObjectStreamField")), accessFlags := 26, slot := 2, constantValue := 0 }, { name := "REPL", type := .char, accessFlags := 26, slot := 3, constantValue := 0 }, { name := "CASE_INSENSITIVE_ORDER", type := (.object "java/util/Comparator"), accessFlags := 25, slot := 4, constantValue := 0 }, { name := "LATIN1", type := .byte, accessFlags := 24, slot := 5, constantValue := 0 }, { name := "UTF16", type := .byte, accessFlags := 24, slot := 6, constantValue := 0 }]
  methods := #[k7m0, k7m1, k7m2, k7m3]
  instanceTypes := #[(.array .byte), .byte, .int, .boolean]
  staticTypes := #[.long, .boolean, (.array (.object "java/io/ObjectStreamField")), .char, (.object "java/util/Comparator"), .byte, .byte]
  resolved := Array.replicate 1451 none
  statics := some 0 }

def pool8 : Array CpInfo := pool [(2, .class_ 4), (1, u "java/lang/Enum"), (0, u "name"), (0, u "Ljava/lang/String;"), (2, u "ordinal"), (0, u "I"), (1, .class_ 14), (1, u "java/lang/Object"), (4, u "hash"), (86, .class_ 108), (1, u "java/lang/Enum$EnumDesc"), (2, .class_ 112), (0, u "java/lang/constant/Constable"), (0, .class_ 114), (0, u "java/lang/Comparable"), (0, .class_ 116), (0, u "java/io/Serializable")] 87

/-- java/lang/Enum -/
def k8 : Class := { plain "java/lang/Enum" (some 0) with
  accessFlags := 1057
  interfaces := #[5, 3, 2]
  cf := some (fileOf pool8 2 #[.nestMembers #[106]] #[] 1057 12 #[111, 113, 115] #[{ accessFlags := 18, nameIndex := 5, descriptorIndex := 6, attributes := #[] }, { accessFlags := 18, nameIndex := 9, descriptorIndex := 10, attributes := #[] }, { accessFlags := 2, nameIndex := 19, descriptorIndex := 10, attributes := #[] }])
  fields := #[{ name := "name", type := (.object "java/lang/String"), accessFlags := 18, slot := 0, constantValue := 0 }, { name := "ordinal", type := .int, accessFlags := 18, slot := 1, constantValue := 0 }, { name := "hash", type := .int, accessFlags := 2, slot := 2, constantValue := 0 }]
  methods := #[]
  instanceTypes := #[(.object "java/lang/String"), .int, .int]
  staticTypes := #[]
  resolved := Array.replicate 204 none
  statics := none }

def pool9 : Array CpInfo := pool [(1, .class_ 2), (0, u "com/example/pagemark/pagemark/statements/Restriction$Operator"), (2, u "EQUAL"), (0, u "Lcom/example/pagemark/pagemark/statements/Restriction$Operator;"), (2, u "LESS"), (2, u "LESS_OR_EQUAL"), (2, u "GREATER"), (2, u "GREATER_OR_EQUAL"), (2, u "IN"), (0, .fieldref 1 23), (0, .nameAndType 24 25), (0, u "$VALUES"), (0, u "[Lcom/example/pagemark/pagemark/statements/Restriction$Operator;"), (0, .methodref 27 28), (0, .class_ 25), (0, .nameAndType 29 30), (0, u "clone"), (0, u "()Ljava/lang/Object;"), (1, .class_ 34), (1, u "java/lang/Enum"), (6, .fieldref 1 42), (0, .nameAndType 43 44), (0, u "text"), (0, u "Ljava/lang/String;"), (0, .methodref 1 46), (0, .nameAndType 47 48), (0, u "values"), (0, u "()[Lcom/example/pagemark/pagemark/statements/Restriction$Operator;"), (0, .methodref 50 51), (0, .class_ 52), (0, .nameAndType 53 54), (0, u "java/lang/String"), (0, u "equals"), (0, u "(Ljava/lang/Object;)Z"), (24, u "(Ljava/lang/String;)Lcom/example/pagemark/pagemark/statements/Restriction$Operator;"), (3, u "ofSymbol"), (7, .class_ 92), (0, u "com/example/pagemark/pagemark/statements/Restriction")] 2

def k9c0 : Code := { maxStack := 1, maxLocals := 0, code := prog_34_method_1_code, exceptionTable := #[], attributes := #[] }
def k9m0 : Method := { name := "values", desc := "()[Lcom/example/pagemark/pagemark/statements/Restriction$Operator;", sig := { parameters := [], returnType := some (.array (.object "com/example/pagemark/pagemark/statements/Restriction$Operator")) }, accessFlags := 9, code := some k9c0 }
def k9c1 : Code := { maxStack := 2, maxLocals := 5, code := prog_34_method_4_code, exceptionTable := #[], attributes := #[] }
def k9m1 : Method := { name := "ofSymbol", desc := "(Ljava/lang/String;)Lcom/example/pagemark/pagemark/statements/Restriction$Operator;", sig := { parameters := [(.object "java/lang/String")], returnType := some (.object "com/example/pagemark/pagemark/statements/Restriction$Operator") }, accessFlags := 8, code := some k9c1 }
/-- com/example/pagemark/pagemark/statements/Restriction$Operator -/
def k9 : Class := { plain "com/example/pagemark/pagemark/statements/Restriction$Operator" (some 8) with
  accessFlags := 16433
  interfaces := #[]
  cf := some (fileOf pool9 1 #[.nestHost 91] #[{ accessFlags := 9, nameIndex := 47, descriptorIndex := 48, attributes := #[] }, { accessFlags := 8, nameIndex := 83, descriptorIndex := 79, attributes := #[] }] 16433 32 #[] #[{ accessFlags := 16409, nameIndex := 5, descriptorIndex := 6, attributes := #[] }, { accessFlags := 16409, nameIndex := 9, descriptorIndex := 6, attributes := #[] }, { accessFlags := 16409, nameIndex := 12, descriptorIndex := 6, attributes := #[] }, { accessFlags := 16409, nameIndex := 15, descriptorIndex := 6, attributes := #[] }, { accessFlags := 16409, nameIndex := 18, descriptorIndex := 6, attributes := #[] }, { accessFlags := 16409, nameIndex := 21, descriptorIndex := 6, attributes := #[] }, { accessFlags := 18, nameIndex := 43, descriptorIndex := 44, attributes := #[] }, { accessFlags := 4122, nameIndex := 24, descriptorIndex := 25, attributes := #[] }])
  fields := #[{ name := "EQUAL", type := (.object "com/example/pagemark/pagemark/statements/Restriction$Operator"), accessFlags := 16409, slot := 0, constantValue := 0 }, { name := "LESS", type := (.object "com/example/pagemark/pagemark/statements/Restriction$Operator"), accessFlags := 16409, slot := 1, constantValue := 0 }, { name := "LESS_OR_EQUAL", type := (.object "com/example/pagemark/pagemark/statements/Restriction$Operator"), accessFlags := 16409, slot := 2, constantValue := 0 }, { name := "GREATER", type := (.object "com/example/pagemark/pagemark/statements/Restriction$Operator"), accessFlags := 16409, slot := 3, constantValue := 0 }, { name := "GREATER_OR_EQUAL", type := (.object "com/example/pagemark/pagemark/statements/Restriction$Operator"), accessFlags := 16409, slot := 4, constantValue := 0 }, { name := "IN", type := (.object "com/example/pagemark/pagemark/statements/Restriction$Operator"), accessFlags := 16409, slot := 5, constantValue := 0 }, { name := "text", type := (.object "java/lang/String"), accessFlags := 18, slot := 3, constantValue := 0 }, { name := "$VALUES", type := (.array (.object "com/example/pagemark/pagemark/statements/Restriction$Operator")), accessFlags := 4122, slot := 6, constantValue := 0 }]
  methods := #[k9m0, k9m1]
  instanceTypes := #[(.object "java/lang/String"), .int, .int, (.object "java/lang/String")]
  staticTypes := #[(.object "com/example/pagemark/pagemark/statements/Restriction$Operator"), (.object "com/example/pagemark/pagemark/statements/Restriction$Operator"), (.object "com/example/pagemark/pagemark/statements/Restriction$Operator"), (.object "com/example/pagemark/pagemark/statements/Restriction$Operator"), (.object "com/example/pagemark/pagemark/statements/Restriction$Operator"), (.object "com/example/pagemark/pagemark/statements/Restriction$Operator"), (.array (.object "com/example/pagemark/pagemark/statements/Restriction$Operator"))]
  resolved := Array.replicate 95 none
  statics := some 1 }

def pool10 : Array CpInfo := pool [(1, .class_ 2), (0, u "java/lang/Cloneable"), (0, .class_ 4), (0, u "java/lang/Object")] 2

/-- java/lang/Cloneable -/
def k10 : Class := { plain "java/lang/Cloneable" (some 0) with
  accessFlags := 1537
  interfaces := #[]
  cf := some (fileOf pool10 1 #[] #[] 1537 3 #[] #[])
  fields := #[]
  methods := #[]
  instanceTypes := #[]
  staticTypes := #[]
  resolved := Array.replicate 7 none
  statics := none }

def pool11 : Array CpInfo := pool [(4, .class_ 6), (1, u "java/lang/Object"), (0, u "<init>"), (0, u "()V"), (5, .class_ 16), (1, u "java/lang/StringLatin1"), (104, u "$assertionsDisabled"), (0, u "Z"), (98, .class_ 223), (1, u "java/lang/StringLatin1$LinesSpliterator"), (57, u "equals"), (0, u "([B[B)Z"), (107, .class_ 391), (0, u "java/lang/StringLatin1$CharsSpliterator")] 3

def k11m0 : Method := { name := "<init>", desc := "()V", sig := { parameters := [], returnType := none }, accessFlags := 0, code := none }
def k11c1 : Code := { maxStack := 3, maxLocals := 3, code := jdk_43_method_13_code, exceptionTable := #[], attributes := #[] }
def k11m1 : Method := { name := "equals", desc := "([B[B)Z", sig := { parameters := [(.array .byte), (.array .byte)], returnType := some .boolean }, accessFlags := 9, code := some k11c1 }
/-- java/lang/StringLatin1 -/
def k11 : Class := { plain "java/lang/StringLatin1" (some 0) with
  accessFlags := 48
  interfaces := #[]
  cf := some (fileOf pool11 14 #[.nestMembers #[390, 221]] #[{ accessFlags := 0, nameIndex := 7, descriptorIndex := 8, attributes := #[] }, { accessFlags := 9, nameIndex := 281, descriptorIndex := 282, attributes := #[] }] 48 4 #[] #[{ accessFlags := 4120, nameIndex := 121, descriptorIndex := 122, attributes := #[] }])
  fields := #[{ name := "$assertionsDisabled", type := .boolean, accessFlags := 4120, slot := 0, constantValue := 0 }]
  methods := #[k11m0, k11m1]
  instanceTypes := #[]
  staticTypes := #[.boolean]
  resolved := Array.replicate 395 none
  statics := none }

def pool12 : Array CpInfo := pool [(6, .class_ 8), (1, u "java/lang/Object"), (0, u "<init>"), (0, u "()V"), (1, .class_ 14), (1, u "java/lang/StringUTF16"), (31, u "$assertionsDisabled"), (0, u "Z"), (13, u "HI_BYTE_SHIFT"), (0, u "I"), (2, u "LO_BYTE_SHIFT"), (49, .methodref 12 116), (0, .nameAndType 117 118), (0, u "compress"), (0, u "([CI[BII)I"), (3, u "([CII)[B"), (138, u "coderFromArrayLen"), (0, u "([BI)B"), (106, .class_ 371), (1, u "java/lang/StringUTF16$LinesSpliterator"), (58, u "MAX_LENGTH"), (196, .class_ 628), (0, u "java/lang/StringUTF16$CodePointsSpliterator"), (0, .class_ 630), (0, u "java/lang/StringUTF16$CharsSpliterator")] 4

def k12m0 : Method := { name := "<init>", desc := "()V", sig := { parameters := [], returnType := none }, accessFlags := 0, code := none }
def k12c1 : Code := { maxStack := 2, maxLocals := 2, code := jdk_52_method_15_code, exceptionTable := #[], attributes := #[] }
def k12m1 : Method := { name := "coderFromArrayLen", desc := "([BI)B", sig := { parameters := [(.array .byte), .int], returnType := some .byte }, accessFlags := 8, code := some k12c1 }
def k12c2 : Code := { maxStack := 5, maxLocals := 6, code := jdk_52_method_16_code, exceptionTable := #[], attributes := #[] }
def k12m2 : Method := { name := "compress", desc := "([CII)[B", sig := { parameters := [(.array .char), .int, .int], returnType := some (.array .byte) }, accessFlags := 9, code := some k12c2 }
def k12c3 : Code := { maxStack := 3, maxLocals := 7, code := jdk_52_method_21_code, exceptionTable := #[], attributes := #[] }
def k12m3 : Method := { name := "compress", desc := "([CI[BII)I", sig := { parameters := [(.array .char), .int, (.array .byte), .int, .int], returnType := some .int }, accessFlags := 9, code := some k12c3 }
/-- java/lang/StringUTF16 -/
def k12 : Class := { plain "java/lang/StringUTF16" (some 0) with
  accessFlags := 48
  interfaces := #[]
  cf := some (fileOf pool12 12 #[.nestMembers #[627, 629, 369]] #[{ accessFlags := 0, nameIndex := 9, descriptorIndex := 10, attributes := #[] }, { accessFlags := 8, nameIndex := 261, descriptorIndex := 262, attributes := #[] }, { accessFlags := 9, nameIndex := 117, descriptorIndex := 122, attributes := #[] }, { accessFlags := 9, nameIndex := 117, descriptorIndex := 118, attributes := #[] }] 48 6 #[] #[{ accessFlags := 26, nameIndex := 61, descriptorIndex := 62, attributes := #[] }, { accessFlags := 26, nameIndex := 65, descriptorIndex := 62, attributes := #[] }, { accessFlags := 24, nameIndex := 430, descriptorIndex := 62, attributes := #[] }, { accessFlags := 4120, nameIndex := 46, descriptorIndex := 47, attributes := #[] }])
  fields := #[{ name := "HI_BYTE_SHIFT", type := .int, accessFlags := 26, slot := 0, constantValue := 0 }, { name := "LO_BYTE_SHIFT", type := .int, accessFlags := 26, slot := 1, constantValue := 0 }, { name := "MAX_LENGTH", type := .int, accessFlags := 24, slot := 2, constantValue := 0 }, { name := "$assertionsDisabled", type := .boolean, accessFlags := 4120, slot := 3, constantValue := 0 }]
  methods := #[k12m0, k12m1, k12m2, k12m3]
  instanceTypes := #[]
  staticTypes := #[.int, .int, .int, .boolean]
  resolved := Array.replicate 635 none
  statics := none }

def pool13 : Array CpInfo := pool [(2, .class_ 4), (1, u "java/lang/Object"), (0, u "<init>"), (0, u "()V"), (17, .class_ 26), (1, u "jdk/internal/util/Preconditions"), (28, .class_ 56), (0, u "jdk/internal/util/Preconditions$4"), (57, .class_ 115), (0, u "jdk/internal/util/Preconditions$1"), (7, u "SIOOBE_FORMATTER"), (0, u "Ljava/util/function/BiFunction;"), (0, .class_ 126), (0, u "jdk/internal/util/Preconditions$2"), (3, u "AIOOBE_FORMATTER"), (0, .class_ 132), (0, u "jdk/internal/util/Preconditions$3"), (3, u "IOOBE_FORMATTER")] 57

def k13m0 : Method := { name := "<init>", desc := "()V", sig := { parameters := [], returnType := none }, accessFlags := 1, code := none }
/-- jdk/internal/util/Preconditions -/
def k13 : Class := { plain "jdk/internal/util/Preconditions" (some 0) with
  accessFlags := 33
  interfaces := #[]
  cf := some (fileOf pool13 24 #[.nestMembers #[55, 131, 125, 114]] #[{ accessFlags := 1, nameIndex := 5, descriptorIndex := 6, attributes := #[] }] 33 2 #[] #[{ accessFlags := 25, nameIndex := 123, descriptorIndex := 124, attributes := #[] }, { accessFlags := 25, nameIndex := 130, descriptorIndex := 124, attributes := #[] }, { accessFlags := 25, nameIndex := 136, descriptorIndex := 124, attributes := #[] }])
  fields := #[{ name := "SIOOBE_FORMATTER", type := (.object "java/util/function/BiFunction"), accessFlags := 25, slot := 0, constantValue := 0 }, { name := "AIOOBE_FORMATTER", type := (.object "java/util/function/BiFunction"), accessFlags := 25, slot := 1, constantValue := 0 }, { name := "IOOBE_FORMATTER", type := (.object "java/util/function/BiFunction"), accessFlags := 25, slot := 2, constantValue := 0 }]
  methods := #[k13m0]
  instanceTypes := #[]
  staticTypes := #[(.object "java/util/function/BiFunction"), (.object "java/util/function/BiFunction"), (.object "java/util/function/BiFunction")]
  resolved := Array.replicate 194 none
  statics := some 2 }

def pool14 : Array CpInfo := pool [(9, u "<init>"), (6, .class_ 18), (1, u "java/lang/Object"), (0, u "()V"), (1, .class_ 23), (1, u "jdk/internal/util/ArraysSupport"), (0, u "LOG2_ARRAY_LONG_INDEX_SCALE"), (0, u "I"), (2, u "U"), (0, u "Ljdk/internal/misc/Unsafe;"), (8, u "BIG_ENDIAN"), (0, u "Z"), (8, u "LOG2_BYTE_BIT_SIZE"), (4, u "LOG2_ARRAY_INT_INDEX_SCALE"), (54, u "JLA"), (0, u "Ljdk/internal/access/JavaLangAccess;"), (11, u "LOG2_ARRAY_BOOLEAN_INDEX_SCALE"), (9, u "LOG2_ARRAY_BYTE_INDEX_SCALE"), (5, u "LOG2_ARRAY_CHAR_INDEX_SCALE"), (5, u "LOG2_ARRAY_SHORT_INDEX_SCALE"), (18, u "LOG2_ARRAY_FLOAT_INDEX_SCALE"), (24, u "LOG2_ARRAY_DOUBLE_INDEX_SCALE"), (89, u "T_BOOLEAN"), (2, u "T_CHAR"), (1, u "T_FLOAT"), (1, u "T_DOUBLE"), (1, u "T_BYTE"), (1, u "T_SHORT"), (1, u "T_INT"), (1, u "T_LONG"), (1, u "SOFT_MAX_ARRAY_LENGTH")] 83

def k14m0 : Method := { name := "<init>", desc := "()V", sig := { parameters := [], returnType := none }, accessFlags := 2, code := none }
/-- jdk/internal/util/ArraysSupport -/
def k14 : Class := { plain "jdk/internal/util/ArraysSupport" (some 0) with
  accessFlags := 33
  interfaces := #[]
  cf := some (fileOf pool14 21 #[] #[{ accessFlags := 2, nameIndex := 9, descriptorIndex := 19, attributes := #[] }] 33 16 #[] #[{ accessFlags := 24, nameIndex := 28, descriptorIndex := 29, attributes := #[] }, { accessFlags := 26, nameIndex := 38, descriptorIndex := 39, attributes := #[] }, { accessFlags := 25, nameIndex := 121, descriptorIndex := 25, attributes := #[] }, { accessFlags := 25, nameIndex := 131, descriptorIndex := 25, attributes := #[] }, { accessFlags := 25, nameIndex := 137, descriptorIndex := 25, attributes := #[] }, { accessFlags := 25, nameIndex := 143, descriptorIndex := 25, attributes := #[] }, { accessFlags := 25, nameIndex := 53, descriptorIndex := 25, attributes := #[] }, { accessFlags := 25, nameIndex := 24, descriptorIndex := 25, attributes := #[] }, { accessFlags := 25, nameIndex := 162, descriptorIndex := 25, attributes := #[] }, { accessFlags := 25, nameIndex := 187, descriptorIndex := 25, attributes := #[] }, { accessFlags := 26, nameIndex := 48, descriptorIndex := 25, attributes := #[] }, { accessFlags := 25, nameIndex := 277, descriptorIndex := 25, attributes := #[] }, { accessFlags := 25, nameIndex := 280, descriptorIndex := 25, attributes := #[] }, { accessFlags := 25, nameIndex := 282, descriptorIndex := 25, attributes := #[] }, { accessFlags := 25, nameIndex := 284, descriptorIndex := 25, attributes := #[] }, { accessFlags := 25, nameIndex := 286, descriptorIndex := 25, attributes := #[] }, { accessFlags := 25, nameIndex := 288, descriptorIndex := 25, attributes := #[] }, { accessFlags := 25, nameIndex := 290, descriptorIndex := 25, attributes := #[] }, { accessFlags := 25, nameIndex := 292, descriptorIndex := 25, attributes := #[] }, { accessFlags := 26, nameIndex := 108, descriptorIndex := 109, attributes := #[] }, { accessFlags := 25, nameIndex := 294, descriptorIndex := 25, attributes := #[] }])
  fields := #[{ name := "U", type := (.object "jdk/internal/misc/Unsafe"), accessFlags := 24, slot := 0, constantValue := 0 }, { name := "BIG_ENDIAN", type := .boolean, accessFlags := 26, slot := 1, constantValue := 0 }, { name := "LOG2_ARRAY_BOOLEAN_INDEX_SCALE", type := .int, accessFlags := 25, slot := 2, constantValue := 0 }, { name := "LOG2_ARRAY_BYTE_INDEX_SCALE", type := .int, accessFlags := 25, slot := 3, constantValue := 0 }, { name := "LOG2_ARRAY_CHAR_INDEX_SCALE", type := .int, accessFlags := 25, slot := 4, constantValue := 0 }, { name := "LOG2_ARRAY_SHORT_INDEX_SCALE", type := .int, accessFlags := 25, slot := 5, constantValue := 0 }, { name := "LOG2_ARRAY_INT_INDEX_SCALE", type := .int, accessFlags := 25, slot := 6, constantValue := 0 }, { name := "LOG2_ARRAY_LONG_INDEX_SCALE", type := .int, accessFlags := 25, slot := 7, constantValue := 0 }, { name := "LOG2_ARRAY_FLOAT_INDEX_SCALE", type := .int, accessFlags := 25, slot := 8, constantValue := 0 }, { name := "LOG2_ARRAY_DOUBLE_INDEX_SCALE", type := .int, accessFlags := 25, slot := 9, constantValue := 0 }, { name := "LOG2_BYTE_BIT_SIZE", type := .int, accessFlags := 26, slot := 10, constantValue := 0 }, { name := "T_BOOLEAN", type := .int, accessFlags := 25, slot := 11, constantValue := 0 }, { name := "T_CHAR", type := .int, accessFlags := 25, slot := 12, constantValue := 0 }, { name := "T_FLOAT", type := .int, accessFlags := 25, slot := 13, constantValue := 0 }, { name := "T_DOUBLE", type := .int, accessFlags := 25, slot := 14, constantValue := 0 }, { name := "T_BYTE", type := .int, accessFlags := 25, slot := 15, constantValue := 0 }, { name := "T_SHORT", type := .int, accessFlags := 25, slot := 16, constantValue := 0 }, { name := "T_INT", type := .int, accessFlags := 25, slot := 17, constantValue := 0 }, { name := "T_LONG", type := .int, accessFlags := 25, slot := 18, constantValue := 0 }, { name := "JLA", type := (.object "jdk/internal/access/JavaLangAccess"), accessFlags := 26, slot := 19, constantValue := 0 }, { name := "SOFT_MAX_ARRAY_LENGTH", type := .int, accessFlags := 25, slot := 20, constantValue := 0 }]
  methods := #[k14m0]
  instanceTypes := #[]
  staticTypes := #[(.object "jdk/internal/misc/Unsafe"), .boolean, .int, .int, .int, .int, .int, .int, .int, .int, .int, .int, .int, .int, .int, .int, .int, .int, .int, (.object "jdk/internal/access/JavaLangAccess"), .int]
  resolved := Array.replicate 378 none
  statics := none }

/-- the primitive byte -/
def k15 : Class := { plain "byte" none with kind := .primitive 'B', accessFlags := 0x411 }
/-- [B -/
def k16 : Class := { plain "[B" (some 0) with kind := .array 15 .byte, interfaces := #[10, 2], accessFlags := 1041 }

/-- the primitive char -/
def k17 : Class := { plain "char" none with kind := .primitive 'C', accessFlags := 0x411 }
/-- [C -/
def k18 : Class := { plain "[C" (some 0) with kind := .array 17 .char, interfaces := #[10, 2], accessFlags := 1041 }

/-- the primitive int -/
def k19 : Class := { plain "int" none with kind := .primitive 'I', accessFlags := 0x411 }
/-- [I -/
def k20 : Class := { plain "[I" (some 0) with kind := .array 19 .int, interfaces := #[10, 2], accessFlags := 1041 }

/-- [Lcom/example/pagemark/pagemark/statements/Restriction$Operator; -/
def k21 : Class := { plain "[Lcom/example/pagemark/pagemark/statements/Restriction$Operator;" (some 0) with kind := .array 9 (.object "com/example/pagemark/pagemark/statements/Restriction$Operator"), interfaces := #[10, 2], accessFlags := 1041 }

def heap : Heap := #[{ cls := 7, slots := #[.long 0, .int 1, .null, .int 0, .null, .int 0, .int 0], vm := .statics 7 },
  { cls := 9, slots := #[.ref 4, .ref 5, .ref 6, .ref 7, .ref 8, .ref 9, .ref 3], vm := .statics 9 },
  { cls := 13, slots := #[.null, .null, .null], vm := .statics 13 },
  { cls := 21, slots := #[.ref 4, .ref 5, .ref 6, .ref 7, .ref 8, .ref 9], vm := .none },
  { cls := 9, slots := #[.null, .int 0, .int 0, .ref 10], vm := .none },
  { cls := 9, slots := #[.null, .int 0, .int 0, .ref 11], vm := .none },
  { cls := 9, slots := #[.null, .int 0, .int 0, .ref 12], vm := .none },
  { cls := 9, slots := #[.null, .int 0, .int 0, .ref 13], vm := .none },
  { cls := 9, slots := #[.null, .int 0, .int 0, .ref 14], vm := .none },
  { cls := 9, slots := #[.null, .int 0, .int 0, .ref 15], vm := .none },
  { cls := 7, slots := #[.ref 16, .int 0, .int 0, .int 0], vm := .none },
  { cls := 7, slots := #[.ref 17, .int 0, .int 0, .int 0], vm := .none },
  { cls := 7, slots := #[.ref 18, .int 0, .int 0, .int 0], vm := .none },
  { cls := 7, slots := #[.ref 19, .int 0, .int 0, .int 0], vm := .none },
  { cls := 7, slots := #[.ref 20, .int 0, .int 0, .int 0], vm := .none },
  { cls := 7, slots := #[.ref 21, .int 0, .int 0, .int 0], vm := .none },
  { cls := 16, slots := #[.int 61], vm := .none },
  { cls := 16, slots := #[.int 60], vm := .none },
  { cls := 16, slots := #[.int 60, .int 61], vm := .none },
  { cls := 16, slots := #[.int 62], vm := .none },
  { cls := 16, slots := #[.int 62, .int 61], vm := .none },
  { cls := 16, slots := #[.int 73, .int 78], vm := .none }]
def classes : Array Class := #[k0, k1, k2, k3, k4, k5, k6, k7, k8, k9, k10, k11, k12, k13, k14, k15, k16, k17, k18, k19, k20, k21]
def interned : List (Array UInt16 × Addr) := []
def slotsUsed : Nat := 80
def theMethod : MethodId := ⟨1, 2⟩
def args0 : Array Value := #[.int 1, .int 0, .int 1, .int 2]
def aboutOver (below : List Frame) : State where
  vm := { classes := classes, interned := interned.toArray }
  heap := heap
  slotsUsed := slotsUsed
  threads := #[{ frames := .invoking theMethod args0 :: below }]
def below0 : List Frame := [.native { method := ⟨0, 0⟩, args := #[] }]
def about1 : State := aboutOver below0
def p0 : Program := .bare "" "" ""
def e0 : Env := launch0.env 0 0 0
theorem w_frames : about1.frames = Frame.invoking theMethod args0 :: below0 := rfl
set_option maxRecDepth 65536 in
theorem w_args : argsFit about1.vm theMethod args0 = true := by decide +kernel
set_option maxRecDepth 65536 in
theorem w_heap : heapFits about1 = true := by decide +kernel
set_option maxRecDepth 65536 in
theorem w_runnable : about1.curStatus? = some .runnable := by decide +kernel
set_option maxRecDepth 65536 in
theorem w_alone : about1.alone = true := by decide +kernel
set_option maxRecDepth 65536 in
theorem w_named : about1.methodNamed? x = some theMethod := by decide +kernel
set_option maxRecDepth 65536 in
theorem w_hears : about1.hears theMethod below0 = true := by decide +kernel
set_option maxRecDepth 65536 in
theorem w_ripe : about1.ripe theMethod args0 below0 = true := by decide +kernel
theorem w_running : about1.status = .running := rfl
set_option maxRecDepth 65536 in
theorem w_room : about1.hasRoom e0.platform room_1 = true :=
  launch0.hasRoom_least _ room_1 (by decide +kernel) (by decide +kernel) (by decide +kernel) (by decide +kernel) (by decide +kernel) (by decide +kernel)
theorem allAtoms_all (ts : List Jvm.Cond) (a : Array Jvm.Value) (st : Jvm.State) : (allAtoms ts).before a st = ts.all (fun c => c.before a st) := by
  induction ts with
  | nil => rfl
  | cons c t ih =>
    show (Jvm.Cond.and c (allAtoms t)).before a st = _
    rw [Jvm.Cond.before_and, ih, List.all_cons]
def words1 : List Jvm.Cond := Jvm.Cond.code x code maxLocals ret :: tables_1
/-- a 'code' word, met by the world's own term for the bytes: nothing is compared byte by byte -/
theorem code_word {y : MethodName} {bytes : ByteArray} {mx : Nat} {rt : Option FieldType} {a : Array Value} {s : State} {m : MethodId} {meth : Method} {c : Code} (h1 : s.methodNamed? y = some m) (h2 : s.vm.method? m = some meth) (h3 : meth.code = some c) (h4 : c.code = bytes)
    (h5 : (c.maxLocals == mx && c.exceptionTable.isEmpty && decide (c.maxStack ≤ mostOperands) && decide (meth.sig.returnType = rt) && !meth.locks && decide (parseMethodDescriptor y.desc = some meth.sig)) = true) : (Jvm.Cond.code y bytes mx rt).before a s = true := by
  simp only [Bool.and_eq_true, beq_iff_eq, Bool.not_eq_true', decide_eq_true_eq] at h5
  obtain ⟨⟨⟨⟨⟨g1, g2⟩, g3⟩, g4⟩, g5⟩, g6⟩ := h5
  simp [Cond.before, Cond.holds, Cond.value, h1, h2, h3, h4, g1, g2, g3, g4, g5, g6]
def isCode : Jvm.Cond → Bool
  | .code _ _ _ _ => true
  | _ => false
theorem all_split {L : List Jvm.Cond} {P : Jvm.Cond → Bool} (h1 : L.all (fun c => isCode c || P c) = true) (h2 : ∀ c ∈ L.filter isCode, P c = true) : L.all P = true := by
  refine List.all_eq_true.mpr fun c hc => ?_
  have h := List.all_eq_true.mp h1 c hc
  rcases Bool.eq_false_or_eq_true (isCode c) with hi | hi
  · exact h2 c (List.mem_filter.mpr ⟨hc, hi⟩)
  · simpa [hi] using h
set_option maxRecDepth 65536 in
theorem w_c0 : (Jvm.Cond.code x code maxLocals ret).before args0 about1 = true := code_word (m := ⟨1, 2⟩) (meth := k1m2) (c := k1c2) (by decide +kernel) rfl rfl rfl (by decide +kernel)
set_option maxRecDepth 65536 in
theorem w_c1 : (Jvm.Cond.code ({ cls := "com/example/pagemark/pagemark/statements/OperatorOfSymbolPinLaw", name := "pick", desc := "(I)C" } : Jvm.MethodName) method_2_code (2 : Nat) (Option.some Jvm.ClassFile.FieldType.char)).before args0 about1 = true := code_word (m := ⟨1, 1⟩) (meth := k1m1) (c := k1c1) (by decide +kernel) rfl rfl rfl (by decide +kernel)
set_option maxRecDepth 65536 in
theorem w_c2 : (Jvm.Cond.code ({ cls := "java/lang/String", name := "<init>", desc := "([C)V" } : Jvm.MethodName) jdk_42_method_3_code (2 : Nat) (Option.none : Option Jvm.ClassFile.FieldType)).before args0 about1 = true := code_word (m := ⟨7, 1⟩) (meth := k7m1) (c := k7c1) (by decide +kernel) rfl rfl rfl (by decide +kernel)
set_option maxRecDepth 65536 in
theorem w_c3 : (Jvm.Cond.code ({ cls := "java/lang/String", name := "<init>", desc := "([CIILjava/lang/Void;)V" } : Jvm.MethodName) jdk_42_method_149_code (6 : Nat) (Option.none : Option Jvm.ClassFile.FieldType)).before args0 about1 = true := code_word (m := ⟨7, 3⟩) (meth := k7m3) (c := k7c3) (by decide +kernel) rfl rfl rfl (by decide +kernel)
set_option maxRecDepth 65536 in
theorem w_c4 : (Jvm.Cond.code ({ cls := "java/lang/Object", name := "<init>", desc := "()V" } : Jvm.MethodName) object_method_1_code (1 : Nat) (Option.none : Option Jvm.ClassFile.FieldType)).before args0 about1 = true := code_word (m := ⟨0, 0⟩) (meth := k0m0) (c := k0c0) (by decide +kernel) rfl rfl rfl (by decide +kernel)
set_option maxRecDepth 65536 in
theorem w_c5 : (Jvm.Cond.code ({ cls := "com/example/pagemark/pagemark/statements/Restriction$Operator", name := "ofSymbol", desc := "(Ljava/lang/String;)Lcom/example/pagemark/pagemark/statements/Restriction$Operator;" } : Jvm.MethodName) prog_34_method_4_code (5 : Nat) (Option.some (Jvm.ClassFile.FieldType.object "com/example/pagemark/pagemark/statements/Restriction$Operator"))).before args0 about1 = true := code_word (m := ⟨9, 1⟩) (meth := k9m1) (c := k9c1) (by decide +kernel) rfl rfl rfl (by decide +kernel)
set_option maxRecDepth 65536 in
theorem w_c6 : (Jvm.Cond.code ({ cls := "com/example/pagemark/pagemark/statements/Restriction$Operator", name := "values", desc := "()[Lcom/example/pagemark/pagemark/statements/Restriction$Operator;" } : Jvm.MethodName) prog_34_method_1_code (0 : Nat) (Option.some (Jvm.ClassFile.FieldType.array (Jvm.ClassFile.FieldType.object "com/example/pagemark/pagemark/statements/Restriction$Operator")))).before args0 about1 = true := code_word (m := ⟨9, 0⟩) (meth := k9m0) (c := k9c0) (by decide +kernel) rfl rfl rfl (by decide +kernel)
set_option maxRecDepth 65536 in
theorem w_c7 : (Jvm.Cond.code ({ cls := "java/lang/String", name := "equals", desc := "(Ljava/lang/Object;)Z" } : Jvm.MethodName) jdk_42_method_66_code (3 : Nat) (Option.some Jvm.ClassFile.FieldType.boolean)).before args0 about1 = true := code_word (m := ⟨7, 2⟩) (meth := k7m2) (c := k7c2) (by decide +kernel) rfl rfl rfl (by decide +kernel)
set_option maxRecDepth 65536 in
theorem w_c8 : (Jvm.Cond.code ({ cls := "java/lang/StringLatin1", name := "equals", desc := "([B[B)Z" } : Jvm.MethodName) jdk_43_method_13_code (3 : Nat) (Option.some Jvm.ClassFile.FieldType.boolean)).before args0 about1 = true := code_word (m := ⟨11, 1⟩) (meth := k11m1) (c := k11c1) (by decide +kernel) rfl rfl rfl (by decide +kernel)
set_option maxRecDepth 65536 in
theorem w_c9 : (Jvm.Cond.code ({ cls := "java/lang/StringUTF16", name := "compress", desc := "([CII)[B" } : Jvm.MethodName) jdk_52_method_16_code (6 : Nat) (Option.some (Jvm.ClassFile.FieldType.array Jvm.ClassFile.FieldType.byte))).before args0 about1 = true := code_word (m := ⟨12, 2⟩) (meth := k12m2) (c := k12c2) (by decide +kernel) rfl rfl rfl (by decide +kernel)
set_option maxRecDepth 65536 in
theorem w_c10 : (Jvm.Cond.code ({ cls := "java/lang/StringUTF16", name := "compress", desc := "([CI[BII)I" } : Jvm.MethodName) jdk_52_method_21_code (7 : Nat) (Option.some Jvm.ClassFile.FieldType.int)).before args0 about1 = true := code_word (m := ⟨12, 3⟩) (meth := k12m3) (c := k12c3) (by decide +kernel) rfl rfl rfl (by decide +kernel)
set_option maxRecDepth 65536 in
theorem w_c11 : (Jvm.Cond.code ({ cls := "java/lang/StringUTF16", name := "coderFromArrayLen", desc := "([BI)B" } : Jvm.MethodName) jdk_52_method_15_code (2 : Nat) (Option.some Jvm.ClassFile.FieldType.byte)).before args0 about1 = true := code_word (m := ⟨12, 1⟩) (meth := k12m1) (c := k12c1) (by decide +kernel) rfl rfl rfl (by decide +kernel)
def codes1 : List Jvm.Cond := [Jvm.Cond.code x code maxLocals ret, Jvm.Cond.code ({ cls := "com/example/pagemark/pagemark/statements/OperatorOfSymbolPinLaw", name := "pick", desc := "(I)C" } : Jvm.MethodName) method_2_code (2 : Nat) (Option.some Jvm.ClassFile.FieldType.char), Jvm.Cond.code ({ cls := "java/lang/String", name := "<init>", desc := "([C)V" } : Jvm.MethodName) jdk_42_method_3_code (2 : Nat) (Option.none : Option Jvm.ClassFile.FieldType), Jvm.Cond.code ({ cls := "java/lang/String", name := "<init>", desc := "([CIILjava/lang/Void;)V" } : Jvm.MethodName) jdk_42_method_149_code (6 : Nat) (Option.none : Option Jvm.ClassFile.FieldType), Jvm.Cond.code ({ cls := "java/lang/Object", name := "<init>", desc := "()V" } : Jvm.MethodName) object_method_1_code (1 : Nat) (Option.none : Option Jvm.ClassFile.FieldType), Jvm.Cond.code ({ cls := "com/example/pagemark/pagemark/statements/Restriction$Operator", name := "ofSymbol", desc := "(Ljava/lang/String;)Lcom/example/pagemark/pagemark/statements/Restriction$Operator;" } : Jvm.MethodName) prog_34_method_4_code (5 : Nat) (Option.some (Jvm.ClassFile.FieldType.object "com/example/pagemark/pagemark/statements/Restriction$Operator")), Jvm.Cond.code ({ cls := "com/example/pagemark/pagemark/statements/Restriction$Operator", name := "values", desc := "()[Lcom/example/pagemark/pagemark/statements/Restriction$Operator;" } : Jvm.MethodName) prog_34_method_1_code (0 : Nat) (Option.some (Jvm.ClassFile.FieldType.array (Jvm.ClassFile.FieldType.object "com/example/pagemark/pagemark/statements/Restriction$Operator"))), Jvm.Cond.code ({ cls := "java/lang/String", name := "equals", desc := "(Ljava/lang/Object;)Z" } : Jvm.MethodName) jdk_42_method_66_code (3 : Nat) (Option.some Jvm.ClassFile.FieldType.boolean), Jvm.Cond.code ({ cls := "java/lang/StringLatin1", name := "equals", desc := "([B[B)Z" } : Jvm.MethodName) jdk_43_method_13_code (3 : Nat) (Option.some Jvm.ClassFile.FieldType.boolean), Jvm.Cond.code ({ cls := "java/lang/StringUTF16", name := "compress", desc := "([CII)[B" } : Jvm.MethodName) jdk_52_method_16_code (6 : Nat) (Option.some (Jvm.ClassFile.FieldType.array Jvm.ClassFile.FieldType.byte)), Jvm.Cond.code ({ cls := "java/lang/StringUTF16", name := "compress", desc := "([CI[BII)I" } : Jvm.MethodName) jdk_52_method_21_code (7 : Nat) (Option.some Jvm.ClassFile.FieldType.int), Jvm.Cond.code ({ cls := "java/lang/StringUTF16", name := "coderFromArrayLen", desc := "([BI)B" } : Jvm.MethodName) jdk_52_method_15_code (2 : Nat) (Option.some Jvm.ClassFile.FieldType.byte)]
set_option maxRecDepth 65536 in
theorem codes_eq : words1.filter isCode = codes1 := rfl
theorem w_codes : ∀ c ∈ words1.filter isCode, c.before args0 about1 = true := by
  rw [codes_eq]
  intro c hc
  simp only [codes1, List.mem_cons, List.not_mem_nil, or_false] at hc
  rcases hc with rfl | rfl | rfl | rfl | rfl | rfl | rfl | rfl | rfl | rfl | rfl | rfl
  · exact w_c0
  · exact w_c1
  · exact w_c2
  · exact w_c3
  · exact w_c4
  · exact w_c5
  · exact w_c6
  · exact w_c7
  · exact w_c8
  · exact w_c9
  · exact w_c10
  · exact w_c11
set_option maxRecDepth 65536 in
theorem w_t1 : (words1.take 24).all (fun c => isCode c || c.before args0 about1) = true := by decide +kernel
set_option maxRecDepth 65536 in
theorem w_t2 : ((words1.drop 24).take 24).all (fun c => isCode c || c.before args0 about1) = true := by decide +kernel
set_option maxRecDepth 65536 in
theorem w_t3 : (((words1.drop 24).drop 24).take 24).all (fun c => isCode c || c.before args0 about1) = true := by decide +kernel
set_option maxRecDepth 65536 in
theorem w_t4 : (((words1.drop 24).drop 24).drop 24).all (fun c => isCode c || c.before args0 about1) = true := by decide +kernel
theorem w_tables : (allAtoms (Jvm.Cond.code x code maxLocals ret :: tables_1)).before args0 about1 = true := by
  rw [allAtoms_all]
  show words1.all (fun c => c.before args0 about1) = true
  refine all_split ?_ w_codes
  rw [← List.take_append_drop 24 words1, List.all_append, w_t1, ← List.take_append_drop 24 (words1.drop 24), List.all_append, w_t2, ← List.take_append_drop 24 ((words1.drop 24).drop 24), List.all_append, w_t3, w_t4]
  rfl
set_option maxRecDepth 65536 in
theorem w_rest : rest_1_c.before args0 about1 = true := by decide +kernel
set_option maxRecDepth 65536 in
theorem w_case : (Jvm.Cond.and given_1 narrow_1).before args0 about1 = true := by decide +kernel
set_option maxRecDepth 65536 in
theorem w_consts : constsHeld consts_1 about1 := Jvm.Lit.constsHeldB_iff.mp (by decide +kernel)
theorem w_applies : (headSpec (Jvm.Cond.code x code maxLocals ret :: tables_1) room_1).applies x e0.platform about1 = true :=
  (Spec.applies_iff w_frames).mpr ⟨w_running, w_runnable, w_alone, w_named, w_hears, w_ripe, w_room, w_tables⟩
theorem atStart : AtStart classFile x code maxLocals ret World_1 tables_1 room_1 Calls_1 rest_1 Pre_1 launch0 p0 e0 about1 theMethod args0 below0 :=
  ⟨lists_1, trivial, launch0.admits_env _ _ _, launch0.least_env, fairChoices_fair.cas, fairChoices_fair.clock, w_frames, w_args, w_heap, w_applies, ⟨w_consts, trivial⟩, w_rest, w_case⟩
end start1
theorem witness_1 : WitnessClaimed_1 := ⟨start1.p0, start1.e0, start1.about1, start1.theMethod, start1.args0, start1.below0, start1.atStart⟩
end Jvm.Pilot.@@N@@
