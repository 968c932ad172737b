import JvmDerived
import JvmDerived.Pilot.@@N@@Statement
import JvmDerived.Pilot.@@N@@Code
set_option linter.unusedVariables false
set_option linter.unusedSimpArgs false
namespace Jvm.Pilot.@@N@@
open Jvm Jvm.ClassFile Sem Op Lib Jvm.Free Jvm.Stand Jvm.LawKit Jvm.RoadKit Bundle Jvm.Pilot.@@N@@.Jvm.D
/-! own_: the walk's goal in one piece (from this state on the body returns, and what it leaves says Q), its steps, its ends, its calls -/
theorem own_succ (k : Nat) : Int32.ofNat (k + 1) = Int32.ofNat k + 1 := (Int32.ofNat_succ k).symm
theorem own_catR {v : Value} (h : v.isRef = true) : v.category = 1 := by rcases ref_cases h with rfl | ⟨a, rfl⟩ <;> rfl
theorem own_narR {v : Value} {t : FieldType} (h : v.isRef = true) : narrow t v = v := by rcases ref_cases h with rfl | ⟨a, rfl⟩ <;> cases t <;> rfl
theorem own_fitR {v : Value} {t : FieldType} (h : v.isRef = true) (ht : t.isReference = true) : fits t v = true := by rcases ref_cases h with rfl | ⟨a, rfl⟩ <;> cases t <;> first | rfl | cases ht
section OwnKit
variable {p : Program} {l : Launch} {e : Env} {R : Room} {s : State} {m : MethodId} {args : Array Value} {below : List Frame} {meth : Method} {c : Code} {T : State} {locs : List Loc} {cells slots : Nat} {Z : State} {a0 : Array Value} {h : Heap}
def own_Fin (p : Program) (e : Env) (below : List Frame) (s : State) (Q : Option Value → Heap → List Loc → Prop) (k n : Nat) (U : State) : Prop :=
  ∃ (s₂ : State) (o : Outcome), Steps p.tables e below U s₂ ∧ s₂.status = .running ∧ Ended s₂ below o ∧ ∃ v L, o = .returned v ∧ Q v s₂.heap L ∧ FrameEnd s o s₂ L k n
variable {Q : Option Value → Heap → List Loc → Prop} {k n : Nat}
theorem own_go {U U' : State} (st : ∀ t, Steps p.tables e below U' t → Steps p.tables e below U t) (F : own_Fin p e below s Q k n U') : own_Fin p e below s Q k n U := by
  obtain ⟨s2, o, h1, h2⟩ := F
  exact ⟨s2, o, st _ h1, h2⟩
theorem own_ret (X : Stand p l e R s m args below meth c T locs cells slots) (hx : p.tables.exec = Jvm.exec) {t : FieldType} (hret : meth.sig.returnType = some t) (hlk : meth.locks = false) {pc : Nat} {Ls : Array Slot} {w : Value} {i : Instr} {rest : List Value} (hn : narrow t w = w)
    (hi : (i = .ireturn ∧ (t = .int ∨ t = .boolean ∨ t = .byte ∨ t = .char ∨ t = .short) ∧ ∃ z, w = .int z) ∨ (i = .lreturn ∧ t = .long ∧ ∃ z, w = .long z) ∨ (i = .dreturn ∧ t = .double ∧ ∃ z, w = .double z) ∨ (i = .freturn ∧ t = .float ∧ ∃ z, w = .float z) ∨ (i = .areturn ∧ t.isReference = true ∧ w.isRef = true))
    (hd : decode c.code pc = .ok (i, 1)) (hQ : Q (some w) T.heap locs) (hc : cells ≤ k) (hs : slots ≤ n) : own_Fin p e below s Q k n (T.setTop (mkF m pc Ls (w :: rest))) := by
  obtain ⟨fs, hr, hrun, hended, hW, hsame⟩ := X.leave (v := some w) (fun h => by rw [hret] at h; cases h) hlk
  exact ⟨_, _, retOut X hx hret hn hi hd hr, hrun, hended, _, _, rfl, hQ, ⟨_, rfl⟩, hW, hsame.mono hc hs⟩
theorem own_retI (X : Stand p l e R s m args below meth c T locs cells slots) (hx : p.tables.exec = Jvm.exec) (hret : meth.sig.returnType = some .int) (hlk : meth.locks = false) {pc : Nat} {Ls : Array Slot} {z : Int32} {rest : List Value}
    (hd : decode c.code pc = .ok (.ireturn, 1)) (hQ : Q (some (.int z)) T.heap locs) (hc : cells ≤ k) (hs : slots ≤ n) : own_Fin p e below s Q k n (T.setTop (mkF m pc Ls (.int z :: rest))) :=
  own_ret X hx hret hlk rfl (Or.inl ⟨rfl, Or.inl rfl, z, rfl⟩) hd hQ hc hs
theorem own_retN (X : Stand p l e R s m args below meth c T locs cells slots) (hx : p.tables.exec = Jvm.exec) {t : FieldType} (hret : meth.sig.returnType = some t) (ht : t = .boolean ∨ t = .byte ∨ t = .char ∨ t = .short) (hlk : meth.locks = false) {pc : Nat} {Ls : Array Slot} {z : Int32} {rest : List Value}
    (hd : decode c.code pc = .ok (.ireturn, 1)) (hQ : Q (some (.int (nar t z))) T.heap locs) (hc : cells ≤ k) (hs : slots ≤ n) : own_Fin p e below s Q k n (T.setTop (mkF m pc Ls (.int z :: rest))) := by
  obtain ⟨fs, hr, hrun, hended, hW, hsame⟩ := X.leave (v := some (.int (nar t z))) (fun h => by rw [hret] at h; cases h) hlk
  exact ⟨_, _, retN X hx hret ht hd hr, hrun, hended, _, _, rfl, hQ, ⟨_, rfl⟩, hW, hsame.mono hc hs⟩
theorem own_retL (X : Stand p l e R s m args below meth c T locs cells slots) (hx : p.tables.exec = Jvm.exec) (hret : meth.sig.returnType = some .long) (hlk : meth.locks = false) {pc : Nat} {Ls : Array Slot} {z : Int64} {rest : List Value}
    (hd : decode c.code pc = .ok (.lreturn, 1)) (hQ : Q (some (.long z)) T.heap locs) (hc : cells ≤ k) (hs : slots ≤ n) : own_Fin p e below s Q k n (T.setTop (mkF m pc Ls (.long z :: rest))) :=
  own_ret X hx hret hlk rfl (Or.inr (Or.inl ⟨rfl, rfl, z, rfl⟩)) hd hQ hc hs
theorem own_retA (X : Stand p l e R s m args below meth c T locs cells slots) (hx : p.tables.exec = Jvm.exec) {t : FieldType} (hret : meth.sig.returnType = some t) (ht : t.isReference = true) (hlk : meth.locks = false) {pc : Nat} {Ls : Array Slot} {w : Value} {rest : List Value} (hw : w.isRef = true)
    (hd : decode c.code pc = .ok (.areturn, 1)) (hQ : Q (some w) T.heap locs) (hc : cells ≤ k) (hs : slots ≤ n) : own_Fin p e below s Q k n (T.setTop (mkF m pc Ls (w :: rest))) :=
  own_ret X hx hret hlk (by rcases ref_cases hw with rfl | ⟨z, rfl⟩ <;> cases t <;> rfl) (Or.inr (Or.inr (Or.inr (Or.inr ⟨rfl, ht, hw⟩)))) hd hQ hc hs
theorem own_retV (X : Stand p l e R s m args below meth c T locs cells slots) (hx : p.tables.exec = Jvm.exec) (hret : meth.sig.returnType = none) (hlk : meth.locks = false) {pc : Nat} {Ls : Array Slot}
    (hd : decode c.code pc = .ok (.return_, 1)) (hQ : Q none T.heap locs) (hc : cells ≤ k) (hs : slots ≤ n) : own_Fin p e below s Q k n (T.setTop (mkF m pc Ls [])) := by
  obtain ⟨fs, hr, hrun, hended, hW, hsame⟩ := X.leave (v := none) (fun _ => rfl) hlk
  exact ⟨_, _, X.returnOut hx hret hd hr, hrun, hended, _, _, rfl, hQ, ⟨_, rfl⟩, hW, hsame.mono hc hs⟩
/-- a body's contract: called with these arguments at this heap it returns, and what it leaves says Q -/
abbrev own_C (l : Launch) (Z : State) (y : MethodName) (bytes : ByteArray) (maxL : Nat) (ret : Option FieldType) (ws : List Jvm.Cond) (rm : Room) (as' : Array Value) (h0 : Heap) (Q : Option Value → Heap → List Loc → Prop) : Prop :=
  MetFree l y (head1 (Jvm.Cond.code y bytes maxL ret :: ws) rm) (fun a U => a = as' ∧ Z.Warmed39 U.vm ∧ U.heap = h0) (fun _ _ _ _ _ => True) (fun _ U o U' => ∃ v L, o = .returned v ∧ Q v U'.heap L ∧ FrameEnd U o U' L rm.cells rm.slots)
theorem own_body {y : MethodName} {bytes : ByteArray} {maxL : Nat} {ret : Option FieldType} {ws : List Jvm.Cond} {rm : Room} {as' : Array Value} {h0 : Heap} (hpn : plainFor y = true)
    (body : ∀ (p : Program) (e : Env) (s : State) (m : MethodId) (below : List Frame) (meth : Method) (c : Code) (s₁ : State), p.tables.exec = Jvm.exec → c.code = bytes → c.maxLocals = maxL → meth.sig.returnType = ret → meth.locks = false → s.vm.findClass y.cls = some m.cls → meth.name = y.name → Z.Warmed39 s.vm →
      Stand p l e rm s m as' below meth c s₁ [] 0 0 → s₁.heap = h0 → own_Fin p e below s Q rm.cells rm.slots (s₁.setTop (entryFrame m as' maxL))) : own_C l Z y bytes maxL ret ws rm as' h0 Q := by
  refine MetFree.of_bodySF hpn hisR ?_
  intro p e s m args below meth c s₁ Bd hml0 hP hK
  obtain ⟨rfl, hZ, hh⟩ := hP
  exact body p e s m below meth c s₁ Bd.exec Bd.bytes hml0 Bd.returns Bd.notSynchronized (findClass_of_methodNamed Bd.named) (name_of_methodNamed Bd.named Bd.method).1 hZ (Stand.of_body Bd) (by rw [← hh, Bd.state]; rfl)
theorem own_callS (X : Stand p l e R s m args below meth c T locs cells slots) (hx : p.tables.exec = Jvm.exec) (hZ : Z.Warmed39 s.vm) {own : String} {index : Nat} {y : MethodName} {bytes : ByteArray} {maxL : Nat} {ret : Option FieldType} (hown : s.vm.findClass own = some m.cls)
    (w1 : (Cond.methodLink own index y).before a0 Z = true) (w2 : (Cond.static y).before a0 Z = true) (w3 : (Cond.initialized y.cls).before a0 Z = true) (w4 : (Cond.code y bytes maxL ret).before a0 Z = true) (hy : y.cls ≠ "java/lang/invoke/MethodHandle" ∧ y.cls ≠ "java/lang/invoke/VarHandle")
    {rm : Room} {argsL rest : List Value} {as' : Array Value} (hM : own_C l Z y bytes maxL ret [] rm as' h Q) {W : Nat} (hf : rm.frames + 1 ≤ R.frames) (hl : W + (maxL + 11) + rm.locals ≤ R.locals) {g : JFrame} (hg : g.method = m) (hsize : g.locals.size = c.maxLocals)
    (hlen : ∀ sig, parseMethodDescriptor y.desc = some sig → argsL.length = sig.parameters.length) (hstack : g.stack = argsL.reverse ++ rest) (has : argsL.toArray = as') (hW : 2 * g.monitorRoom + (rest.map fun v => v.category).sum ≤ W) (hdg : decode c.code g.pc = .ok (.invokestatic index, 3)) (eT : T.heap = h)
    (hc : cells + rm.cells ≤ R.cells) (hs : slots + rm.slots ≤ R.slots) :
    ∃ (v : Option Value) (T' : State) (h' : Heap) (L : List Loc), T'.heap = h' ∧ Stand p l e R s m args below meth c T' (locs ++ L) (cells + rm.cells) (slots + rm.slots) ∧ Q v h' L ∧ ∀ target, Steps p.tables e below (T'.setTop { g with pc := g.pc + 3, stack := v.toList ++ rest }) target → Steps p.tables e below (T.setTop g) target := by
  obtain ⟨v, vm, ⟨T', L', k', n'⟩, -, X', ⟨Lc, hQ, l1, y1, z1⟩, st⟩ := Jvm.LawKit.callS X hx (y := y) hown (mvT hZ w1) (mvT hZ w2) (mvT hZ w3) (mvT hZ w4) hy (backOf (W := W) hM hZ w4 w3 hf hl) hg hsize hlen hstack hW hdg (fun _ _ => ⟨has, eT, hc, hs⟩)
  dsimp only [Pt.U, Pt.locs, Pt.cells, Pt.slots] at X' l1 y1 z1 st hQ
  subst l1 y1 z1
  exact ⟨v, T', _, Lc, rfl, X', hQ, st⟩
theorem own_callC (X : Stand p l e R s m args below meth c T locs cells slots) (hx : p.tables.exec = Jvm.exec) (hZ : Z.Warmed39 s.vm) {own : String} {index : Nat} {y : MethodName} {bytes : ByteArray} {maxL : Nat} (hy1 : y.name = "<init>") (hown : s.vm.findClass own = some m.cls)
    (w1 : (Cond.methodLink own index y).before a0 Z = true) (w2 : (Cond.instanceMethod y).before a0 Z = true) (w3 : (Cond.initialized y.cls).before a0 Z = true) (w4 : (Cond.code y bytes maxL none).before a0 Z = true) (hy : y.cls ≠ "java/lang/invoke/MethodHandle" ∧ y.cls ≠ "java/lang/invoke/VarHandle")
    {rm : Room} {a : Addr} {argsL rest : List Value} {as' : Array Value} (hM : own_C l Z y bytes maxL none [] rm as' h Q) {W : Nat} (hf : rm.frames + 1 ≤ R.frames) (hl : W + (maxL + 11) + rm.locals ≤ R.locals) {g : JFrame} (hg : g.method = m) (hsize : g.locals.size = c.maxLocals)
    (hlen : ∀ sig, parseMethodDescriptor y.desc = some sig → argsL.length = sig.parameters.length) (hstack : g.stack = argsL.reverse ++ .ref a :: rest) (has : (.ref a :: argsL).toArray = as') (hW : 2 * g.monitorRoom + (rest.map fun v => v.category).sum ≤ W) (hdg : decode c.code g.pc = .ok (.invokespecial index, 3)) (eT : T.heap = h)
    (hc : cells + rm.cells ≤ R.cells) (hs : slots + rm.slots ≤ R.slots) :
    ∃ (v : Option Value) (T' : State) (h' : Heap) (L : List Loc), T'.heap = h' ∧ Stand p l e R s m args below meth c T' (locs ++ L) (cells + rm.cells) (slots + rm.slots) ∧ Q v h' L ∧ ∀ target, Steps p.tables e below (T'.setTop { g with pc := g.pc + 3, stack := v.toList ++ rest }) target → Steps p.tables e below (T.setTop g) target := by
  obtain ⟨v, vm, ⟨T', L', k', n'⟩, -, X', ⟨Lc, hQ, l1, y1, z1⟩, st⟩ := X.specialBack hx (y := y) hy1 hown (mvT hZ w1) (mvT hZ w2) (mvT hZ w4) hy (backOf (W := W) hM hZ w4 w3 hf hl) hg hsize (Steps.refl _) hlen hstack hW hdg (fun _ _ => ⟨has, eT, hc, hs⟩)
  dsimp only [Pt.U, Pt.locs, Pt.cells, Pt.slots] at X' l1 y1 z1 st hQ
  subst l1 y1 z1
  exact ⟨v, T', _, Lc, rfl, X', hQ, fun _ k => st.trans k⟩
theorem own_callV (X : Stand p l e R s m args below meth c T locs cells slots) (hx : p.tables.exec = Jvm.exec) (hZ : Z.Warmed39 s.vm) {own C : String} {index : Nat} {y z : MethodName} {bytes : ByteArray} {maxL : Nat} {ret : Option FieldType} (hown : s.vm.findClass own = some m.cls)
    (w1 : (Cond.methodLink own index y).before a0 Z = true) (w2 : (Cond.declares y).before a0 Z = true) (hnf : NotFace s y) (w5 : (Cond.selects C y z).before a0 Z = true) (w6 : (Cond.instanceMethod z).before a0 Z = true) (w3 : (Cond.initialized z.cls).before a0 Z = true) (w4 : (Cond.code z bytes maxL ret).before a0 Z = true) (hy : y.cls ≠ "java/lang/invoke/MethodHandle" ∧ y.cls ≠ "java/lang/invoke/VarHandle")
    {rm : Room} {a : Addr} (E : Exa Z h a C) {argsL rest : List Value} {as' : Array Value} (hM : own_C l Z z bytes maxL ret [] rm as' h Q) {W : Nat} (hf : rm.frames + 1 ≤ R.frames) (hl : W + (maxL + 11) + rm.locals ≤ R.locals) {g : JFrame} (hg : g.method = m) (hsize : g.locals.size = c.maxLocals)
    (hlen : ∀ sig, parseMethodDescriptor y.desc = some sig → argsL.length = sig.parameters.length) (hstack : g.stack = argsL.reverse ++ .ref a :: rest) (has : (.ref a :: argsL).toArray = as') (hW : 2 * g.monitorRoom + (rest.map fun v => v.category).sum ≤ W) (hdg : decode c.code g.pc = .ok (.invokevirtual index, 3)) (eT : T.heap = h)
    (hc : cells + rm.cells ≤ R.cells) (hs : slots + rm.slots ≤ R.slots) :
    ∃ (v : Option Value) (T' : State) (h' : Heap) (L : List Loc), T'.heap = h' ∧ Stand p l e R s m args below meth c T' (locs ++ L) (cells + rm.cells) (slots + rm.slots) ∧ Q v h' L ∧ ∀ target, Steps p.tables e below (T'.setTop { g with pc := g.pc + 3, stack := v.toList ++ rest }) target → Steps p.tables e below (T.setTop g) target := by
  obtain ⟨cq, kq, qa, qb, qc⟩ := isOf hZ eT E
  obtain ⟨v, vm, ⟨T', L', k', n'⟩, -, X', ⟨Lc, hQ, l1, y1, z1⟩, st⟩ := X.virtualBack hx (y := y) (z := z) hown (mvT hZ w1) (mvT hZ w2) hnf (mvT hZ w5) (mvT hZ w6) hy (backOf (W := W) hM hZ w4 w3 hf hl) qa qc hg hsize (Steps.refl _) hlen hstack hW hdg (fun _ _ => ⟨has, eT, hc, hs⟩)
  dsimp only [Pt.U, Pt.locs, Pt.cells, Pt.slots] at X' l1 y1 z1 st hQ
  subst l1 y1 z1
  exact ⟨v, T', _, Lc, rfl, X', hQ, fun _ k => st.trans k⟩
theorem own_callI (X : Stand p l e R s m args below meth c T locs cells slots) (hx : p.tables.exec = Jvm.exec) (hZ : Z.Warmed39 s.vm) {own C : String} {index count : Nat} {y z : MethodName} {bytes : ByteArray} {maxL : Nat} {ret : Option FieldType} (hown : s.vm.findClass own = some m.cls)
    (w1 : (Cond.methodLink own index y).before a0 Z = true) (w2 : (Cond.declares y).before a0 Z = true) (w7 : (Cond.interfaceMethod y.cls y.cls y.name y.desc).before args s = true) (w5 : (Cond.selects C y z).before a0 Z = true) (w6 : (Cond.instanceMethod z).before a0 Z = true) (w8 : (Cond.publicMethod z).before a0 Z = true)
    (w9 : (Cond.unhidden C y.name y.desc).before a0 Z = true) (w10 : (Cond.castable C y.cls).before a0 Z = true) (w3 : (Cond.initialized z.cls).before a0 Z = true) (w4 : (Cond.code z bytes maxL ret).before a0 Z = true) (hy : y.cls ≠ "java/lang/invoke/MethodHandle" ∧ y.cls ≠ "java/lang/invoke/VarHandle")
    {rm : Room} {a : Addr} (E : Exa Z h a C) {argsL rest : List Value} {as' : Array Value} (hM : own_C l Z z bytes maxL ret [] rm as' h Q) {W : Nat} (hf : rm.frames + 1 ≤ R.frames) (hl : W + (maxL + 11) + rm.locals ≤ R.locals) {g : JFrame} (hg : g.method = m) (hsize : g.locals.size = c.maxLocals)
    (hlen : ∀ sig, parseMethodDescriptor y.desc = some sig → argsL.length = sig.parameters.length) (hstack : g.stack = argsL.reverse ++ .ref a :: rest) (has : (.ref a :: argsL).toArray = as') (hW : 2 * g.monitorRoom + (rest.map fun v => v.category).sum ≤ W) (hdg : decode c.code g.pc = .ok (.invokeinterface index count, 5)) (eT : T.heap = h)
    (hc : cells + rm.cells ≤ R.cells) (hs : slots + rm.slots ≤ R.slots) :
    ∃ (v : Option Value) (T' : State) (h' : Heap) (L : List Loc), T'.heap = h' ∧ Stand p l e R s m args below meth c T' (locs ++ L) (cells + rm.cells) (slots + rm.slots) ∧ Q v h' L ∧ ∀ target, Steps p.tables e below (T'.setTop { g with pc := g.pc + 5, stack := v.toList ++ rest }) target → Steps p.tables e below (T.setTop g) target := by
  obtain ⟨cq, kq, qa, qb, qc⟩ := isOf hZ eT E
  obtain ⟨v, vm, ⟨T', L', k', n'⟩, -, X', ⟨Lc, hQ, l1, y1, z1⟩, st⟩ := X.interfaceBack hx (xi := y) (y := z) hown (mvT hZ w1) (mvT hZ w2) w7 (mvT hZ w5) (mvT hZ w6) (mvT hZ w8) (mvT hZ w9) (mvT hZ w10) hy (backOf (W := W) hM hZ w4 w3 hf hl) qa qb qc hg hsize (Steps.refl _) hlen hstack hW hdg (fun _ _ => ⟨has, eT, hc, hs⟩)
  dsimp only [Pt.U, Pt.locs, Pt.cells, Pt.slots] at X' l1 y1 z1 st hQ
  subst l1 y1 z1
  exact ⟨v, T', _, Lc, rfl, X', hQ, fun _ k => st.trans k⟩
theorem own_callP (X : Stand p l e R s m args below meth c T locs cells slots) (hx : p.tables.exec = Jvm.exec) (hZ : Z.Warmed39 s.vm) {own C : String} {index : Nat} {y : MethodName} {bytes : ByteArray} {maxL : Nat} {ret : Option FieldType} (hown : s.vm.findClass own = some m.cls)
    (w1 : (Cond.methodLink own index y).before a0 Z = true) (w6 : (Cond.instanceMethod y).before a0 Z = true) (w5 : (Cond.selects y.cls y y).before a0 Z = true) (w7 : (Cond.privateMethod y).before a0 Z = true) (w3 : (Cond.initialized y.cls).before a0 Z = true) (w4 : (Cond.code y bytes maxL ret).before a0 Z = true) (hy : y.cls ≠ "java/lang/invoke/MethodHandle" ∧ y.cls ≠ "java/lang/invoke/VarHandle")
    {rm : Room} {a : Addr} (E : Exa Z h a C) {argsL rest : List Value} {as' : Array Value} (hM : own_C l Z y bytes maxL ret [] rm as' h Q) {W : Nat} (hf : rm.frames + 1 ≤ R.frames) (hl : W + (maxL + 11) + rm.locals ≤ R.locals) {g : JFrame} (hg : g.method = m) (hsize : g.locals.size = c.maxLocals)
    (hlen : ∀ sig, parseMethodDescriptor y.desc = some sig → argsL.length = sig.parameters.length) (hstack : g.stack = argsL.reverse ++ .ref a :: rest) (has : (.ref a :: argsL).toArray = as') (hW : 2 * g.monitorRoom + (rest.map fun v => v.category).sum ≤ W) (hdg : decode c.code g.pc = .ok (.invokevirtual index, 3)) (eT : T.heap = h)
    (hc : cells + rm.cells ≤ R.cells) (hs : slots + rm.slots ≤ R.slots) :
    ∃ (v : Option Value) (T' : State) (h' : Heap) (L : List Loc), T'.heap = h' ∧ Stand p l e R s m args below meth c T' (locs ++ L) (cells + rm.cells) (slots + rm.slots) ∧ Q v h' L ∧ ∀ target, Steps p.tables e below (T'.setTop { g with pc := g.pc + 3, stack := v.toList ++ rest }) target → Steps p.tables e below (T.setTop g) target := by
  obtain ⟨cq, q, q'⟩ := E.cell
  obtain ⟨v, vm, ⟨T', L', k', n'⟩, -, X', ⟨Lc, hQ, l1, y1, z1⟩, st⟩ := X.privateBack hx (y := y) hown (mvT hZ w1) (mvT hZ w6) (mvT hZ w5) (Cond.privateMethod_at (mvP hZ w7 (args := #[]))) (mvT hZ w4) hy (backOf (W := W) hM hZ w4 w3 hf hl) hg hsize (Steps.refl _) (a := a) (by rw [eT]; exact q) q' hlen hstack hW hdg (fun _ _ => ⟨has, eT, hc, hs⟩)
  dsimp only [Pt.U, Pt.locs, Pt.cells, Pt.slots] at X' l1 y1 z1 st hQ
  subst l1 y1 z1
  exact ⟨v, T', _, Lc, rfl, X', hQ, fun _ k => st.trans k⟩
theorem own_lremM {g : JFrame} {target : State} (X : Stand p l e R s m args below meth c T locs cells slots) (hx : p.tables.exec = Jvm.exec) (hg : g.method = m) {x y : Int64} {rest : List Value} (hd : decode c.code g.pc = .ok (.lrem, 1)) (hs : g.stack = .long y :: .long x :: rest) (hy : y ≠ 0)
    (hr : Steps p.tables e below (T.setTop { g with pc := g.pc + 1, stack := .long (x % y) :: rest }) target) : Steps p.tables e below (T.setTop g) target :=
  XS.lrem X.here hx hg hd hs hy (by rw [lrem_mod]; exact hr)
theorem own_mono (X : Stand p l e R s m args below meth c T locs cells slots) {cells' slots' : Nat} (hc : cells ≤ cells') (hs : slots ≤ slots') : Stand p l e R s m args below meth c T locs cells' slots' :=
  ⟨X.admits, X.cas, X.clock, X.frames, X.room, X.hears, X.method, X.code, X.here, X.tail, X.warmed, X.limits, X.bytes, X.same.mono hc hs⟩
end OwnKit
section OwnArr
variable {Z : State} {h h' : Heap} {a b : Addr} {k : ClassId} {ty : FieldType} {vs : List Value} {v : Value} {sl : Nat} {wl : List Addr}
/-- the array at a holds just these values -/
def own_Ar (Z : State) (h : Heap) (a : Addr) (k : ClassId) (ty : FieldType) (vs : List Value) : Prop := ∃ c : Cell, Arr Z h a c ty ∧ c.cls = k ∧ c.slots = vs.toArray ∧ vs.length < 2 ^ 31 ∧ ∀ v ∈ vs, fits ty v = true
theorem own_Ar.lt (F : own_Ar Z h a k ty vs) : a < h.size := by obtain ⟨c, A, -⟩ := F; exact A.lt
theorem own_Ar.ext (F : own_Ar Z h a k ty vs) (E : Ext h h') : own_Ar Z h' a k ty vs := by obtain ⟨c, A, r⟩ := F; exact ⟨c, A.ext E, r⟩
theorem own_Ar.other (F : own_Ar Z h b k ty vs) (W : Wr h h' a sl v) (q : b ≠ a) : own_Ar Z h' b k ty vs := by obtain ⟨c, A, r⟩ := F; exact ⟨c, A.other W q, r⟩
theorem own_Ar.keep (F : own_Ar Z h a k ty vs) (K : Keep h h' wl) (q : a ∉ wl) : own_Ar Z h' a k ty vs := by obtain ⟨c, A, r⟩ := F; exact ⟨c, ⟨K.2.1 _ _ A.1 q, A.2⟩, r⟩
theorem own_Ar.new {z : Int32} (A : Arr Z h a (newA k ty z) ty) (hf : fits ty (defaultValue ty) = true) : own_Ar Z h a k ty (List.replicate z.toNatClampNeg (defaultValue ty)) := by
  refine ⟨_, A, rfl, by simp [newA], ?_, fun v hv => by rw [List.eq_of_mem_replicate hv]; exact hf⟩
  rw [List.length_replicate]
  have := z.toInt_lt
  rw [Int32.toNatClampNeg]
  omega
theorem own_Ar.set {j : Nat} (F : own_Ar Z h a k ty vs) (W : Wr h h' a j v) (hv : fits ty v = true) : own_Ar Z h' a k ty (vs.set j v) := by
  obtain ⟨c, A, q, s, l, f⟩ := F
  refine ⟨_, A.same W, q, ?_, by rw [List.length_set]; exact l, fun w hw => ?_⟩
  · show c.slots.setIfInBounds j v = _
    rw [s]; simp
  · rcases List.mem_or_eq_of_mem_set hw with hw | rfl
    · exact f w hw
    · exact hv
theorem own_Ar.arv (F : own_Ar Z h a k ty vs) (d : Value) : Arv Z h a k ty (Int32.ofNat vs.length) vs d := by
  obtain ⟨c, A, q, s, l, f⟩ := F
  have hl : (Int32.ofNat vs.length).toNatClampNeg = vs.length := by
    rw [Int32.toNatClampNeg, Int32.toInt_ofNat_of_lt (by omega)]; rfl
  have h0 : ¬ Int32.ofNat vs.length < 0 := by
    rw [Int32.lt_iff_toInt_lt, Int32.toInt_ofNat_of_lt (by omega)]; simp
  refine ⟨c, A, q, by rw [s, hl]; simp, h0, fun i hi => ?_, fun i hi => ?_⟩
  · rw [s] at hi ⊢
    simp only [List.size_toArray] at hi
    simp [List.getD, List.getElem?_eq_getElem hi]
  · rw [s] at hi
    simp only [List.size_toArray] at hi
    simp only [List.getD, List.getElem?_eq_getElem hi, Option.getD_some]
    exact f _ (List.getElem_mem hi)
theorem own_Ar.of_arv {z : Int32} {d : Value} (F : Arv Z h a k ty z vs d) (hl : z.toNatClampNeg = vs.length) : own_Ar Z h a k ty vs := by
  obtain ⟨c, A, q, s, l, H, f⟩ := F
  have hs : c.slots.size = vs.length := s.trans hl
  have e : c.slots = vs.toArray := by
    apply Array.ext_getElem?
    intro i
    by_cases hi : i < c.slots.size
    · rw [H i hi]
      have hi' : i < vs.length := hs ▸ hi
      simp [List.getD, List.getElem?_eq_getElem hi']
    · rw [Array.getElem?_eq_none (Nat.le_of_not_lt hi), Array.getElem?_eq_none (by simpa [← hs] using Nat.le_of_not_lt hi)]
  refine ⟨c, A, q, e, ?_, fun v hv => ?_⟩
  · rw [← hl]; have := z.toInt_lt; rw [Int32.toNatClampNeg]; omega
  · obtain ⟨i, hi, rfl⟩ := List.mem_iff_getElem.mp hv
    have := f i (hs ▸ hi)
    simpa [List.getD, List.getElem?_eq_getElem hi] using this
end OwnArr
section OwnArrSteps
variable {p : Program} {l : Launch} {e : Env} {R : Room} {s : State} {m : MethodId} {args : Array Value} {below : List Frame} {meth : Method} {c : Code} {T : State} {locs : List Loc} {cells slots : Nat} {Z : State} {a0 : Array Value} {h : Heap} {a : Addr} {k : ClassId} {ty : FieldType} {vs : List Value} {v : Value}
theorem own_inb {c : Cell} {vs : List Value} {j : Int32} (hs : c.slots = vs.toArray) (h0 : ¬ j < 0) (hj : j.toNatClampNeg < vs.length) : ¬ (j < 0 ∨ c.slots.size ≤ j.toNatClampNeg) := by
  rw [hs]; rintro (q | q)
  · exact h0 q
  · simp only [List.size_toArray] at q; omega
theorem own_arrlen (X : Stand p l e R s m args below meth c T locs cells slots) (hx : p.tables.exec = Jvm.exec) (hZ : Z.Warmed39 s.vm) (eT : T.heap = h) (F : own_Ar Z h a k ty vs) {n : Int32} (hn : Int32.ofNat vs.length = n) {g : JFrame} (hg : g.method = m) {rest : List Value} (hs : g.stack = .ref a :: rest) (hd : decode c.code g.pc = .ok (.arraylength, 1)) :
    ∀ target, Steps p.tables e below (T.setTop { g with pc := g.pc + 1, stack := .int n :: rest }) target → Steps p.tables e below (T.setTop g) target := by
  obtain ⟨cl, A, q, sz, ln, f⟩ := F
  intro t kk
  refine X.arraylength hx (by rw [eT]; exact A.1) (State.isArrayOf_alike hZ.alike A.2.1) hg hs hd t ?_
  have : cl.slots.size.toInt32 = n := by rw [sz, ← hn]; rfl
  rw [this]; exact kk
theorem own_iaload (X : Stand p l e R s m args below meth c T locs cells slots) (hx : p.tables.exec = Jvm.exec) (hZ : Z.Warmed39 s.vm) (eT : T.heap = h) (F : own_Ar Z h a k .int vs) {j : Int32} (h0 : ¬ j < 0) {i : Nat} (hj : j.toNatClampNeg = i) (hv : vs[i]? = some v) {g : JFrame} (hg : g.method = m) {rest : List Value} (hs : g.stack = .int j :: .ref a :: rest) (hd : decode c.code g.pc = .ok (.iaload, 1)) :
    ∀ target, Steps p.tables e below (T.setTop { g with pc := g.pc + 1, stack := v :: rest }) target → Steps p.tables e below (T.setTop g) target := by
  obtain ⟨cl, A, q, sz, ln, f⟩ := F
  subst hj
  exact X.iaload hx (by rw [eT]; exact A.1) (State.isArrayOf_alike hZ.alike A.2.1) A.2.2 (own_inb sz h0 (List.getElem?_eq_some_iff.mp hv).1) (by rw [sz]; simpa using hv) hg hs hd
theorem own_laload (X : Stand p l e R s m args below meth c T locs cells slots) (hx : p.tables.exec = Jvm.exec) (hZ : Z.Warmed39 s.vm) (eT : T.heap = h) (F : own_Ar Z h a k .long vs) {j : Int32} (h0 : ¬ j < 0) {i : Nat} (hj : j.toNatClampNeg = i) (hv : vs[i]? = some v) {g : JFrame} (hg : g.method = m) {rest : List Value} (hs : g.stack = .int j :: .ref a :: rest) (hd : decode c.code g.pc = .ok (.laload, 1)) :
    ∀ target, Steps p.tables e below (T.setTop { g with pc := g.pc + 1, stack := v :: rest }) target → Steps p.tables e below (T.setTop g) target := by
  obtain ⟨cl, A, q, sz, ln, f⟩ := F
  subst hj
  exact X.laload hx (by rw [eT]; exact A.1) (State.isArrayOf_alike hZ.alike A.2.1) A.2.2 (own_inb sz h0 (List.getElem?_eq_some_iff.mp hv).1) (by rw [sz]; simpa using hv) hg hs hd
theorem own_baload (X : Stand p l e R s m args below meth c T locs cells slots) (hx : p.tables.exec = Jvm.exec) (hZ : Z.Warmed39 s.vm) (eT : T.heap = h) (F : own_Ar Z h a k .byte vs) {j : Int32} (h0 : ¬ j < 0) {i : Nat} (hj : j.toNatClampNeg = i) (hv : vs[i]? = some v) {g : JFrame} (hg : g.method = m) {rest : List Value} (hs : g.stack = .int j :: .ref a :: rest) (hd : decode c.code g.pc = .ok (.baload, 1)) :
    ∀ target, Steps p.tables e below (T.setTop { g with pc := g.pc + 1, stack := v :: rest }) target → Steps p.tables e below (T.setTop g) target := by
  obtain ⟨cl, A, q, sz, ln, f⟩ := F
  subst hj
  exact X.baloadBytes hx (by rw [eT]; exact A.1) (State.isArrayOf_alike hZ.alike A.2.1) A.2.2 (own_inb sz h0 (List.getElem?_eq_some_iff.mp hv).1) (by rw [sz]; simpa using hv) hg hs hd
theorem own_aaload (X : Stand p l e R s m args below meth c T locs cells slots) (hx : p.tables.exec = Jvm.exec) (hZ : Z.Warmed39 s.vm) (eT : T.heap = h) (F : own_Ar Z h a k ty vs) (hty : ty.isReference = true) {j : Int32} (h0 : ¬ j < 0) {i : Nat} (hj : j.toNatClampNeg = i) (hv : vs[i]? = some v) {g : JFrame} (hg : g.method = m) {rest : List Value} (hs : g.stack = .int j :: .ref a :: rest) (hd : decode c.code g.pc = .ok (.aaload, 1)) :
    ∀ target, Steps p.tables e below (T.setTop { g with pc := g.pc + 1, stack := v :: rest }) target → Steps p.tables e below (T.setTop g) target := by
  obtain ⟨cl, A, q, sz, ln, f⟩ := F
  subst hj
  exact X.aaload hx (by rw [eT]; exact A.1) (State.isArrayOf_alike hZ.alike A.2.1) hty A.2.2 (own_inb sz h0 (List.getElem?_eq_some_iff.mp hv).1) (by rw [sz]; simpa using hv) hg hs hd
theorem own_iastore (X : Stand p l e R s m args below meth c T locs cells slots) (hx : p.tables.exec = Jvm.exec) (hZ : Z.Warmed39 s.vm) (eT : T.heap = h) (F : own_Ar Z h a k .int vs) {j x : Int32} (h0 : ¬ j < 0) {i : Nat} (hj : j.toNatClampNeg = i) (hi : i < vs.length) {g : JFrame} (hg : g.method = m) {rest : List Value} (hs : g.stack = .int x :: .int j :: .ref a :: rest) (hd : decode c.code g.pc = .ok (.iastore, 1)) :
    ∃ T' h', Stand p l e R s m args below meth c T' (locs ++ [⟨a, i⟩]) cells slots ∧ T'.heap = h' ∧ Wr h h' a i (.int x) ∧ own_Ar Z h' a k .int (vs.set i (.int x)) ∧ ∀ target, Steps p.tables e below (T'.setTop { g with pc := g.pc + 1, stack := rest }) target → Steps p.tables e below (T.setTop g) target := by
  have F' := F
  obtain ⟨cl, A, q, sz, ln, f⟩ := F
  subst hj
  obtain ⟨T', h', X', e', W, st⟩ := stI X hx hZ eT A (own_inb sz h0 hi) hg hs hd
  exact ⟨T', h', X', e', W, F'.set W rfl, st⟩
theorem own_lastore (X : Stand p l e R s m args below meth c T locs cells slots) (hx : p.tables.exec = Jvm.exec) (hZ : Z.Warmed39 s.vm) (eT : T.heap = h) (F : own_Ar Z h a k .long vs) {j : Int32} {x : Int64} (h0 : ¬ j < 0) {i : Nat} (hj : j.toNatClampNeg = i) (hi : i < vs.length) {g : JFrame} (hg : g.method = m) {rest : List Value} (hs : g.stack = .long x :: .int j :: .ref a :: rest) (hd : decode c.code g.pc = .ok (.lastore, 1)) :
    ∃ T' h', Stand p l e R s m args below meth c T' (locs ++ [⟨a, i⟩]) cells slots ∧ T'.heap = h' ∧ Wr h h' a i (.long x) ∧ own_Ar Z h' a k .long (vs.set i (.long x)) ∧ ∀ target, Steps p.tables e below (T'.setTop { g with pc := g.pc + 1, stack := rest }) target → Steps p.tables e below (T.setTop g) target := by
  have F' := F
  obtain ⟨cl, A, q, sz, ln, f⟩ := F
  subst hj
  obtain ⟨T', h', X', e', W, st⟩ := stJ X hx hZ eT A (own_inb sz h0 hi) hg hs hd
  exact ⟨T', h', X', e', W, F'.set W rfl, st⟩
theorem own_bastore (X : Stand p l e R s m args below meth c T locs cells slots) (hx : p.tables.exec = Jvm.exec) (hZ : Z.Warmed39 s.vm) (eT : T.heap = h) (F : own_Ar Z h a k .byte vs) {j x : Int32} (h0 : ¬ j < 0) {i : Nat} (hj : j.toNatClampNeg = i) (hi : i < vs.length) {g : JFrame} (hg : g.method = m) {rest : List Value} (hs : g.stack = .int x :: .int j :: .ref a :: rest) (hd : decode c.code g.pc = .ok (.bastore, 1)) :
    ∃ T' h', Stand p l e R s m args below meth c T' (locs ++ [⟨a, i⟩]) cells slots ∧ T'.heap = h' ∧ Wr h h' a i (.int x.toInt8.toInt32) ∧ own_Ar Z h' a k .byte (vs.set i (.int x.toInt8.toInt32)) ∧ ∀ target, Steps p.tables e below (T'.setTop { g with pc := g.pc + 1, stack := rest }) target → Steps p.tables e below (T.setTop g) target := by
  have F' := F
  obtain ⟨cl, A, q, sz, ln, f⟩ := F
  subst hj
  obtain ⟨T', h', X', e', W, st⟩ := stB X hx hZ eT A (own_inb sz h0 hi) hg hs hd
  exact ⟨T', h', X', e', W, F'.set W (fits_nar_byte _), st⟩
theorem own_aastore (X : Stand p l e R s m args below meth c T locs cells slots) (hx : p.tables.exec = Jvm.exec) (hZ : Z.Warmed39 s.vm) (eT : T.heap = h) (F : own_Ar Z h a k ty vs) (hty : ty.isReference = true) (hfv : fits ty v = true) (S : Sto Z h a v) {j : Int32} (h0 : ¬ j < 0) {i : Nat} (hj : j.toNatClampNeg = i) (hi : i < vs.length) {g : JFrame} (hg : g.method = m) {rest : List Value} (hs : g.stack = v :: .int j :: .ref a :: rest) (hd : decode c.code g.pc = .ok (.aastore, 1)) :
    ∃ T' h', Stand p l e R s m args below meth c T' (locs ++ [⟨a, i⟩]) cells slots ∧ T'.heap = h' ∧ Wr h h' a i v ∧ own_Ar Z h' a k ty (vs.set i v) ∧ ∀ target, Steps p.tables e below (T'.setTop { g with pc := g.pc + 1, stack := rest }) target → Steps p.tables e below (T.setTop g) target := by
  have F' := F
  obtain ⟨cl, A, q, sz, ln, f⟩ := F
  subst hj
  obtain ⟨T', h', X', e', W, st⟩ := stR X hx hZ eT A (own_inb sz h0 hi) hty S hg hs hd
  exact ⟨T', h', X', e', W, F'.set W hfv, st⟩
theorem own_newarr (X : Stand p l e R s m args below meth c T locs cells slots) (hx : p.tables.exec = Jvm.exec) (hZ : Z.Warmed39 s.vm) {aty : ArrayType} (w : (Cond.arrayClass (newarray.typeOf aty)).before a0 Z = true) (eT : T.heap = h) {g : JFrame} (hg : g.method = m) (hd : decode c.code g.pc = .ok (.newarray aty, 2)) {n : Int32} {rest : List Value} (hs : g.stack = .int n :: rest)
    (hn : ¬ n < 0) {cap : Nat} (hcap : n.toNatClampNeg ≤ cap) (hb : cap * 8 ≤ 536870912) (hc : cells + 1 ≤ R.cells) (hl : slots + cap ≤ R.slots) {ad : String} (had : "[" ++ (newarray.typeOf aty).toString = ad) (hf : fits (newarray.typeOf aty) (defaultValue (newarray.typeOf aty)) = true) (hvs : List.replicate n.toNatClampNeg (defaultValue (newarray.typeOf aty)) = vs) :
    ∃ T' h' cA, Stand p l e R s m args below meth c T' locs (cells + 1) (slots + cap) ∧ T'.heap = h' ∧ Ext h h' ∧ own_Ar Z h' h.size cA (newarray.typeOf aty) vs ∧ Exa Z h' h.size ad ∧
      ∀ target, Steps p.tables e below (T'.setTop { g with pc := g.pc + 2, stack := .ref h.size :: rest }) target → Steps p.tables e below (T.setTop g) target := by
  obtain ⟨T', h', cA, X', e', E, A, Ex, st⟩ := newPE X hx hZ w eT hg hd hs hn hcap hb hc hl had
  exact ⟨T', h', cA, X', e', E, hvs ▸ own_Ar.new A hf, Ex, st⟩
theorem own_anewarr (X : Stand p l e R s m args below meth c T locs cells slots) (hx : p.tables.exec = Jvm.exec) (hZ : Z.Warmed39 s.vm) {own C : String} {index : Nat} (hown : s.vm.findClass own = some m.cls) (w1 : (Cond.classLink own index C).before a0 Z = true) (w2 : (Cond.arrayOver (.object C)).before a0 Z = true) (eT : T.heap = h) {g : JFrame} (hg : g.method = m) (hd : decode c.code g.pc = .ok (.anewarray index, 3)) {n : Int32} {rest : List Value} (hs : g.stack = .int n :: rest)
    (hn : ¬ n < 0) {cap : Nat} (hcap : n.toNatClampNeg ≤ cap) (hb : cap * 8 ≤ 536870912) (hc : cells + 1 ≤ R.cells) (hl : slots + cap ≤ R.slots) (hvs : List.replicate n.toNatClampNeg Value.null = vs) :
    ∃ T' h' cA, Stand p l e R s m args below meth c T' locs (cells + 1) (slots + cap) ∧ T'.heap = h' ∧ Ext h h' ∧ own_Ar Z h' h.size cA (.object C) vs ∧ Ovr Z cA C ∧
      ∀ target, Steps p.tables e below (T'.setTop { g with pc := g.pc + 3, stack := .ref h.size :: rest }) target → Steps p.tables e below (T.setTop g) target := by
  obtain ⟨T', h', cA, X', e', E, A, O, st⟩ := newR X hx hZ hown w1 w2 eT hg hd hs hn hcap hb hc hl
  exact ⟨T', h', cA, X', e', E, hvs ▸ own_Ar.new A rfl, O, st⟩
theorem own_arrlenA (X : Stand p l e R s m args below meth c T locs cells slots) (hx : p.tables.exec = Jvm.exec) (hZ : Z.Warmed39 s.vm) (eT : T.heap = h) {cl : Cell} (A : Arr Z h a cl ty) {n : Int32} (hn : cl.slots.size.toInt32 = n) {g : JFrame} (hg : g.method = m) {rest : List Value} (hs : g.stack = .ref a :: rest) (hd : decode c.code g.pc = .ok (.arraylength, 1)) :
    ∀ target, Steps p.tables e below (T.setTop { g with pc := g.pc + 1, stack := .int n :: rest }) target → Steps p.tables e below (T.setTop g) target := by
  subst hn
  exact X.arraylength hx (by rw [eT]; exact A.1) (State.isArrayOf_alike hZ.alike A.2.1) hg hs hd
theorem own_len0 {args : Array Value} {s : State} {t : Term} {a : Addr} {n : Int32} {ty : FieldType} (ev : t.eval args s none [] s = some (.ref a)) (h6 : (Cond.arrayOf t ty).before args s = true) (h8 : (Cond.eq (.length t) (.int n)).before args s = true) : ∃ c : Cell, Arr s s.heap a c ty ∧ c.slots.size.toInt32 = n := by
  obtain ⟨c, A⟩ := Arr.start ev (Cond.before_iff.mp h6)
  have h8 := Cond.before_iff.mp h8
  obtain ⟨x, y, e1, -⟩ := cmp_v (Or.inl h8)
  obtain ⟨b, cell, q1, q2, rfl⟩ := Term.length_spec e1
  cases ev.symm.trans q1
  cases (Arr.fin (State.Warmed39.refl s).alike A).symm.trans q2
  exact ⟨_, A, gotT (Cond.eq_ints e1 (Term.int_eval n)) h8⟩
end OwnArrSteps
/-! bytes -/
abbrev own_bs (l : List Int32) : List Value := l.map Value.int
theorem own_cloneB {p : Program} {l : Launch} {e : Env} {R : Room} {s : State} {m : MethodId} {args : Array Value} {below : List Frame} {meth : Method} {c : Code} {T : State} {locs : List Loc} {cells slots : Nat} {Z : State} {a0 : Array Value} {h : Heap} {a : Addr} {k : ClassId} {vs : List Value}
    (X : Stand p l e R s m args below meth c T locs cells slots) (hx : p.tables.exec = Jvm.exec) (hZ : Z.Warmed39 s.vm) {own : String} {index : Nat} (hown : s.vm.findClass own = some m.cls)
    (w1 : (Cond.methodLink own index ⟨"[B", "clone", "()Ljava/lang/Object;"⟩).before a0 Z = true) (w2 : (Cond.sameMethod "[B" "java/lang/Object" "clone" "()Ljava/lang/Object;").before a0 Z = true) (w3 : (Cond.native ⟨"java/lang/Object", "clone", "()Ljava/lang/Object;"⟩).before a0 Z = true)
    (w4 : (Cond.instanceMethod ⟨"java/lang/Object", "clone", "()Ljava/lang/Object;"⟩).before a0 Z = true) (w5 : (Cond.selects "[B" ⟨"[B", "clone", "()Ljava/lang/Object;"⟩ ⟨"java/lang/Object", "clone", "()Ljava/lang/Object;"⟩).before a0 Z = true) (w6 : (Cond.castable "[B" "java/lang/Cloneable").before a0 Z = true)
    (eT : T.heap = h) (A : own_Ar Z h a k .byte vs) (E : Exa Z h a "[B") {g : JFrame} (hg : g.method = m) (hsize : g.locals.size = c.maxLocals) {rest : List Value} (hs : g.stack = .ref a :: rest) (hd : decode c.code g.pc = .ok (.invokevirtual index, 3))
    (hf : 1 ≤ R.frames) {W cap : Nat} (hW : 2 * g.monitorRoom + (rest.map fun v => v.category).sum ≤ W) (hl : W + 14 ≤ R.locals) (hcap : vs.length ≤ cap) (hc : cells + 1 ≤ R.cells) (hsl : slots + cap ≤ R.slots) :
    ∃ T' h', Stand p l e R s m args below meth c T' locs (cells + 1) (slots + cap) ∧ T'.heap = h' ∧ Ext h h' ∧ own_Ar Z h' h.size k .byte vs ∧ Exa Z h' h.size "[B" ∧
      ∀ target, Steps p.tables e below (T'.setTop { g with pc := g.pc + 3, stack := .ref h.size :: rest }) target → Steps p.tables e below (T.setTop g) target := by
  obtain ⟨cl, Ar, q, sz, ln, f⟩ := A
  have hF : FitC Z cl := fitC_of Ar fun i hi v hv => by
    rw [sz] at hv
    exact f v (List.mem_of_getElem? (by simpa using hv))
  obtain ⟨T', h', X', e', E', A', Ex, st⟩ := cloneA X hx hZ hown w1 w2 w3 w4 w5 w6 eT Ar E hF hg hsize hs hd hf (cap := cap) hW hl (by rw [sz]; simpa using hcap) hc hsl
  exact ⟨T', h', X', e', E', ⟨_, A', q, sz, ln, f⟩, Ex, st⟩
theorem own_pd0 : parseMethodDescriptor "(II)I" = some ⟨[.int, .int], some .int⟩ := by decide +kernel
def own_min (a b : Int32) : Int32 := if b < a then b else a
theorem dmi_0 : decode jdk_29_method_69_code 0 = .ok (.iload_n 0, 1) := by decide +kernel
theorem dmi_1 : decode jdk_29_method_69_code 1 = .ok (.iload_n 1, 1) := by decide +kernel
theorem dmi_2 : decode jdk_29_method_69_code 2 = .ok (.if_icmp .gt 7, 3) := by decide +kernel
theorem dmi_5 : decode jdk_29_method_69_code 5 = .ok (.iload_n 0, 1) := by decide +kernel
theorem dmi_6 : decode jdk_29_method_69_code 6 = .ok (.goto 4, 3) := by decide +kernel
theorem dmi_9 : decode jdk_29_method_69_code 9 = .ok (.iload_n 1, 1) := by decide +kernel
theorem dmi_10 : decode jdk_29_method_69_code 10 = .ok (.ireturn, 1) := by decide +kernel
theorem own_efmi (m : MethodId) (p1 p2 : Int32) : entryFrame m #[(.int p1), (.int p2)] 2 = mkF m 0 #[.val (.int p1), .val (.int p2)] [] := by first | (simp [entryFrame, mkF, argsToLocals, Value.category]; done) | rfl
set_option maxRecDepth 65536 in
set_option maxHeartbeats 40000000 in
theorem own_rmmi (l : Launch) (Z : State) (a0 : Array Value) (hw : ∀ d ∈ tables_1, d.before a0 Z = true) (p1 p2 : Int32) (h0 : Heap)  :
    own_C l Z (⟨"java/lang/Math", "min", "(II)I"⟩ : MethodName) jdk_29_method_69_code 2 (some .int) [] ({ frames := 0, cells := 0, slots := 0, locals := 0 } : Room) #[(.int p1), (.int p2)] h0 (fun v h L => v = some (.int (own_min p1 p2)) ∧ L = [] ∧ h = h0) := by
  refine own_body (Jvm.Free.JP.mathPlain rfl (by decide +kernel)) fun p e s m below meth c s₁ hx hby hml hret hlk hown hnm hZ X0 e0 => ?_
  rw [own_efmi m p1 p2]
  refine own_go (U' := s₁.setTop (mkF m 1 #[.val (.int p1), .val (.int p2)] [(.int p1)])) (fun t k => XS.iloadN X0.here hx rfl (hb hby dmi_0) rfl k) ?_
  refine own_go (U' := s₁.setTop (mkF m 2 #[.val (.int p1), .val (.int p2)] [(.int p2), (.int p1)])) (fun t k => XS.iloadN X0.here hx rfl (hb hby dmi_1) rfl k) ?_
  by_cases hc2 : p2 < p1
  · refine own_go (U' := s₁.setTop (mkF m 9 #[.val (.int p1), .val (.int p2)] [])) (fun t k => XS.icmpYes X0.here hx rfl (pc0 := 2) (pc' := 9) rfl (hb hby dmi_2) rfl (tlt hc2).2.2.1 (by decide) (by decide) k) ?_
    refine own_go (U' := s₁.setTop (mkF m 10 #[.val (.int p1), .val (.int p2)] [(.int p2)])) (fun t k => XS.iloadN X0.here hx rfl (hb hby dmi_9) rfl k) ?_
    refine own_retI X0 hx hret hlk (hb hby dmi_10) ?_ (by decide) (by decide)
    refine ⟨?_, rfl, e0⟩
    rw [own_min, if_pos hc2]
  · refine own_go (U' := s₁.setTop (mkF m 5 #[.val (.int p1), .val (.int p2)] [])) (fun t k => XS.icmpNo X0.here hx rfl (hb hby dmi_2) rfl (flt hc2).2.2.1 k) ?_
    refine own_go (U' := s₁.setTop (mkF m 6 #[.val (.int p1), .val (.int p2)] [(.int p1)])) (fun t k => XS.iloadN X0.here hx rfl (hb hby dmi_5) rfl k) ?_
    refine own_go (U' := s₁.setTop (mkF m 10 #[.val (.int p1), .val (.int p2)] [(.int p1)])) (fun t k => XS.goto X0.here hx rfl (pc0 := 6) (pc' := 10) rfl (hb hby dmi_6) (by decide) (by decide) k) ?_
    refine own_retI X0 hx hret hlk (hb hby dmi_10) ?_ (by decide) (by decide)
    refine ⟨?_, rfl, e0⟩
    rw [own_min, if_neg hc2]
theorem own_ofn {i : Nat} (h : i < 100) : ¬ Int32.ofNat i < 0 ∧ (Int32.ofNat i).toNatClampNeg = i ∧ (Int32.ofNat i).toInt = i := by
  have e : (Int32.ofNat i).toInt = i := Int32.toInt_ofNat_of_lt (by omega)
  refine ⟨fun q => ?_, by rw [Int32.toNatClampNeg, e]; rfl, e⟩
  rw [Int32.lt_iff_toInt_lt, e] at q
  have : (0 : Int32).toInt = 0 := rfl
  omega
theorem own_lt {i j : Nat} (hi : i < 100) (hj : j < 100) : Int32.ofNat i < Int32.ofNat j ↔ i < j := by
  rw [Int32.lt_iff_toInt_lt, (own_ofn hi).2.2, (own_ofn hj).2.2]; omega
theorem own_eqn {i j : Nat} (hi : i < 100) (hj : j < 100) : Int32.ofNat i = Int32.ofNat j ↔ i = j := by
  rw [← Int32.toInt_inj, (own_ofn hi).2.2, (own_ofn hj).2.2]; omega
theorem own_cpB {p : Program} {l : Launch} {e : Env} {R : Room} {s : State} {m : MethodId} {args : Array Value} {below : List Frame} {meth : Method} {c : Code} {T : State} {locs : List Loc} {cells slots : Nat} {Z : State} {a0 : Array Value} {h : Heap} {a b : Addr} {k k' : ClassId} {vs vd : List Value}
    (X : Stand p l e R s m args below meth c T locs cells slots) (hx : p.tables.exec = Jvm.exec) (hZ : Z.Warmed39 s.vm) {own : String} {index : Nat} (hown : s.vm.findClass own = some m.cls)
    (w1 : (Cond.methodLink own index Jvm.Stand.acN).before a0 Z = true) (w2 : (Cond.native Jvm.Stand.acN).before a0 Z = true) (w3 : (Cond.static Jvm.Stand.acN).before a0 Z = true) (w4 : (Cond.initialized "java/lang/System").before a0 Z = true) (eT : T.heap = h)
    (A : own_Ar Z h a k .byte vs) (B : own_Ar Z h b k' .byte vd) {n : Nat} (hn : n < 100) (h1 : n ≤ vs.length) (h2 : n = vd.length) (h3 : vs.length < 100) {n0 : Nat} (N : Fr n0 locs) (ge : n0 ≤ b)
    {g : JFrame} (hg : g.method = m) (hsize : g.locals.size = c.maxLocals) {rest : List Value} (hs : g.stack = .int (Int32.ofNat n) :: .int 0 :: .ref b :: .int 0 :: .ref a :: rest) (hd : decode c.code g.pc = .ok (.invokestatic index, 3))
    (hf : 1 ≤ R.frames) {W : Nat} (hW : 2 * g.monitorRoom + (rest.map fun v => v.category).sum ≤ W) (hlo : W + (nativeFrameWords "java/lang/System" "arraycopy" 5 + 11) ≤ R.locals) :
    ∃ T' h' L, Stand p l e R s m args below meth c T' L cells slots ∧ T'.heap = h' ∧ Fr n0 L ∧ Keep h h' [b] ∧ own_Ar Z h' b k' .byte (vs.take n) ∧
      ∀ target, Steps p.tables e below (T'.setTop { g with pc := g.pc + 3, stack := rest }) target → Steps p.tables e below (T.setTop g) target := by
  have z0 : (0 : Int32).toNatClampNeg = 0 := rfl
  have on := own_ofn hn
  have ov := own_ofn h3
  have od := own_ofn (i := vd.length) (by omega)
  have eus : vs.take n = (List.range n).map fun i => vs.getD (0 + i) (.int 0) := by
    apply List.ext_getElem
    · simp; omega
    · intro i hi1 hi2
      simp only [List.length_take] at hi1
      have : i < vs.length := by omega
      simp [List.getD, List.getElem?_eq_getElem this]
  obtain ⟨T', h', L, X', e', N', K', B', st⟩ := cpA X hx hZ hown w1 w2 w3 w4 eT (A.arv (.int 0)) (B.arv (.int 0)) (us := vs.take n) (sp := 0) (dp := 0) (nn := Int32.ofNat n) (Or.inl ⟨rfl, rfl⟩) (by decide) (by decide) on.1 (by rw [z0, on.2.1, ov.2.1]; omega) (by rw [z0, on.2.1, od.2.1]; omega) (by rw [z0, on.2.1]; exact eus) (by rw [z0, on.2.1]; omega) N ge hg hsize hs hd hf hW hlo
  refine ⟨T', h', L, X', e', N', K', ?_, st⟩
  have B2 := own_Ar.of_arv B' (by rw [z0, on.2.1, od.2.1]; simp; omega)
  rw [z0, on.2.1] at B2
  simpa [h2, List.drop_length] using B2
theorem own_pd1 : parseMethodDescriptor "([BI)[B" = some ⟨[(.array .byte), .int], some (.array .byte)⟩ := by decide +kernel
theorem dco_0 : decode jdk_65_method_121_code 0 = .ok (.iload_n 1, 1) := by decide +kernel
theorem dco_1 : decode jdk_65_method_121_code 1 = .ok (.aload_n 0, 1) := by decide +kernel
theorem dco_2 : decode jdk_65_method_121_code 2 = .ok (.arraylength, 1) := by decide +kernel
theorem dco_3 : decode jdk_65_method_121_code 3 = .ok (.if_icmp .ne 11, 3) := by decide +kernel
theorem dco_6 : decode jdk_65_method_121_code 6 = .ok (.aload_n 0, 1) := by decide +kernel
theorem dco_7 : decode jdk_65_method_121_code 7 = .ok (.invokevirtual 310, 3) := by decide +kernel
theorem dco_10 : decode jdk_65_method_121_code 10 = .ok (.checkcast 311, 3) := by decide +kernel
theorem dco_13 : decode jdk_65_method_121_code 13 = .ok (.areturn, 1) := by decide +kernel
theorem dco_14 : decode jdk_65_method_121_code 14 = .ok (.iload_n 1, 1) := by decide +kernel
theorem dco_15 : decode jdk_65_method_121_code 15 = .ok (.newarray .byte, 2) := by decide +kernel
theorem dco_17 : decode jdk_65_method_121_code 17 = .ok (.astore_n 2, 1) := by decide +kernel
theorem dco_18 : decode jdk_65_method_121_code 18 = .ok (.aload_n 0, 1) := by decide +kernel
theorem dco_19 : decode jdk_65_method_121_code 19 = .ok (.iconst 0, 1) := by decide +kernel
theorem dco_20 : decode jdk_65_method_121_code 20 = .ok (.aload_n 2, 1) := by decide +kernel
theorem dco_21 : decode jdk_65_method_121_code 21 = .ok (.iconst 0, 1) := by decide +kernel
theorem dco_22 : decode jdk_65_method_121_code 22 = .ok (.aload_n 0, 1) := by decide +kernel
theorem dco_23 : decode jdk_65_method_121_code 23 = .ok (.arraylength, 1) := by decide +kernel
theorem dco_24 : decode jdk_65_method_121_code 24 = .ok (.iload_n 1, 1) := by decide +kernel
theorem dco_25 : decode jdk_65_method_121_code 25 = .ok (.invokestatic 304, 3) := by decide +kernel
theorem dco_28 : decode jdk_65_method_121_code 28 = .ok (.invokestatic 150, 3) := by decide +kernel
theorem dco_31 : decode jdk_65_method_121_code 31 = .ok (.aload_n 2, 1) := by decide +kernel
theorem dco_32 : decode jdk_65_method_121_code 32 = .ok (.areturn, 1) := by decide +kernel
theorem own_pn0 : plainName "java/util/Arrays" = true := by first | (simp [plainName, overriddenIn]; done) | decide +kernel
theorem own_efco (m : MethodId) (a : Addr) (p1 : Int32) : entryFrame m #[(.ref a), (.int p1)] 3 = mkF m 0 #[.val (.ref a), .val (.int p1), .unset] [] := by first | (simp [entryFrame, mkF, argsToLocals, Value.category]; done) | rfl
set_option maxRecDepth 65536 in
set_option maxHeartbeats 40000000 in
theorem own_rmco (l : Launch) (Z : State) (a0 : Array Value) (hw : ∀ d ∈ tables_1, d.before a0 Z = true) (a : Addr) (p1 : Int32) (h0 : Heap) (n0 : Nat) (n : Nat) (bs : List Int32) (ka : ClassId) (O : Old Z n0 h0) (V_a : own_Ar Z h0 a ka .byte (own_bs bs)) (E_a : Exa Z h0 a "[B") (hn0 : 0 < n) (hn : n ≤ bs.length) (hb3 : bs.length ≤ 3) (hp : p1 = Int32.ofNat n) :
    own_C l Z (⟨"java/util/Arrays", "copyOf", "([BI)[B"⟩ : MethodName) jdk_65_method_121_code 3 (some (.array .byte)) [] ({ frames := 1, cells := 1, slots := 3, locals := 40 } : Room) #[(.ref a), (.int p1)] h0 (fun v h L => ∃ x kx, v = some (.ref x) ∧ Fr n0 L ∧ Keep h0 h [] ∧ h0.size ≤ x ∧ n0 ≤ x ∧ own_Ar Z h x kx .byte (own_bs (bs.take n)) ∧ Exa Z h x "[B") := by
  refine own_body (plainFor_of_name own_pn0) fun p e s m below meth c s₁ hx hby hml hret hlk hown hnm hZ X0 e0 => ?_
  rw [own_efco m a p1]
  have N0 := Fr.nil n0
  have K := Keep.refl h0 []
  subst hp
  have on := own_ofn (i := n) (by omega)
  refine own_go (U' := s₁.setTop (mkF m 1 #[.val (.ref a), .val (.int (Int32.ofNat n)), .unset] [(.int (Int32.ofNat n))])) (fun t k => XS.iloadN X0.here hx rfl (hb hby dco_0) rfl k) ?_
  refine own_go (U' := s₁.setTop (mkF m 2 #[.val (.ref a), .val (.int (Int32.ofNat n)), .unset] [(.ref a), (.int (Int32.ofNat n))])) (fun t k => XS.aloadN X0.here hx rfl (hb hby dco_1) rfl rfl k) ?_
  refine own_go (U' := s₁.setTop (mkF m 3 #[.val (.ref a), .val (.int (Int32.ofNat n)), .unset] [(.int (Int32.ofNat bs.length)), (.int (Int32.ofNat n))])) (own_arrlen X0 hx hZ e0 V_a (n := (Int32.ofNat bs.length)) (by simp [own_bs]) (g := (mkF m 2 #[.val (.ref a), .val (.int (Int32.ofNat n)), .unset] [(.ref a), (.int (Int32.ofNat n))])) rfl rfl (hb hby dco_2)) ?_
  by_cases hq : (Int32.ofNat n) = (Int32.ofNat bs.length)
  · refine own_go (U' := s₁.setTop (mkF m 6 #[.val (.ref a), .val (.int (Int32.ofNat n)), .unset] [])) (fun t k => XS.icmpNo X0.here hx rfl (hb hby dco_3) rfl (teq hq).2 k) ?_
    have hq := (own_eqn (by omega) (by omega)).mp hq
    refine own_go (U' := s₁.setTop (mkF m 7 #[.val (.ref a), .val (.int (Int32.ofNat n)), .unset] [(.ref a)])) (fun t k => XS.aloadN X0.here hx rfl (hb hby dco_6) rfl rfl k) ?_
    obtain ⟨T1, h1, X1, e1, E1, A1, Y1, st1⟩ := own_cloneB X0 hx hZ hown (hw _ (List.mem_of_getElem? (i := 53) rfl)) (hw _ (List.mem_of_getElem? (i := 16) rfl)) (hw _ (List.mem_of_getElem? (i := 20) rfl)) (hw _ (List.mem_of_getElem? (i := 18) rfl)) (hw _ (List.mem_of_getElem? (i := 19) rfl)) (hw _ (List.mem_of_getElem? (i := 21) rfl)) e0 V_a E_a (g := (mkF m 7 #[.val (.ref a), .val (.int (Int32.ofNat n)), .unset] [(.ref a)])) rfl (by rw [hml]; rfl) rfl (hb hby dco_7) (by decide) (W := 0) (cap := 3) (by show 2 * 0 + _ ≤ _; exact Nat.le_of_eq rfl) (by decide) (by simpa [own_bs] using hb3) (by decide) (by decide)
    obtain ⟨b1, g1⟩ : ∃ z, z = h0.size := ⟨_, rfl⟩
    rw [← g1] at A1 Y1 st1
    have ne_a_b1 : a ≠ b1 := Nat.ne_of_lt (Nat.lt_of_lt_of_eq V_a.lt g1.symm)
    have g_b1 : n0 ≤ b1 := Nat.le_trans (Nat.le_trans (Nat.le_of_eq O.1.symm) O.2.1) (Nat.le_of_eq g1.symm)
    have sz_b1 : h0.size ≤ b1 := Nat.le_trans K.1 (Nat.le_of_eq g1.symm)
    have K := K.ext E1
    have O := O.ext E1
    have V_a := V_a.ext E1
    have E_a := E_a.ext E1
    have V_b1 := A1
    have E_b1 := Y1
    refine own_go (U' := T1.setTop (mkF m 10 #[.val (.ref a), .val (.int (Int32.ofNat n)), .unset] [(.ref b1)])) st1 ?_
    obtain ⟨T2, X2, e2, st2⟩ := castY X1 hx hZ hown (hw _ (List.mem_of_getElem? (i := 54) rfl)) e1 (Ins.self E_b1) (g := (mkF m 10 #[.val (.ref a), .val (.int (Int32.ofNat n)), .unset] [(.ref b1)])) rfl rfl (hb hby dco_10)
    refine own_go (U' := T2.setTop (mkF m 13 #[.val (.ref a), .val (.int (Int32.ofNat n)), .unset] [(.ref b1)])) st2 ?_
    refine own_retA X2 hx (t := (.array .byte)) hret rfl hlk rfl (hb hby dco_13) ?_ (by decide) (by decide)
    rw [e2, hq, List.take_length]
    exact ⟨_, _, rfl, N0, K, sz_b1, g_b1, V_b1, E_b1⟩
  · refine own_go (U' := s₁.setTop (mkF m 14 #[.val (.ref a), .val (.int (Int32.ofNat n)), .unset] [])) (fun t k => XS.icmpYes X0.here hx rfl (pc0 := 3) (pc' := 14) rfl (hb hby dco_3) rfl (feq hq).2 (by decide) (by decide) k) ?_
    refine own_go (U' := s₁.setTop (mkF m 15 #[.val (.ref a), .val (.int (Int32.ofNat n)), .unset] [(.int (Int32.ofNat n))])) (fun t k => XS.iloadN X0.here hx rfl (hb hby dco_14) rfl k) ?_
    obtain ⟨T3, h3, k3, X3, e3, E3, A3, Y3, st3⟩ := own_newarr X0 hx hZ (hw _ (List.mem_of_getElem? (i := 4) rfl)) e0 (g := (mkF m 15 #[.val (.ref a), .val (.int (Int32.ofNat n)), .unset] [(.int (Int32.ofNat n))])) rfl (hb hby dco_15) rfl on.1 (cap := 3) (by rw [on.2.1]; omega) (by decide) (by decide) (by decide) (ad := "[B") (by decide) rfl (vs := (own_bs (List.replicate n 0))) (by rw [on.2.1, own_bs, List.map_replicate]; rfl)
    obtain ⟨b3, g3⟩ : ∃ z, z = h0.size := ⟨_, rfl⟩
    rw [← g3] at A3 Y3 st3
    have ne_a_b3 : a ≠ b3 := Nat.ne_of_lt (Nat.lt_of_lt_of_eq V_a.lt g3.symm)
    have g_b3 : n0 ≤ b3 := Nat.le_trans (Nat.le_trans (Nat.le_of_eq O.1.symm) O.2.1) (Nat.le_of_eq g3.symm)
    have sz_b3 : h0.size ≤ b3 := Nat.le_trans K.1 (Nat.le_of_eq g3.symm)
    have K := K.ext E3
    have O := O.ext E3
    have V_a := V_a.ext E3
    have E_a := E_a.ext E3
    have V_b3 : own_Ar Z h3 b3 k3 .byte (own_bs (List.replicate n 0)) := A3
    have E_b3 := Y3
    refine own_go (U' := T3.setTop (mkF m 17 #[.val (.ref a), .val (.int (Int32.ofNat n)), .unset] [(.ref b3)])) st3 ?_
    refine own_go (U' := T3.setTop (mkF m 18 #[.val (.ref a), .val (.int (Int32.ofNat n)), .val (.ref b3)] [])) (fun t k => XS.astoreN X3.here hx rfl (hb hby dco_17) rfl rfl (l' := #[.val (.ref a), .val (.int (Int32.ofNat n)), .val (.ref b3)]) rfl k) ?_
    refine own_go (U' := T3.setTop (mkF m 19 #[.val (.ref a), .val (.int (Int32.ofNat n)), .val (.ref b3)] [(.ref a)])) (fun t k => XS.aloadN X3.here hx rfl (hb hby dco_18) rfl rfl k) ?_
    refine own_go (U' := T3.setTop (mkF m 20 #[.val (.ref a), .val (.int (Int32.ofNat n)), .val (.ref b3)] [(.int (0 : Int32)), (.ref a)])) (fun t k => XS.iconst X3.here hx rfl (hb hby dco_19) k) ?_
    refine own_go (U' := T3.setTop (mkF m 21 #[.val (.ref a), .val (.int (Int32.ofNat n)), .val (.ref b3)] [(.ref b3), (.int (0 : Int32)), (.ref a)])) (fun t k => XS.aloadN X3.here hx rfl (hb hby dco_20) rfl rfl k) ?_
    refine own_go (U' := T3.setTop (mkF m 22 #[.val (.ref a), .val (.int (Int32.ofNat n)), .val (.ref b3)] [(.int (0 : Int32)), (.ref b3), (.int (0 : Int32)), (.ref a)])) (fun t k => XS.iconst X3.here hx rfl (hb hby dco_21) k) ?_
    refine own_go (U' := T3.setTop (mkF m 23 #[.val (.ref a), .val (.int (Int32.ofNat n)), .val (.ref b3)] [(.ref a), (.int (0 : Int32)), (.ref b3), (.int (0 : Int32)), (.ref a)])) (fun t k => XS.aloadN X3.here hx rfl (hb hby dco_22) rfl rfl k) ?_
    refine own_go (U' := T3.setTop (mkF m 24 #[.val (.ref a), .val (.int (Int32.ofNat n)), .val (.ref b3)] [(.int (Int32.ofNat bs.length)), (.int (0 : Int32)), (.ref b3), (.int (0 : Int32)), (.ref a)])) (own_arrlen X3 hx hZ e3 V_a (n := (Int32.ofNat bs.length)) (by simp [own_bs]) (g := (mkF m 23 #[.val (.ref a), .val (.int (Int32.ofNat n)), .val (.ref b3)] [(.ref a), (.int (0 : Int32)), (.ref b3), (.int (0 : Int32)), (.ref a)])) rfl rfl (hb hby dco_23)) ?_
    refine own_go (U' := T3.setTop (mkF m 25 #[.val (.ref a), .val (.int (Int32.ofNat n)), .val (.ref b3)] [(.int (Int32.ofNat n)), (.int (Int32.ofNat bs.length)), (.int (0 : Int32)), (.ref b3), (.int (0 : Int32)), (.ref a)])) (fun t k => XS.iloadN X3.here hx rfl (hb hby dco_24) rfl k) ?_
    obtain ⟨v4, T4, h4, L4, e4, X4, hQ4, st4⟩ := own_callS X3 hx hZ (y := (⟨"java/lang/Math", "min", "(II)I"⟩ : MethodName)) hown (hw _ (List.mem_of_getElem? (i := 55) rfl)) (hw _ (List.mem_of_getElem? (i := 56) rfl)) (hw _ (List.mem_of_getElem? (i := 57) rfl)) (hw _ (List.mem_of_getElem? (i := 58) rfl)) (by decide) (own_rmmi l Z a0 hw _ _ h3) (W := 4) (by decide) (by decide) (g := (mkF m 25 #[.val (.ref a), .val (.int (Int32.ofNat n)), .val (.ref b3)] [(.int (Int32.ofNat n)), (.int (Int32.ofNat bs.length)), (.int (0 : Int32)), (.ref b3), (.int (0 : Int32)), (.ref a)])) rfl (by rw [hml]; rfl) (argsL := [(.int (Int32.ofNat bs.length)), (.int (Int32.ofNat n))]) (rest := [(.int (0 : Int32)), (.ref b3), (.int (0 : Int32)), (.ref a)]) (lenOf own_pd0 rfl) rfl rfl (by show 2 * 0 + _ ≤ _; exact Nat.le_of_eq rfl) (hb hby dco_25) e3 (by decide) (by decide)
    have hmn : own_min (Int32.ofNat bs.length) (Int32.ofNat n) = Int32.ofNat n := by
      rw [own_min]; split
      · rfl
      · rename_i q; rw [own_lt (by omega) (by omega)] at q; rw [own_eqn (by omega) (by omega)]; omega
    rw [hmn] at hQ4
    obtain ⟨rfl, rfl, eh4⟩ := hQ4
    have e4 := e4.trans eh4
    rw [List.append_nil] at X4
    refine own_go (U' := T4.setTop (mkF m 28 #[.val (.ref a), .val (.int (Int32.ofNat n)), .val (.ref b3)] [(.int (Int32.ofNat n)), (.int (0 : Int32)), (.ref b3), (.int (0 : Int32)), (.ref a)])) st4 ?_
    obtain ⟨T5, h5, L5, X5, e5, Nq5, Kq, V_b3, st5⟩ := own_cpB X4 hx hZ hown (hw _ (List.mem_of_getElem? (i := 59) rfl)) (hw _ (List.mem_of_getElem? (i := 62) rfl)) (hw _ (List.mem_of_getElem? (i := 60) rfl)) (hw _ (List.mem_of_getElem? (i := 61) rfl)) e4 V_a V_b3 (n := n) (by omega) (by simpa [own_bs] using hn) (by simp [own_bs]) (by simp [own_bs]; omega) N0 g_b3 (g := (mkF m 28 #[.val (.ref a), .val (.int (Int32.ofNat n)), .val (.ref b3)] [(.int (Int32.ofNat n)), (.int (0 : Int32)), (.ref b3), (.int (0 : Int32)), (.ref a)])) rfl (by rw [hml]; rfl) rfl (hb hby dco_28) (by decide) (W := 0) (by show 2 * 0 + _ ≤ _; exact Nat.le_of_eq rfl) (by decide)
    have K := K.trans Kq (allS (Or.inr sz_b3) all0)
    have O := O.keep Kq (allS g_b3 all0)
    have V_a := V_a.keep Kq (ninS ne_a_b3 nin0)
    have E_a := E_a.keep Kq
    have E_b3 := E_b3.keep Kq
    refine own_go (U' := T5.setTop (mkF m 31 #[.val (.ref a), .val (.int (Int32.ofNat n)), .val (.ref b3)] [])) st5 ?_
    refine own_go (U' := T5.setTop (mkF m 32 #[.val (.ref a), .val (.int (Int32.ofNat n)), .val (.ref b3)] [(.ref b3)])) (fun t k => XS.aloadN X5.here hx rfl (hb hby dco_31) rfl rfl k) ?_
    refine own_retA X5 hx (t := (.array .byte)) hret rfl hlk rfl (hb hby dco_32) ?_ (by decide) (by decide)
    rw [e5]
    exact ⟨_, _, rfl, Nq5, K, sz_b3, g_b3, (by rw [own_bs, List.map_take]; exact V_b3), E_b3⟩
theorem own_pd2 : parseMethodDescriptor "([B)[B" = some ⟨[(.array .byte)], some (.array .byte)⟩ := by decide +kernel
theorem deo_0 : decode prog_39_method_13_code 0 = .ok (.aload_n 0, 1) := by decide +kernel
theorem deo_1 : decode prog_39_method_13_code 1 = .ok (.arraylength, 1) := by decide +kernel
theorem deo_2 : decode prog_39_method_13_code 2 = .ok (.iconst 1, 1) := by decide +kernel
theorem deo_3 : decode prog_39_method_13_code 3 = .ok (.isub, 1) := by decide +kernel
theorem deo_4 : decode prog_39_method_13_code 4 = .ok (.istore_n 1, 1) := by decide +kernel
theorem deo_5 : decode prog_39_method_13_code 5 = .ok (.iload_n 1, 1) := by decide +kernel
theorem deo_6 : decode prog_39_method_13_code 6 = .ok (.ifCond .lt 34, 3) := by decide +kernel
theorem deo_9 : decode prog_39_method_13_code 9 = .ok (.aload_n 0, 1) := by decide +kernel
theorem deo_10 : decode prog_39_method_13_code 10 = .ok (.iload_n 1, 1) := by decide +kernel
theorem deo_11 : decode prog_39_method_13_code 11 = .ok (.baload, 1) := by decide +kernel
theorem deo_12 : decode prog_39_method_13_code 12 = .ok (.iconst (-1), 1) := by decide +kernel
theorem deo_13 : decode prog_39_method_13_code 13 = .ok (.if_icmp .eq 21, 3) := by decide +kernel
theorem deo_16 : decode prog_39_method_13_code 16 = .ok (.aload_n 0, 1) := by decide +kernel
theorem deo_17 : decode prog_39_method_13_code 17 = .ok (.iload_n 1, 1) := by decide +kernel
theorem deo_18 : decode prog_39_method_13_code 18 = .ok (.iconst 1, 1) := by decide +kernel
theorem deo_19 : decode prog_39_method_13_code 19 = .ok (.iadd, 1) := by decide +kernel
theorem deo_20 : decode prog_39_method_13_code 20 = .ok (.invokestatic 42, 3) := by decide +kernel
theorem deo_23 : decode prog_39_method_13_code 23 = .ok (.astore_n 2, 1) := by decide +kernel
theorem deo_24 : decode prog_39_method_13_code 24 = .ok (.aload_n 2, 1) := by decide +kernel
theorem deo_25 : decode prog_39_method_13_code 25 = .ok (.iload_n 1, 1) := by decide +kernel
theorem deo_26 : decode prog_39_method_13_code 26 = .ok (.dup2, 1) := by decide +kernel
theorem deo_27 : decode prog_39_method_13_code 27 = .ok (.baload, 1) := by decide +kernel
theorem deo_28 : decode prog_39_method_13_code 28 = .ok (.iconst 1, 1) := by decide +kernel
theorem deo_29 : decode prog_39_method_13_code 29 = .ok (.iadd, 1) := by decide +kernel
theorem deo_30 : decode prog_39_method_13_code 30 = .ok (.i2b, 1) := by decide +kernel
theorem deo_31 : decode prog_39_method_13_code 31 = .ok (.bastore, 1) := by decide +kernel
theorem deo_32 : decode prog_39_method_13_code 32 = .ok (.aload_n 2, 1) := by decide +kernel
theorem deo_33 : decode prog_39_method_13_code 33 = .ok (.areturn, 1) := by decide +kernel
theorem deo_34 : decode prog_39_method_13_code 34 = .ok (.iinc 1 (-1), 3) := by decide +kernel
theorem deo_37 : decode prog_39_method_13_code 37 = .ok (.goto (-32), 3) := by decide +kernel
theorem deo_40 : decode prog_39_method_13_code 40 = .ok (.aconst_null, 1) := by decide +kernel
theorem deo_41 : decode prog_39_method_13_code 41 = .ok (.areturn, 1) := by decide +kernel
def own_eop (bs : List Int32) : Nat → Option (List Int32)
  | 0 => none
  | k + 1 => if bs.getD k 0 = (-1 : Int32) then own_eop bs k else some (bs.take k ++ [((bs.getD k 0) + (1 : Int32)).toInt8.toInt32])
theorem own_up1 (k : Nat) : Int32.ofNat (k + 1) - (1 : Int32) = Int32.ofNat k := by
  rw [own_succ, Int32.add_sub_cancel]
theorem own_dn1 (k : Nat) : Int32.ofNat k - (1 : Int32) = Int32.ofNat k + (-1 : Int32) := by
  rw [Int32.sub_eq_add_neg]
theorem own_i8 (x : Int32) : x.toInt8.toInt32.toInt8.toInt32 = x.toInt8.toInt32 := by
  rw [Int8.toInt8_toInt32]
def own_QE (Z : State) (n0 : Nat) (h0 : Heap) (o : Option (List Int32)) (v : Option Value) (h : Heap) (L : List Loc) : Prop := match o with | none => v = some .null ∧ Fr n0 L ∧ Keep h0 h [] | some l => ∃ x kx, v = some (.ref x) ∧ Fr n0 L ∧ Keep h0 h [] ∧ h0.size ≤ x ∧ n0 ≤ x ∧ own_Ar Z h x kx .byte (own_bs l) ∧ Exa Z h x "[B"
set_option maxRecDepth 65536 in
set_option maxHeartbeats 40000000 in
theorem own_lpE {p : Program} {l : Launch} {e : Env} {s : State} {m : MethodId} {args : Array Value} {below : List Frame} {meth : Method} {c : Code} {Z : State} {a0 : Array Value} (hx : p.tables.exec = Jvm.exec) (hZ : Z.Warmed39 s.vm) (hw : ∀ d ∈ tables_1, d.before a0 Z = true) (hby : c.code = prog_39_method_13_code) (hml : c.maxLocals = 3) (hown : s.vm.findClass "com/example/pagemark/pagemark/storage/KeyRange" = some m.cls)  {h0 : Heap} (hret : meth.sig.returnType = some (.array .byte)) (hlk : meth.locks = false) (a : Addr) (n0 : Nat) (bs : List Int32) (ka : ClassId) (hb3 : bs.length ≤ 3) (hby8 : ∀ x ∈ bs, x.toInt8.toInt32 = x) : ∀ (ki : Nat) (T0 : State), Stand p l e ({ frames := 2, cells := 1, slots := 3, locals := 54 } : Room) s m args below meth c T0 [] 0 0 → T0.heap = h0 → ki ≤ bs.length → Old Z n0 h0 → own_Ar Z h0 a ka .byte (own_bs bs) → Exa Z h0 a "[B" →
    own_Fin p e below s (own_QE Z n0 h0 (own_eop bs ki)) 1 3 (T0.setTop (mkF m 5 #[.val (.ref a), .val (.int (Int32.ofNat ki - (1 : Int32))), .unset] [])) := by
  intro ki
  induction ki with
  | zero =>
    intro T0 X0 e0 hk O V_a E_a
    have N0 := Fr.nil n0
    refine own_go (U' := T0.setTop (mkF m 6 #[.val (.ref a), .val (.int (Int32.ofNat 0 - (1 : Int32))), .unset] [(.int (Int32.ofNat 0 - (1 : Int32)))])) (fun t k => XS.iloadN X0.here hx rfl (hb hby deo_5) rfl k) ?_
    refine own_go (U' := T0.setTop (mkF m 40 #[.val (.ref a), .val (.int (Int32.ofNat 0 - (1 : Int32))), .unset] [])) (fun t k => XS.ifYes X0.here hx rfl (pc0 := 6) (pc' := 40) rfl (hb hby deo_6) rfl ((if0 _ _).trans (tlt (by decide)).1) (by decide) (by decide) k) ?_
    refine own_go (U' := T0.setTop (mkF m 41 #[.val (.ref a), .val (.int (Int32.ofNat 0 - (1 : Int32))), .unset] [.null])) (fun t k => XS.aconstNull X0.here hx rfl (hb hby deo_40) k) ?_
    refine own_retA X0 hx (t := (.array .byte)) hret rfl hlk rfl (hb hby deo_41) ?_ (by decide) (by decide)
    rw [e0]
    exact ⟨rfl, N0, Keep.refl h0 []⟩
  | succ ki ih =>
    intro T0 X0 e0 hk O V_a E_a
    have N0 := Fr.nil n0
    have K := Keep.refl h0 []
    rw [own_up1]
    have ok := own_ofn (i := ki) (by omega)
    have hkl : ki < bs.length := by omega
    have hat : (own_bs bs)[ki]? = some (.int (bs.getD ki 0)) := by simp [own_bs, List.getD, List.getElem?_eq_getElem hkl]
    have h8 : (bs.getD ki 0).toInt8.toInt32 = bs.getD ki 0 := hby8 _ (by simp [List.getD, List.getElem?_eq_getElem hkl])
    refine own_go (U' := T0.setTop (mkF m 6 #[.val (.ref a), .val (.int (Int32.ofNat ki)), .unset] [(.int (Int32.ofNat ki))])) (fun t k => XS.iloadN X0.here hx rfl (hb hby deo_5) rfl k) ?_
    refine own_go (U' := T0.setTop (mkF m 9 #[.val (.ref a), .val (.int (Int32.ofNat ki)), .unset] [])) (fun t k => XS.ifNo X0.here hx rfl (hb hby deo_6) rfl ((if0 _ _).trans (flt ok.1).1) k) ?_
    refine own_go (U' := T0.setTop (mkF m 10 #[.val (.ref a), .val (.int (Int32.ofNat ki)), .unset] [(.ref a)])) (fun t k => XS.aloadN X0.here hx rfl (hb hby deo_9) rfl rfl k) ?_
    refine own_go (U' := T0.setTop (mkF m 11 #[.val (.ref a), .val (.int (Int32.ofNat ki)), .unset] [(.int (Int32.ofNat ki)), (.ref a)])) (fun t k => XS.iloadN X0.here hx rfl (hb hby deo_10) rfl k) ?_
    refine own_go (U' := T0.setTop (mkF m 12 #[.val (.ref a), .val (.int (Int32.ofNat ki)), .unset] [(.int (bs.getD ki 0))])) (own_baload X0 hx hZ e0 V_a (j := (Int32.ofNat ki)) ok.1 (i := ki) ok.2.1 (v := (.int (bs.getD ki 0))) hat (g := (mkF m 11 #[.val (.ref a), .val (.int (Int32.ofNat ki)), .unset] [(.int (Int32.ofNat ki)), (.ref a)])) rfl rfl (hb hby deo_11)) ?_
    refine own_go (U' := T0.setTop (mkF m 13 #[.val (.ref a), .val (.int (Int32.ofNat ki)), .unset] [(.int (-1 : Int32)), (.int (bs.getD ki 0))])) (fun t k => XS.iconst X0.here hx rfl (hb hby deo_12) k) ?_
    by_cases hq : (bs.getD ki 0) = (-1 : Int32)
    · refine own_go (U' := T0.setTop (mkF m 34 #[.val (.ref a), .val (.int (Int32.ofNat ki)), .unset] [])) (fun t k => XS.icmpYes X0.here hx rfl (pc0 := 13) (pc' := 34) rfl (hb hby deo_13) rfl (teq hq).1 (by decide) (by decide) k) ?_
      refine own_go (U' := T0.setTop (mkF m 37 #[.val (.ref a), .val (.int ((Int32.ofNat ki) + (-1 : Int32))), .unset] [])) (fun t k => XS.iinc X0.here hx rfl (hb hby deo_34) rfl (l' := #[.val (.ref a), .val (.int ((Int32.ofNat ki) + (-1 : Int32))), .unset]) rfl k) ?_
      refine own_go (U' := T0.setTop (mkF m 5 #[.val (.ref a), .val (.int ((Int32.ofNat ki) + (-1 : Int32))), .unset] [])) (fun t k => XS.goto X0.here hx rfl (pc0 := 37) (pc' := 5) rfl (hb hby deo_37) (by decide) (by decide) k) ?_
      rw [← own_dn1, own_eop, if_pos hq]
      exact ih _ X0 e0 (by omega) O V_a E_a
    · refine own_go (U' := T0.setTop (mkF m 16 #[.val (.ref a), .val (.int (Int32.ofNat ki)), .unset] [])) (fun t k => XS.icmpNo X0.here hx rfl (hb hby deo_13) rfl (feq hq).1 k) ?_
      rw [own_eop, if_neg hq]
      refine own_go (U' := T0.setTop (mkF m 17 #[.val (.ref a), .val (.int (Int32.ofNat ki)), .unset] [(.ref a)])) (fun t k => XS.aloadN X0.here hx rfl (hb hby deo_16) rfl rfl k) ?_
      refine own_go (U' := T0.setTop (mkF m 18 #[.val (.ref a), .val (.int (Int32.ofNat ki)), .unset] [(.int (Int32.ofNat ki)), (.ref a)])) (fun t k => XS.iloadN X0.here hx rfl (hb hby deo_17) rfl k) ?_
      refine own_go (U' := T0.setTop (mkF m 19 #[.val (.ref a), .val (.int (Int32.ofNat ki)), .unset] [(.int (1 : Int32)), (.int (Int32.ofNat ki)), (.ref a)])) (fun t k => XS.iconst X0.here hx rfl (hb hby deo_18) k) ?_
      refine own_go (U' := T0.setTop (mkF m 20 #[.val (.ref a), .val (.int (Int32.ofNat ki)), .unset] [(.int ((Int32.ofNat ki) + (1 : Int32))), (.ref a)])) (fun t k => XS.iadd X0.here hx rfl (hb hby deo_19) rfl k) ?_
      obtain ⟨v1, T1, h1, L1, e1, X1, hQ1, st1⟩ := own_callS X0 hx hZ (y := (⟨"java/util/Arrays", "copyOf", "([BI)[B"⟩ : MethodName)) hown (hw _ (List.mem_of_getElem? (i := 49) rfl)) (hw _ (List.mem_of_getElem? (i := 50) rfl)) (hw _ (List.mem_of_getElem? (i := 51) rfl)) (hw _ (List.mem_of_getElem? (i := 52) rfl)) (by decide) (own_rmco l Z a0 hw a (Int32.ofNat ki + (1 : Int32)) h0 n0 (ki + 1) bs ka O V_a E_a (by omega) (by omega) hb3 (own_succ ki).symm) (W := 0) (by decide) (by decide) (g := (mkF m 20 #[.val (.ref a), .val (.int (Int32.ofNat ki)), .unset] [(.int ((Int32.ofNat ki) + (1 : Int32))), (.ref a)])) rfl (by rw [hml]; rfl) (argsL := [(.ref a), (.int ((Int32.ofNat ki) + (1 : Int32)))]) (rest := []) (lenOf own_pd1 rfl) rfl rfl (by show 2 * 0 + _ ≤ _; exact Nat.le_of_eq rfl) (hb hby deo_20) e0 (by decide) (by decide)
      obtain ⟨x, kx, rfl, Nq, Kq, sz_x, g_x, V_x, E_x⟩ := hQ1
      have O := O.keep Kq all0
      have V_a := V_a.keep Kq nin0
      have E_a := E_a.keep Kq
      have K := K.trans Kq all0
      have N1 := Fr.app N0 Nq
      skip
      refine own_go (U' := T1.setTop (mkF m 23 #[.val (.ref a), .val (.int (Int32.ofNat ki)), .unset] [(.ref x)])) st1 ?_
      refine own_go (U' := T1.setTop (mkF m 24 #[.val (.ref a), .val (.int (Int32.ofNat ki)), .val (.ref x)] [])) (fun t k => XS.astoreN X1.here hx rfl (hb hby deo_23) rfl rfl (l' := #[.val (.ref a), .val (.int (Int32.ofNat ki)), .val (.ref x)]) rfl k) ?_
      refine own_go (U' := T1.setTop (mkF m 25 #[.val (.ref a), .val (.int (Int32.ofNat ki)), .val (.ref x)] [(.ref x)])) (fun t k => XS.aloadN X1.here hx rfl (hb hby deo_24) rfl rfl k) ?_
      refine own_go (U' := T1.setTop (mkF m 26 #[.val (.ref a), .val (.int (Int32.ofNat ki)), .val (.ref x)] [(.int (Int32.ofNat ki)), (.ref x)])) (fun t k => XS.iloadN X1.here hx rfl (hb hby deo_25) rfl k) ?_
      refine own_go (U' := T1.setTop (mkF m 27 #[.val (.ref a), .val (.int (Int32.ofNat ki)), .val (.ref x)] [(.int (Int32.ofNat ki)), (.ref x), (.int (Int32.ofNat ki)), (.ref x)])) (fun t k => XT.dup2 X1.here hx rfl (hb hby deo_26) rfl rfl rfl k) ?_
      refine own_go (U' := T1.setTop (mkF m 28 #[.val (.ref a), .val (.int (Int32.ofNat ki)), .val (.ref x)] [(.int (bs.getD ki 0)), (.int (Int32.ofNat ki)), (.ref x)])) (own_baload X1 hx hZ e1 V_x (j := (Int32.ofNat ki)) ok.1 (i := ki) ok.2.1 (v := (.int (bs.getD ki 0))) (by rw [own_bs, List.map_take, List.getElem?_take_of_lt (by omega)]; exact hat) (g := (mkF m 27 #[.val (.ref a), .val (.int (Int32.ofNat ki)), .val (.ref x)] [(.int (Int32.ofNat ki)), (.ref x), (.int (Int32.ofNat ki)), (.ref x)])) rfl rfl (hb hby deo_27)) ?_
      refine own_go (U' := T1.setTop (mkF m 29 #[.val (.ref a), .val (.int (Int32.ofNat ki)), .val (.ref x)] [(.int (1 : Int32)), (.int (bs.getD ki 0)), (.int (Int32.ofNat ki)), (.ref x)])) (fun t k => XS.iconst X1.here hx rfl (hb hby deo_28) k) ?_
      refine own_go (U' := T1.setTop (mkF m 30 #[.val (.ref a), .val (.int (Int32.ofNat ki)), .val (.ref x)] [(.int ((bs.getD ki 0) + (1 : Int32))), (.int (Int32.ofNat ki)), (.ref x)])) (fun t k => XS.iadd X1.here hx rfl (hb hby deo_29) rfl k) ?_
      refine own_go (U' := T1.setTop (mkF m 31 #[.val (.ref a), .val (.int (Int32.ofNat ki)), .val (.ref x)] [(.int (((bs.getD ki 0) + (1 : Int32)).toInt8.toInt32)), (.int (Int32.ofNat ki)), (.ref x)])) (fun t k => XS.i2b X1.here hx rfl (hb hby deo_30) rfl k) ?_
      obtain ⟨T2, h2, X2, e2, W2, A2, st2⟩ := own_bastore X1 hx hZ e1 V_x (j := (Int32.ofNat ki)) ok.1 (i := ki) ok.2.1 (by simp [own_bs]; omega) (g := (mkF m 31 #[.val (.ref a), .val (.int (Int32.ofNat ki)), .val (.ref x)] [(.int (((bs.getD ki 0) + (1 : Int32)).toInt8.toInt32)), (.int (Int32.ofNat ki)), (.ref x)])) rfl rfl (hb hby deo_31)
      have O := O.wr W2 g_x
      have K := K.wr W2 (Or.inr sz_x)
      have E_x := E_x.wr W2
      have V_x : own_Ar Z h2 x kx .byte (own_bs (bs.take ki ++ [((bs.getD ki 0) + (1 : Int32)).toInt8.toInt32])) := ((by rw [own_i8]; simp only [own_bs, List.map_append, List.map_cons, List.map_nil, List.map_take]; rw [List.take_add_one, List.set_append_right _ _ (by simp; omega)]; simp [List.getElem?_eq_getElem hkl, Nat.min_eq_left (Nat.le_of_lt hkl)]) : ((own_bs (bs.take (ki + 1)))).set (ki) (.int (((bs.getD ki 0) + (1 : Int32)).toInt8.toInt32).toInt8.toInt32) = (own_bs (bs.take ki ++ [((bs.getD ki 0) + (1 : Int32)).toInt8.toInt32]))) ▸ A2
      have N2 := Fr.snoc X2 N1 g_x
      refine own_go (U' := T2.setTop (mkF m 32 #[.val (.ref a), .val (.int (Int32.ofNat ki)), .val (.ref x)] [])) st2 ?_
      refine own_go (U' := T2.setTop (mkF m 33 #[.val (.ref a), .val (.int (Int32.ofNat ki)), .val (.ref x)] [(.ref x)])) (fun t k => XS.aloadN X2.here hx rfl (hb hby deo_32) rfl rfl k) ?_
      refine own_retA X2 hx (t := (.array .byte)) hret rfl hlk rfl (hb hby deo_33) ?_ (by decide) (by decide)
      rw [e2]
      exact ⟨_, _, rfl, N2, K, sz_x, g_x, V_x, E_x⟩
theorem own_pn1 : plainName "com/example/pagemark/pagemark/storage/KeyRange" = true := by first | (simp [plainName, overriddenIn]; done) | decide +kernel
theorem own_efeo (m : MethodId) (a : Addr) : entryFrame m #[(.ref a)] 3 = mkF m 0 #[.val (.ref a), .unset, .unset] [] := by first | (simp [entryFrame, mkF, argsToLocals, Value.category]; done) | rfl
set_option maxRecDepth 65536 in
set_option maxHeartbeats 40000000 in
theorem own_rmeo (l : Launch) (Z : State) (a0 : Array Value) (hw : ∀ d ∈ tables_1, d.before a0 Z = true) (a : Addr) (h0 : Heap) (n0 : Nat) (bs : List Int32) (ka : ClassId) (hb3 : bs.length ≤ 3) (hby8 : ∀ x ∈ bs, x.toInt8.toInt32 = x) (O : Old Z n0 h0) (V_a : own_Ar Z h0 a ka .byte (own_bs bs)) (E_a : Exa Z h0 a "[B") :
    own_C l Z (⟨"com/example/pagemark/pagemark/storage/KeyRange", "endOfPrefix", "([B)[B"⟩ : MethodName) prog_39_method_13_code 3 (some (.array .byte)) [] ({ frames := 2, cells := 1, slots := 3, locals := 54 } : Room) #[(.ref a)] h0 (own_QE Z n0 h0 (own_eop bs bs.length)) := by
  refine own_body (plainFor_of_name own_pn1) fun p e s m below meth c s₁ hx hby hml hret hlk hown hnm hZ X0 e0 => ?_
  rw [own_efeo m a]
  refine own_go (U' := s₁.setTop (mkF m 1 #[.val (.ref a), .unset, .unset] [(.ref a)])) (fun t k => XS.aloadN X0.here hx rfl (hb hby deo_0) rfl rfl k) ?_
  refine own_go (U' := s₁.setTop (mkF m 2 #[.val (.ref a), .unset, .unset] [(.int (Int32.ofNat bs.length))])) (own_arrlen X0 hx hZ e0 V_a (n := (Int32.ofNat bs.length)) (by simp [own_bs]) (g := (mkF m 1 #[.val (.ref a), .unset, .unset] [(.ref a)])) rfl rfl (hb hby deo_1)) ?_
  refine own_go (U' := s₁.setTop (mkF m 3 #[.val (.ref a), .unset, .unset] [(.int (1 : Int32)), (.int (Int32.ofNat bs.length))])) (fun t k => XS.iconst X0.here hx rfl (hb hby deo_2) k) ?_
  refine own_go (U' := s₁.setTop (mkF m 4 #[.val (.ref a), .unset, .unset] [(.int ((Int32.ofNat bs.length) - (1 : Int32)))])) (fun t k => XS.isub X0.here hx rfl (hb hby deo_3) rfl k) ?_
  refine own_go (U' := s₁.setTop (mkF m 5 #[.val (.ref a), .val (.int ((Int32.ofNat bs.length) - (1 : Int32))), .unset] [])) (fun t k => XS.istoreN X0.here hx rfl (hb hby deo_4) rfl (l' := #[.val (.ref a), .val (.int ((Int32.ofNat bs.length) - (1 : Int32))), .unset]) rfl k) ?_
  exact own_lpE hx hZ hw hby hml hown hret hlk a n0 bs ka hb3 hby8 bs.length _ X0 e0 (Nat.le_refl _) O V_a E_a
/-- null, or a new array of these bytes -/
def own_OA (Z : State) (n : Nat) (h : Heap) (o : Option (List Int32)) (v : Value) : Prop := match o with | none => v = .null | some l => ∃ x kx, v = .ref x ∧ n ≤ x ∧ own_Ar Z h x kx .byte (own_bs l) ∧ Exa Z h x "[B"
theorem own_OA.isRef {Z : State} {n : Nat} {h : Heap} {o : Option (List Int32)} {v : Value} (F : own_OA Z n h o v) : v.isRef = true := by
  cases o with
  | none => rw [show v = .null from F]; rfl
  | some l => obtain ⟨x, kx, rfl, -⟩ := F; rfl
theorem own_OA.ext {Z : State} {n : Nat} {h h' : Heap} {o : Option (List Int32)} {v : Value} (F : own_OA Z n h o v) (E : Ext h h') : own_OA Z n h' o v := by
  cases o with
  | none => exact F
  | some l => obtain ⟨x, kx, rfl, q, A, Y⟩ := F; exact ⟨x, kx, rfl, q, A.ext E, Y.ext E⟩
theorem own_OA.keep {Z : State} {n : Nat} {h h' : Heap} {o : Option (List Int32)} {v : Value} (F : own_OA Z n h o v) (K : Keep h h' []) : own_OA Z n h' o v := by
  cases o with
  | none => exact F
  | some l => obtain ⟨x, kx, rfl, q, A, Y⟩ := F; exact ⟨x, kx, rfl, q, A.keep K nin0, Y.keep K⟩
theorem own_OA.keep1 {Z : State} {n : Nat} {h h' : Heap} {o : Option (List Int32)} {v : Value} {a : Addr} (F : own_OA Z n h o v) (K : Keep h h' [a]) {C : String} (E : Exa Z h a C) (hC : C ≠ "[B") : own_OA Z n h' o v := by
  cases o with
  | none => exact F
  | some l => obtain ⟨x, kx, rfl, q, A, Y⟩ := F; exact ⟨x, kx, rfl, q, A.keep K (ninS (Ne.symm (ne_exa E Y hC)) nin0), Y.keep K⟩
theorem own_OA.mono {Z : State} {n n' : Nat} {h : Heap} {o : Option (List Int32)} {v : Value} (F : own_OA Z n h o v) (hn : n' ≤ n) : own_OA Z n' h o v := by
  cases o with
  | none => exact F
  | some l => obtain ⟨x, kx, e, q, r⟩ := F; exact ⟨x, kx, e, Nat.le_trans hn q, r⟩
theorem own_OA.ne {Z : State} {n : Nat} {h : Heap} {o : Option (List Int32)} {v : Value} (F : own_OA Z n h o v) {a : Addr} (ha : a < n) : ¬ v = .ref a := by
  cases o with
  | none => rw [show v = .null from F]; nofun
  | some l => obtain ⟨x, kx, rfl, q, -⟩ := F; intro e; cases e; exact absurd ha (Nat.not_lt.mpr q)
/-- what endOfPrefix leaves, as one value -/
theorem own_QE.oa {Z : State} {n0 : Nat} {h0 h : Heap} {o : Option (List Int32)} {v : Option Value} {L : List Loc} (F : own_QE Z n0 h0 o v h L) : ∃ w, v = some w ∧ Fr n0 L ∧ Keep h0 h [] ∧ own_OA Z h0.size h o w := by
  cases o with
  | none => obtain ⟨rfl, N, K⟩ := F; exact ⟨_, rfl, N, K, rfl⟩
  | some l => obtain ⟨x, kx, rfl, N, K, q, g, A, Y⟩ := F; exact ⟨_, rfl, N, K, x, kx, rfl, q, A, Y⟩
def own_mk (k : Nat) (b : Int32) : List Int32 := [(b.toInt8.toInt32), ((b >>> ((8 : Int32) &&& 31)).toInt8.toInt32), ((b >>> ((16 : Int32) &&& 31)).toInt8.toInt32)].take k
theorem own_mk_len (k : Nat) (b : Int32) : (own_mk k b).length ≤ 3 := by rw [own_mk, List.length_take]; exact Nat.min_le_right _ _
theorem own_mk_8 (k : Nat) (b : Int32) : ∀ x ∈ own_mk k b, x.toInt8.toInt32 = x := by
  intro x hx
  have := List.mem_of_mem_take hx
  simp only [List.mem_cons, List.not_mem_nil, or_false] at this
  rcases this with rfl | rfl | rfl <;> exact own_i8 _
theorem own_three (x : Int32) : ∃ k : Nat, k ≤ 3 ∧ x &&& (3 : Int32) = Int32.ofNat k := by
  have h := c_mask x 3 2 (by decide) (by decide)
  refine ⟨((x &&& (3 : Int32)).toInt).toNat, by omega, Int32.toInt_inj.mp ?_⟩
  rw [(own_ofn (i := ((x &&& (3 : Int32)).toInt).toNat) (by omega)).2.2]; omega
theorem own_len3 {bs : List Int32} (h : bs.length ≤ 3) : bs = [] ∨ (∃ x, bs = [x]) ∨ (∃ x y, bs = [x, y]) ∨ ∃ x y z, bs = [x, y, z] := by
  match bs, h with
  | [], _ => exact Or.inl rfl
  | [x], _ => exact Or.inr (Or.inl ⟨x, rfl⟩)
  | [x, y], _ => exact Or.inr (Or.inr (Or.inl ⟨x, y, rfl⟩))
  | [x, y, z], _ => exact Or.inr (Or.inr (Or.inr ⟨x, y, z, rfl⟩))
  | _ :: _ :: _ :: _ :: _, h => simp at h
theorem own_pd3 : parseMethodDescriptor "(II)[B" = some ⟨[.int, .int], some (.array .byte)⟩ := by decide +kernel
theorem own_pd4 : parseMethodDescriptor "([B[B)V" = some ⟨[(.array .byte), (.array .byte)], none⟩ := by decide +kernel
theorem own_pd5 : parseMethodDescriptor "()[B" = some ⟨[], some (.array .byte)⟩ := by decide +kernel
theorem own_pd6 : parseMethodDescriptor "([B[B)Z" = some ⟨[(.array .byte), (.array .byte)], some .boolean⟩ := by decide +kernel
theorem own_pd7 : parseMethodDescriptor "([BZ[BZ)Lcom/example/pagemark/pagemark/storage/KeyRange;" = some ⟨[(.array .byte), .boolean, (.array .byte), .boolean], some (.object "com/example/pagemark/pagemark/storage/KeyRange")⟩ := by decide +kernel
theorem dmk0_0 : decode method_2_code 0 = .ok (.iload_n 0, 1) := by decide +kernel
theorem dmk0_1 : decode method_2_code 1 = .ok (.newarray .byte, 2) := by decide +kernel
theorem dmk0_3 : decode method_2_code 3 = .ok (.astore_n 2, 1) := by decide +kernel
theorem dmk0_4 : decode method_2_code 4 = .ok (.iload_n 0, 1) := by decide +kernel
theorem dmk0_5 : decode method_2_code 5 = .ok (.ifCond .le 8, 3) := by decide +kernel
theorem dmk0_8 : decode method_2_code 8 = .ok (.aload_n 2, 1) := by decide +kernel
theorem dmk0_9 : decode method_2_code 9 = .ok (.iconst 0, 1) := by decide +kernel
theorem dmk0_10 : decode method_2_code 10 = .ok (.iload_n 1, 1) := by decide +kernel
theorem dmk0_11 : decode method_2_code 11 = .ok (.i2b, 1) := by decide +kernel
theorem dmk0_12 : decode method_2_code 12 = .ok (.bastore, 1) := by decide +kernel
theorem dmk0_13 : decode method_2_code 13 = .ok (.iload_n 0, 1) := by decide +kernel
theorem dmk0_14 : decode method_2_code 14 = .ok (.iconst 1, 1) := by decide +kernel
theorem dmk0_15 : decode method_2_code 15 = .ok (.if_icmp .le 11, 3) := by decide +kernel
theorem dmk0_18 : decode method_2_code 18 = .ok (.aload_n 2, 1) := by decide +kernel
theorem dmk0_19 : decode method_2_code 19 = .ok (.iconst 1, 1) := by decide +kernel
theorem dmk0_20 : decode method_2_code 20 = .ok (.iload_n 1, 1) := by decide +kernel
theorem dmk0_21 : decode method_2_code 21 = .ok (.bipush 8, 2) := by decide +kernel
theorem dmk0_23 : decode method_2_code 23 = .ok (.ishr, 1) := by decide +kernel
theorem dmk0_24 : decode method_2_code 24 = .ok (.i2b, 1) := by decide +kernel
theorem dmk0_25 : decode method_2_code 25 = .ok (.bastore, 1) := by decide +kernel
theorem dmk0_26 : decode method_2_code 26 = .ok (.iload_n 0, 1) := by decide +kernel
theorem dmk0_27 : decode method_2_code 27 = .ok (.iconst 2, 1) := by decide +kernel
theorem dmk0_28 : decode method_2_code 28 = .ok (.if_icmp .le 11, 3) := by decide +kernel
theorem dmk0_31 : decode method_2_code 31 = .ok (.aload_n 2, 1) := by decide +kernel
theorem dmk0_32 : decode method_2_code 32 = .ok (.iconst 2, 1) := by decide +kernel
theorem dmk0_33 : decode method_2_code 33 = .ok (.iload_n 1, 1) := by decide +kernel
theorem dmk0_34 : decode method_2_code 34 = .ok (.bipush 16, 2) := by decide +kernel
theorem dmk0_36 : decode method_2_code 36 = .ok (.ishr, 1) := by decide +kernel
theorem dmk0_37 : decode method_2_code 37 = .ok (.i2b, 1) := by decide +kernel
theorem dmk0_38 : decode method_2_code 38 = .ok (.bastore, 1) := by decide +kernel
theorem dmk0_39 : decode method_2_code 39 = .ok (.aload_n 2, 1) := by decide +kernel
theorem dmk0_40 : decode method_2_code 40 = .ok (.areturn, 1) := by decide +kernel
theorem own_pn2 : plainName "com/example/pagemark/pagemark/storage/KeyRangeBetweenPinLaw" = true := by first | (simp [plainName, overriddenIn]; done) | decide +kernel
theorem own_efmk0 (m : MethodId) (p2 : Int32) : entryFrame m #[(.int (0 : Int32)), (.int p2)] 3 = mkF m 0 #[.val (.int (0 : Int32)), .val (.int p2), .unset] [] := by first | (simp [entryFrame, mkF, argsToLocals, Value.category]; done) | rfl
set_option maxRecDepth 65536 in
set_option maxHeartbeats 40000000 in
theorem own_rmmk0 (l : Launch) (Z : State) (a0 : Array Value) (hw : ∀ d ∈ tables_1, d.before a0 Z = true) (p2 : Int32) (h0 : Heap) (n0 : Nat) (O : Old Z n0 h0) :
    own_C l Z (⟨"com/example/pagemark/pagemark/storage/KeyRangeBetweenPinLaw", "mk", "(II)[B"⟩ : MethodName) method_2_code 3 (some (.array .byte)) [] ({ frames := 0, cells := 1, slots := 3, locals := 0 } : Room) #[(.int (0 : Int32)), (.int p2)] h0 (fun v h L => ∃ x kx, v = some (.ref x) ∧ Fr n0 L ∧ Keep h0 h [] ∧ h0.size ≤ x ∧ n0 ≤ x ∧ own_Ar Z h x kx .byte (own_bs (own_mk 0 p2)) ∧ Exa Z h x "[B") := by
  refine own_body (plainFor_of_name own_pn2) fun p e s m below meth c s₁ hx hby hml hret hlk hown hnm hZ X0 e0 => ?_
  rw [own_efmk0 m p2]
  have N0 := Fr.nil n0
  have K := Keep.refl h0 []
  refine own_go (U' := s₁.setTop (mkF m 1 #[.val (.int (0 : Int32)), .val (.int p2), .unset] [(.int (0 : Int32))])) (fun t k => XS.iloadN X0.here hx rfl (hb hby dmk0_0) rfl k) ?_
  obtain ⟨T1, h1, k1, X1, e1, E1, A1, Y1, st1⟩ := own_newarr X0 hx hZ (hw _ (List.mem_of_getElem? (i := 4) rfl)) e0 (g := (mkF m 1 #[.val (.int (0 : Int32)), .val (.int p2), .unset] [(.int (0 : Int32))])) rfl (hb hby dmk0_1) rfl (by decide) (cap := 3) (by decide) (by decide) (by decide) (by decide) (ad := "[B") (by decide) rfl (vs := []) rfl
  obtain ⟨b1, g1⟩ : ∃ z, z = h0.size := ⟨_, rfl⟩
  rw [← g1] at A1 Y1 st1
  have g_b1 : n0 ≤ b1 := Nat.le_trans (Nat.le_trans (Nat.le_of_eq O.1.symm) O.2.1) (Nat.le_of_eq g1.symm)
  have sz_b1 : h0.size ≤ b1 := Nat.le_trans K.1 (Nat.le_of_eq g1.symm)
  have K := K.ext E1
  have O := O.ext E1
  have V_b1 : own_Ar Z h1 b1 k1 .byte [] := A1
  have E_b1 := Y1
  refine own_go (U' := T1.setTop (mkF m 3 #[.val (.int (0 : Int32)), .val (.int p2), .unset] [(.ref b1)])) st1 ?_
  refine own_go (U' := T1.setTop (mkF m 4 #[.val (.int (0 : Int32)), .val (.int p2), .val (.ref b1)] [])) (fun t k => XS.astoreN X1.here hx rfl (hb hby dmk0_3) rfl rfl (l' := #[.val (.int (0 : Int32)), .val (.int p2), .val (.ref b1)]) rfl k) ?_
  refine own_go (U' := T1.setTop (mkF m 5 #[.val (.int (0 : Int32)), .val (.int p2), .val (.ref b1)] [(.int (0 : Int32))])) (fun t k => XS.iloadN X1.here hx rfl (hb hby dmk0_4) rfl k) ?_
  refine own_go (U' := T1.setTop (mkF m 13 #[.val (.int (0 : Int32)), .val (.int p2), .val (.ref b1)] [])) (fun t k => XS.ifYes X1.here hx rfl (pc0 := 5) (pc' := 13) rfl (hb hby dmk0_5) rfl ((if0 _ _).trans (flt (by decide)).2.2.2) (by decide) (by decide) k) ?_
  refine own_go (U' := T1.setTop (mkF m 14 #[.val (.int (0 : Int32)), .val (.int p2), .val (.ref b1)] [(.int (0 : Int32))])) (fun t k => XS.iloadN X1.here hx rfl (hb hby dmk0_13) rfl k) ?_
  refine own_go (U' := T1.setTop (mkF m 15 #[.val (.int (0 : Int32)), .val (.int p2), .val (.ref b1)] [(.int (1 : Int32)), (.int (0 : Int32))])) (fun t k => XS.iconst X1.here hx rfl (hb hby dmk0_14) k) ?_
  refine own_go (U' := T1.setTop (mkF m 26 #[.val (.int (0 : Int32)), .val (.int p2), .val (.ref b1)] [])) (fun t k => XS.icmpYes X1.here hx rfl (pc0 := 15) (pc' := 26) rfl (hb hby dmk0_15) rfl (flt (by decide)).2.2.2 (by decide) (by decide) k) ?_
  refine own_go (U' := T1.setTop (mkF m 27 #[.val (.int (0 : Int32)), .val (.int p2), .val (.ref b1)] [(.int (0 : Int32))])) (fun t k => XS.iloadN X1.here hx rfl (hb hby dmk0_26) rfl k) ?_
  refine own_go (U' := T1.setTop (mkF m 28 #[.val (.int (0 : Int32)), .val (.int p2), .val (.ref b1)] [(.int (2 : Int32)), (.int (0 : Int32))])) (fun t k => XS.iconst X1.here hx rfl (hb hby dmk0_27) k) ?_
  refine own_go (U' := T1.setTop (mkF m 39 #[.val (.int (0 : Int32)), .val (.int p2), .val (.ref b1)] [])) (fun t k => XS.icmpYes X1.here hx rfl (pc0 := 28) (pc' := 39) rfl (hb hby dmk0_28) rfl (flt (by decide)).2.2.2 (by decide) (by decide) k) ?_
  refine own_go (U' := T1.setTop (mkF m 40 #[.val (.int (0 : Int32)), .val (.int p2), .val (.ref b1)] [(.ref b1)])) (fun t k => XS.aloadN X1.here hx rfl (hb hby dmk0_39) rfl rfl k) ?_
  refine own_retA X1 hx (t := (.array .byte)) hret rfl hlk rfl (hb hby dmk0_40) ?_ (by decide) (by decide)
  rw [e1]
  exact ⟨_, _, rfl, N0, K, sz_b1, g_b1, V_b1, E_b1⟩
theorem own_efmk1 (m : MethodId) (p2 : Int32) : entryFrame m #[(.int (1 : Int32)), (.int p2)] 3 = mkF m 0 #[.val (.int (1 : Int32)), .val (.int p2), .unset] [] := by first | (simp [entryFrame, mkF, argsToLocals, Value.category]; done) | rfl
set_option maxRecDepth 65536 in
set_option maxHeartbeats 40000000 in
theorem own_rmmk1 (l : Launch) (Z : State) (a0 : Array Value) (hw : ∀ d ∈ tables_1, d.before a0 Z = true) (p2 : Int32) (h0 : Heap) (n0 : Nat) (O : Old Z n0 h0) :
    own_C l Z (⟨"com/example/pagemark/pagemark/storage/KeyRangeBetweenPinLaw", "mk", "(II)[B"⟩ : MethodName) method_2_code 3 (some (.array .byte)) [] ({ frames := 0, cells := 1, slots := 3, locals := 0 } : Room) #[(.int (1 : Int32)), (.int p2)] h0 (fun v h L => ∃ x kx, v = some (.ref x) ∧ Fr n0 L ∧ Keep h0 h [] ∧ h0.size ≤ x ∧ n0 ≤ x ∧ own_Ar Z h x kx .byte (own_bs (own_mk 1 p2)) ∧ Exa Z h x "[B") := by
  refine own_body (plainFor_of_name own_pn2) fun p e s m below meth c s₁ hx hby hml hret hlk hown hnm hZ X0 e0 => ?_
  rw [own_efmk1 m p2]
  have N0 := Fr.nil n0
  have K := Keep.refl h0 []
  refine own_go (U' := s₁.setTop (mkF m 1 #[.val (.int (1 : Int32)), .val (.int p2), .unset] [(.int (1 : Int32))])) (fun t k => XS.iloadN X0.here hx rfl (hb hby dmk0_0) rfl k) ?_
  obtain ⟨T1, h1, k1, X1, e1, E1, A1, Y1, st1⟩ := own_newarr X0 hx hZ (hw _ (List.mem_of_getElem? (i := 4) rfl)) e0 (g := (mkF m 1 #[.val (.int (1 : Int32)), .val (.int p2), .unset] [(.int (1 : Int32))])) rfl (hb hby dmk0_1) rfl (by decide) (cap := 3) (by decide) (by decide) (by decide) (by decide) (ad := "[B") (by decide) rfl (vs := [(.int (0 : Int32))]) rfl
  obtain ⟨b1, g1⟩ : ∃ z, z = h0.size := ⟨_, rfl⟩
  rw [← g1] at A1 Y1 st1
  have g_b1 : n0 ≤ b1 := Nat.le_trans (Nat.le_trans (Nat.le_of_eq O.1.symm) O.2.1) (Nat.le_of_eq g1.symm)
  have sz_b1 : h0.size ≤ b1 := Nat.le_trans K.1 (Nat.le_of_eq g1.symm)
  have K := K.ext E1
  have O := O.ext E1
  have V_b1 : own_Ar Z h1 b1 k1 .byte [(.int (0 : Int32))] := A1
  have E_b1 := Y1
  refine own_go (U' := T1.setTop (mkF m 3 #[.val (.int (1 : Int32)), .val (.int p2), .unset] [(.ref b1)])) st1 ?_
  refine own_go (U' := T1.setTop (mkF m 4 #[.val (.int (1 : Int32)), .val (.int p2), .val (.ref b1)] [])) (fun t k => XS.astoreN X1.here hx rfl (hb hby dmk0_3) rfl rfl (l' := #[.val (.int (1 : Int32)), .val (.int p2), .val (.ref b1)]) rfl k) ?_
  refine own_go (U' := T1.setTop (mkF m 5 #[.val (.int (1 : Int32)), .val (.int p2), .val (.ref b1)] [(.int (1 : Int32))])) (fun t k => XS.iloadN X1.here hx rfl (hb hby dmk0_4) rfl k) ?_
  refine own_go (U' := T1.setTop (mkF m 8 #[.val (.int (1 : Int32)), .val (.int p2), .val (.ref b1)] [])) (fun t k => XS.ifNo X1.here hx rfl (hb hby dmk0_5) rfl ((if0 _ _).trans (tlt (by decide)).2.2.2) k) ?_
  refine own_go (U' := T1.setTop (mkF m 9 #[.val (.int (1 : Int32)), .val (.int p2), .val (.ref b1)] [(.ref b1)])) (fun t k => XS.aloadN X1.here hx rfl (hb hby dmk0_8) rfl rfl k) ?_
  refine own_go (U' := T1.setTop (mkF m 10 #[.val (.int (1 : Int32)), .val (.int p2), .val (.ref b1)] [(.int (0 : Int32)), (.ref b1)])) (fun t k => XS.iconst X1.here hx rfl (hb hby dmk0_9) k) ?_
  refine own_go (U' := T1.setTop (mkF m 11 #[.val (.int (1 : Int32)), .val (.int p2), .val (.ref b1)] [(.int p2), (.int (0 : Int32)), (.ref b1)])) (fun t k => XS.iloadN X1.here hx rfl (hb hby dmk0_10) rfl k) ?_
  refine own_go (U' := T1.setTop (mkF m 12 #[.val (.int (1 : Int32)), .val (.int p2), .val (.ref b1)] [(.int (p2.toInt8.toInt32)), (.int (0 : Int32)), (.ref b1)])) (fun t k => XS.i2b X1.here hx rfl (hb hby dmk0_11) rfl k) ?_
  obtain ⟨T2, h2, X2, e2, W2, A2, st2⟩ := own_bastore X1 hx hZ e1 V_b1 (j := (0 : Int32)) (by decide) (i := 0) rfl (Nat.le_of_ble_eq_true rfl) (g := (mkF m 12 #[.val (.int (1 : Int32)), .val (.int p2), .val (.ref b1)] [(.int (p2.toInt8.toInt32)), (.int (0 : Int32)), (.ref b1)])) rfl rfl (hb hby dmk0_12)
  have K := K.wr W2 (Or.inr sz_b1)
  have O := O.wr W2 g_b1
  have E_b1 := E_b1.wr W2
  have V_b1 : own_Ar Z h2 b1 k1 .byte [(.int (p2.toInt8.toInt32).toInt8.toInt32)] := A2
  have N2 := Fr.snoc X2 N0 g_b1
  refine own_go (U' := T2.setTop (mkF m 13 #[.val (.int (1 : Int32)), .val (.int p2), .val (.ref b1)] [])) st2 ?_
  refine own_go (U' := T2.setTop (mkF m 14 #[.val (.int (1 : Int32)), .val (.int p2), .val (.ref b1)] [(.int (1 : Int32))])) (fun t k => XS.iloadN X2.here hx rfl (hb hby dmk0_13) rfl k) ?_
  refine own_go (U' := T2.setTop (mkF m 15 #[.val (.int (1 : Int32)), .val (.int p2), .val (.ref b1)] [(.int (1 : Int32)), (.int (1 : Int32))])) (fun t k => XS.iconst X2.here hx rfl (hb hby dmk0_14) k) ?_
  refine own_go (U' := T2.setTop (mkF m 26 #[.val (.int (1 : Int32)), .val (.int p2), .val (.ref b1)] [])) (fun t k => XS.icmpYes X2.here hx rfl (pc0 := 15) (pc' := 26) rfl (hb hby dmk0_15) rfl (flt (by decide)).2.2.2 (by decide) (by decide) k) ?_
  refine own_go (U' := T2.setTop (mkF m 27 #[.val (.int (1 : Int32)), .val (.int p2), .val (.ref b1)] [(.int (1 : Int32))])) (fun t k => XS.iloadN X2.here hx rfl (hb hby dmk0_26) rfl k) ?_
  refine own_go (U' := T2.setTop (mkF m 28 #[.val (.int (1 : Int32)), .val (.int p2), .val (.ref b1)] [(.int (2 : Int32)), (.int (1 : Int32))])) (fun t k => XS.iconst X2.here hx rfl (hb hby dmk0_27) k) ?_
  refine own_go (U' := T2.setTop (mkF m 39 #[.val (.int (1 : Int32)), .val (.int p2), .val (.ref b1)] [])) (fun t k => XS.icmpYes X2.here hx rfl (pc0 := 28) (pc' := 39) rfl (hb hby dmk0_28) rfl (flt (by decide)).2.2.2 (by decide) (by decide) k) ?_
  refine own_go (U' := T2.setTop (mkF m 40 #[.val (.int (1 : Int32)), .val (.int p2), .val (.ref b1)] [(.ref b1)])) (fun t k => XS.aloadN X2.here hx rfl (hb hby dmk0_39) rfl rfl k) ?_
  rw [own_i8] at V_b1
  refine own_retA X2 hx (t := (.array .byte)) hret rfl hlk rfl (hb hby dmk0_40) ?_ (by decide) (by decide)
  rw [e2]
  exact ⟨_, _, rfl, N2, K, sz_b1, g_b1, V_b1, E_b1⟩
theorem own_efmk2 (m : MethodId) (p2 : Int32) : entryFrame m #[(.int (2 : Int32)), (.int p2)] 3 = mkF m 0 #[.val (.int (2 : Int32)), .val (.int p2), .unset] [] := by first | (simp [entryFrame, mkF, argsToLocals, Value.category]; done) | rfl
set_option maxRecDepth 65536 in
set_option maxHeartbeats 40000000 in
theorem own_rmmk2 (l : Launch) (Z : State) (a0 : Array Value) (hw : ∀ d ∈ tables_1, d.before a0 Z = true) (p2 : Int32) (h0 : Heap) (n0 : Nat) (O : Old Z n0 h0) :
    own_C l Z (⟨"com/example/pagemark/pagemark/storage/KeyRangeBetweenPinLaw", "mk", "(II)[B"⟩ : MethodName) method_2_code 3 (some (.array .byte)) [] ({ frames := 0, cells := 1, slots := 3, locals := 0 } : Room) #[(.int (2 : Int32)), (.int p2)] h0 (fun v h L => ∃ x kx, v = some (.ref x) ∧ Fr n0 L ∧ Keep h0 h [] ∧ h0.size ≤ x ∧ n0 ≤ x ∧ own_Ar Z h x kx .byte (own_bs (own_mk 2 p2)) ∧ Exa Z h x "[B") := by
  refine own_body (plainFor_of_name own_pn2) fun p e s m below meth c s₁ hx hby hml hret hlk hown hnm hZ X0 e0 => ?_
  rw [own_efmk2 m p2]
  have N0 := Fr.nil n0
  have K := Keep.refl h0 []
  refine own_go (U' := s₁.setTop (mkF m 1 #[.val (.int (2 : Int32)), .val (.int p2), .unset] [(.int (2 : Int32))])) (fun t k => XS.iloadN X0.here hx rfl (hb hby dmk0_0) rfl k) ?_
  obtain ⟨T1, h1, k1, X1, e1, E1, A1, Y1, st1⟩ := own_newarr X0 hx hZ (hw _ (List.mem_of_getElem? (i := 4) rfl)) e0 (g := (mkF m 1 #[.val (.int (2 : Int32)), .val (.int p2), .unset] [(.int (2 : Int32))])) rfl (hb hby dmk0_1) rfl (by decide) (cap := 3) (by decide) (by decide) (by decide) (by decide) (ad := "[B") (by decide) rfl (vs := [(.int (0 : Int32)), (.int (0 : Int32))]) rfl
  obtain ⟨b1, g1⟩ : ∃ z, z = h0.size := ⟨_, rfl⟩
  rw [← g1] at A1 Y1 st1
  have g_b1 : n0 ≤ b1 := Nat.le_trans (Nat.le_trans (Nat.le_of_eq O.1.symm) O.2.1) (Nat.le_of_eq g1.symm)
  have sz_b1 : h0.size ≤ b1 := Nat.le_trans K.1 (Nat.le_of_eq g1.symm)
  have K := K.ext E1
  have O := O.ext E1
  have V_b1 : own_Ar Z h1 b1 k1 .byte [(.int (0 : Int32)), (.int (0 : Int32))] := A1
  have E_b1 := Y1
  refine own_go (U' := T1.setTop (mkF m 3 #[.val (.int (2 : Int32)), .val (.int p2), .unset] [(.ref b1)])) st1 ?_
  refine own_go (U' := T1.setTop (mkF m 4 #[.val (.int (2 : Int32)), .val (.int p2), .val (.ref b1)] [])) (fun t k => XS.astoreN X1.here hx rfl (hb hby dmk0_3) rfl rfl (l' := #[.val (.int (2 : Int32)), .val (.int p2), .val (.ref b1)]) rfl k) ?_
  refine own_go (U' := T1.setTop (mkF m 5 #[.val (.int (2 : Int32)), .val (.int p2), .val (.ref b1)] [(.int (2 : Int32))])) (fun t k => XS.iloadN X1.here hx rfl (hb hby dmk0_4) rfl k) ?_
  refine own_go (U' := T1.setTop (mkF m 8 #[.val (.int (2 : Int32)), .val (.int p2), .val (.ref b1)] [])) (fun t k => XS.ifNo X1.here hx rfl (hb hby dmk0_5) rfl ((if0 _ _).trans (tlt (by decide)).2.2.2) k) ?_
  refine own_go (U' := T1.setTop (mkF m 9 #[.val (.int (2 : Int32)), .val (.int p2), .val (.ref b1)] [(.ref b1)])) (fun t k => XS.aloadN X1.here hx rfl (hb hby dmk0_8) rfl rfl k) ?_
  refine own_go (U' := T1.setTop (mkF m 10 #[.val (.int (2 : Int32)), .val (.int p2), .val (.ref b1)] [(.int (0 : Int32)), (.ref b1)])) (fun t k => XS.iconst X1.here hx rfl (hb hby dmk0_9) k) ?_
  refine own_go (U' := T1.setTop (mkF m 11 #[.val (.int (2 : Int32)), .val (.int p2), .val (.ref b1)] [(.int p2), (.int (0 : Int32)), (.ref b1)])) (fun t k => XS.iloadN X1.here hx rfl (hb hby dmk0_10) rfl k) ?_
  refine own_go (U' := T1.setTop (mkF m 12 #[.val (.int (2 : Int32)), .val (.int p2), .val (.ref b1)] [(.int (p2.toInt8.toInt32)), (.int (0 : Int32)), (.ref b1)])) (fun t k => XS.i2b X1.here hx rfl (hb hby dmk0_11) rfl k) ?_
  obtain ⟨T2, h2, X2, e2, W2, A2, st2⟩ := own_bastore X1 hx hZ e1 V_b1 (j := (0 : Int32)) (by decide) (i := 0) rfl (Nat.le_of_ble_eq_true rfl) (g := (mkF m 12 #[.val (.int (2 : Int32)), .val (.int p2), .val (.ref b1)] [(.int (p2.toInt8.toInt32)), (.int (0 : Int32)), (.ref b1)])) rfl rfl (hb hby dmk0_12)
  have K := K.wr W2 (Or.inr sz_b1)
  have O := O.wr W2 g_b1
  have E_b1 := E_b1.wr W2
  have V_b1 : own_Ar Z h2 b1 k1 .byte [(.int (p2.toInt8.toInt32).toInt8.toInt32), (.int (0 : Int32))] := A2
  have N2 := Fr.snoc X2 N0 g_b1
  refine own_go (U' := T2.setTop (mkF m 13 #[.val (.int (2 : Int32)), .val (.int p2), .val (.ref b1)] [])) st2 ?_
  refine own_go (U' := T2.setTop (mkF m 14 #[.val (.int (2 : Int32)), .val (.int p2), .val (.ref b1)] [(.int (2 : Int32))])) (fun t k => XS.iloadN X2.here hx rfl (hb hby dmk0_13) rfl k) ?_
  refine own_go (U' := T2.setTop (mkF m 15 #[.val (.int (2 : Int32)), .val (.int p2), .val (.ref b1)] [(.int (1 : Int32)), (.int (2 : Int32))])) (fun t k => XS.iconst X2.here hx rfl (hb hby dmk0_14) k) ?_
  refine own_go (U' := T2.setTop (mkF m 18 #[.val (.int (2 : Int32)), .val (.int p2), .val (.ref b1)] [])) (fun t k => XS.icmpNo X2.here hx rfl (hb hby dmk0_15) rfl (tlt (by decide)).2.2.2 k) ?_
  refine own_go (U' := T2.setTop (mkF m 19 #[.val (.int (2 : Int32)), .val (.int p2), .val (.ref b1)] [(.ref b1)])) (fun t k => XS.aloadN X2.here hx rfl (hb hby dmk0_18) rfl rfl k) ?_
  refine own_go (U' := T2.setTop (mkF m 20 #[.val (.int (2 : Int32)), .val (.int p2), .val (.ref b1)] [(.int (1 : Int32)), (.ref b1)])) (fun t k => XS.iconst X2.here hx rfl (hb hby dmk0_19) k) ?_
  refine own_go (U' := T2.setTop (mkF m 21 #[.val (.int (2 : Int32)), .val (.int p2), .val (.ref b1)] [(.int p2), (.int (1 : Int32)), (.ref b1)])) (fun t k => XS.iloadN X2.here hx rfl (hb hby dmk0_20) rfl k) ?_
  refine own_go (U' := T2.setTop (mkF m 23 #[.val (.int (2 : Int32)), .val (.int p2), .val (.ref b1)] [(.int (8 : Int32)), (.int p2), (.int (1 : Int32)), (.ref b1)])) (fun t k => XS.bipush X2.here hx rfl (hb hby dmk0_21) k) ?_
  refine own_go (U' := T2.setTop (mkF m 24 #[.val (.int (2 : Int32)), .val (.int p2), .val (.ref b1)] [(.int (p2 >>> ((8 : Int32) &&& 31))), (.int (1 : Int32)), (.ref b1)])) (fun t k => XS.ishr X2.here hx rfl (hb hby dmk0_23) rfl k) ?_
  refine own_go (U' := T2.setTop (mkF m 25 #[.val (.int (2 : Int32)), .val (.int p2), .val (.ref b1)] [(.int ((p2 >>> ((8 : Int32) &&& 31)).toInt8.toInt32)), (.int (1 : Int32)), (.ref b1)])) (fun t k => XS.i2b X2.here hx rfl (hb hby dmk0_24) rfl k) ?_
  obtain ⟨T3, h3, X3, e3, W3, A3, st3⟩ := own_bastore X2 hx hZ e2 V_b1 (j := (1 : Int32)) (by decide) (i := 1) rfl (Nat.le_of_ble_eq_true rfl) (g := (mkF m 25 #[.val (.int (2 : Int32)), .val (.int p2), .val (.ref b1)] [(.int ((p2 >>> ((8 : Int32) &&& 31)).toInt8.toInt32)), (.int (1 : Int32)), (.ref b1)])) rfl rfl (hb hby dmk0_25)
  have K := K.wr W3 (Or.inr sz_b1)
  have O := O.wr W3 g_b1
  have E_b1 := E_b1.wr W3
  have V_b1 : own_Ar Z h3 b1 k1 .byte [(.int (p2.toInt8.toInt32).toInt8.toInt32), (.int ((p2 >>> ((8 : Int32) &&& 31)).toInt8.toInt32).toInt8.toInt32)] := A3
  have N3 := Fr.snoc X3 N2 g_b1
  refine own_go (U' := T3.setTop (mkF m 26 #[.val (.int (2 : Int32)), .val (.int p2), .val (.ref b1)] [])) st3 ?_
  refine own_go (U' := T3.setTop (mkF m 27 #[.val (.int (2 : Int32)), .val (.int p2), .val (.ref b1)] [(.int (2 : Int32))])) (fun t k => XS.iloadN X3.here hx rfl (hb hby dmk0_26) rfl k) ?_
  refine own_go (U' := T3.setTop (mkF m 28 #[.val (.int (2 : Int32)), .val (.int p2), .val (.ref b1)] [(.int (2 : Int32)), (.int (2 : Int32))])) (fun t k => XS.iconst X3.here hx rfl (hb hby dmk0_27) k) ?_
  refine own_go (U' := T3.setTop (mkF m 39 #[.val (.int (2 : Int32)), .val (.int p2), .val (.ref b1)] [])) (fun t k => XS.icmpYes X3.here hx rfl (pc0 := 28) (pc' := 39) rfl (hb hby dmk0_28) rfl (flt (by decide)).2.2.2 (by decide) (by decide) k) ?_
  refine own_go (U' := T3.setTop (mkF m 40 #[.val (.int (2 : Int32)), .val (.int p2), .val (.ref b1)] [(.ref b1)])) (fun t k => XS.aloadN X3.here hx rfl (hb hby dmk0_39) rfl rfl k) ?_
  rw [own_i8, own_i8] at V_b1
  refine own_retA X3 hx (t := (.array .byte)) hret rfl hlk rfl (hb hby dmk0_40) ?_ (by decide) (by decide)
  rw [e3]
  exact ⟨_, _, rfl, N3, K, sz_b1, g_b1, V_b1, E_b1⟩
theorem own_efmk3 (m : MethodId) (p2 : Int32) : entryFrame m #[(.int (3 : Int32)), (.int p2)] 3 = mkF m 0 #[.val (.int (3 : Int32)), .val (.int p2), .unset] [] := by first | (simp [entryFrame, mkF, argsToLocals, Value.category]; done) | rfl
set_option maxRecDepth 65536 in
set_option maxHeartbeats 40000000 in
theorem own_rmmk3 (l : Launch) (Z : State) (a0 : Array Value) (hw : ∀ d ∈ tables_1, d.before a0 Z = true) (p2 : Int32) (h0 : Heap) (n0 : Nat) (O : Old Z n0 h0) :
    own_C l Z (⟨"com/example/pagemark/pagemark/storage/KeyRangeBetweenPinLaw", "mk", "(II)[B"⟩ : MethodName) method_2_code 3 (some (.array .byte)) [] ({ frames := 0, cells := 1, slots := 3, locals := 0 } : Room) #[(.int (3 : Int32)), (.int p2)] h0 (fun v h L => ∃ x kx, v = some (.ref x) ∧ Fr n0 L ∧ Keep h0 h [] ∧ h0.size ≤ x ∧ n0 ≤ x ∧ own_Ar Z h x kx .byte (own_bs (own_mk 3 p2)) ∧ Exa Z h x "[B") := by
  refine own_body (plainFor_of_name own_pn2) fun p e s m below meth c s₁ hx hby hml hret hlk hown hnm hZ X0 e0 => ?_
  rw [own_efmk3 m p2]
  have N0 := Fr.nil n0
  have K := Keep.refl h0 []
  refine own_go (U' := s₁.setTop (mkF m 1 #[.val (.int (3 : Int32)), .val (.int p2), .unset] [(.int (3 : Int32))])) (fun t k => XS.iloadN X0.here hx rfl (hb hby dmk0_0) rfl k) ?_
  obtain ⟨T1, h1, k1, X1, e1, E1, A1, Y1, st1⟩ := own_newarr X0 hx hZ (hw _ (List.mem_of_getElem? (i := 4) rfl)) e0 (g := (mkF m 1 #[.val (.int (3 : Int32)), .val (.int p2), .unset] [(.int (3 : Int32))])) rfl (hb hby dmk0_1) rfl (by decide) (cap := 3) (by decide) (by decide) (by decide) (by decide) (ad := "[B") (by decide) rfl (vs := [(.int (0 : Int32)), (.int (0 : Int32)), (.int (0 : Int32))]) rfl
  obtain ⟨b1, g1⟩ : ∃ z, z = h0.size := ⟨_, rfl⟩
  rw [← g1] at A1 Y1 st1
  have g_b1 : n0 ≤ b1 := Nat.le_trans (Nat.le_trans (Nat.le_of_eq O.1.symm) O.2.1) (Nat.le_of_eq g1.symm)
  have sz_b1 : h0.size ≤ b1 := Nat.le_trans K.1 (Nat.le_of_eq g1.symm)
  have K := K.ext E1
  have O := O.ext E1
  have V_b1 : own_Ar Z h1 b1 k1 .byte [(.int (0 : Int32)), (.int (0 : Int32)), (.int (0 : Int32))] := A1
  have E_b1 := Y1
  refine own_go (U' := T1.setTop (mkF m 3 #[.val (.int (3 : Int32)), .val (.int p2), .unset] [(.ref b1)])) st1 ?_
  refine own_go (U' := T1.setTop (mkF m 4 #[.val (.int (3 : Int32)), .val (.int p2), .val (.ref b1)] [])) (fun t k => XS.astoreN X1.here hx rfl (hb hby dmk0_3) rfl rfl (l' := #[.val (.int (3 : Int32)), .val (.int p2), .val (.ref b1)]) rfl k) ?_
  refine own_go (U' := T1.setTop (mkF m 5 #[.val (.int (3 : Int32)), .val (.int p2), .val (.ref b1)] [(.int (3 : Int32))])) (fun t k => XS.iloadN X1.here hx rfl (hb hby dmk0_4) rfl k) ?_
  refine own_go (U' := T1.setTop (mkF m 8 #[.val (.int (3 : Int32)), .val (.int p2), .val (.ref b1)] [])) (fun t k => XS.ifNo X1.here hx rfl (hb hby dmk0_5) rfl ((if0 _ _).trans (tlt (by decide)).2.2.2) k) ?_
  refine own_go (U' := T1.setTop (mkF m 9 #[.val (.int (3 : Int32)), .val (.int p2), .val (.ref b1)] [(.ref b1)])) (fun t k => XS.aloadN X1.here hx rfl (hb hby dmk0_8) rfl rfl k) ?_
  refine own_go (U' := T1.setTop (mkF m 10 #[.val (.int (3 : Int32)), .val (.int p2), .val (.ref b1)] [(.int (0 : Int32)), (.ref b1)])) (fun t k => XS.iconst X1.here hx rfl (hb hby dmk0_9) k) ?_
  refine own_go (U' := T1.setTop (mkF m 11 #[.val (.int (3 : Int32)), .val (.int p2), .val (.ref b1)] [(.int p2), (.int (0 : Int32)), (.ref b1)])) (fun t k => XS.iloadN X1.here hx rfl (hb hby dmk0_10) rfl k) ?_
  refine own_go (U' := T1.setTop (mkF m 12 #[.val (.int (3 : Int32)), .val (.int p2), .val (.ref b1)] [(.int (p2.toInt8.toInt32)), (.int (0 : Int32)), (.ref b1)])) (fun t k => XS.i2b X1.here hx rfl (hb hby dmk0_11) rfl k) ?_
  obtain ⟨T2, h2, X2, e2, W2, A2, st2⟩ := own_bastore X1 hx hZ e1 V_b1 (j := (0 : Int32)) (by decide) (i := 0) rfl (Nat.le_of_ble_eq_true rfl) (g := (mkF m 12 #[.val (.int (3 : Int32)), .val (.int p2), .val (.ref b1)] [(.int (p2.toInt8.toInt32)), (.int (0 : Int32)), (.ref b1)])) rfl rfl (hb hby dmk0_12)
  have K := K.wr W2 (Or.inr sz_b1)
  have O := O.wr W2 g_b1
  have E_b1 := E_b1.wr W2
  have V_b1 : own_Ar Z h2 b1 k1 .byte [(.int (p2.toInt8.toInt32).toInt8.toInt32), (.int (0 : Int32)), (.int (0 : Int32))] := A2
  have N2 := Fr.snoc X2 N0 g_b1
  refine own_go (U' := T2.setTop (mkF m 13 #[.val (.int (3 : Int32)), .val (.int p2), .val (.ref b1)] [])) st2 ?_
  refine own_go (U' := T2.setTop (mkF m 14 #[.val (.int (3 : Int32)), .val (.int p2), .val (.ref b1)] [(.int (3 : Int32))])) (fun t k => XS.iloadN X2.here hx rfl (hb hby dmk0_13) rfl k) ?_
  refine own_go (U' := T2.setTop (mkF m 15 #[.val (.int (3 : Int32)), .val (.int p2), .val (.ref b1)] [(.int (1 : Int32)), (.int (3 : Int32))])) (fun t k => XS.iconst X2.here hx rfl (hb hby dmk0_14) k) ?_
  refine own_go (U' := T2.setTop (mkF m 18 #[.val (.int (3 : Int32)), .val (.int p2), .val (.ref b1)] [])) (fun t k => XS.icmpNo X2.here hx rfl (hb hby dmk0_15) rfl (tlt (by decide)).2.2.2 k) ?_
  refine own_go (U' := T2.setTop (mkF m 19 #[.val (.int (3 : Int32)), .val (.int p2), .val (.ref b1)] [(.ref b1)])) (fun t k => XS.aloadN X2.here hx rfl (hb hby dmk0_18) rfl rfl k) ?_
  refine own_go (U' := T2.setTop (mkF m 20 #[.val (.int (3 : Int32)), .val (.int p2), .val (.ref b1)] [(.int (1 : Int32)), (.ref b1)])) (fun t k => XS.iconst X2.here hx rfl (hb hby dmk0_19) k) ?_
  refine own_go (U' := T2.setTop (mkF m 21 #[.val (.int (3 : Int32)), .val (.int p2), .val (.ref b1)] [(.int p2), (.int (1 : Int32)), (.ref b1)])) (fun t k => XS.iloadN X2.here hx rfl (hb hby dmk0_20) rfl k) ?_
  refine own_go (U' := T2.setTop (mkF m 23 #[.val (.int (3 : Int32)), .val (.int p2), .val (.ref b1)] [(.int (8 : Int32)), (.int p2), (.int (1 : Int32)), (.ref b1)])) (fun t k => XS.bipush X2.here hx rfl (hb hby dmk0_21) k) ?_
  refine own_go (U' := T2.setTop (mkF m 24 #[.val (.int (3 : Int32)), .val (.int p2), .val (.ref b1)] [(.int (p2 >>> ((8 : Int32) &&& 31))), (.int (1 : Int32)), (.ref b1)])) (fun t k => XS.ishr X2.here hx rfl (hb hby dmk0_23) rfl k) ?_
  refine own_go (U' := T2.setTop (mkF m 25 #[.val (.int (3 : Int32)), .val (.int p2), .val (.ref b1)] [(.int ((p2 >>> ((8 : Int32) &&& 31)).toInt8.toInt32)), (.int (1 : Int32)), (.ref b1)])) (fun t k => XS.i2b X2.here hx rfl (hb hby dmk0_24) rfl k) ?_
  obtain ⟨T3, h3, X3, e3, W3, A3, st3⟩ := own_bastore X2 hx hZ e2 V_b1 (j := (1 : Int32)) (by decide) (i := 1) rfl (Nat.le_of_ble_eq_true rfl) (g := (mkF m 25 #[.val (.int (3 : Int32)), .val (.int p2), .val (.ref b1)] [(.int ((p2 >>> ((8 : Int32) &&& 31)).toInt8.toInt32)), (.int (1 : Int32)), (.ref b1)])) rfl rfl (hb hby dmk0_25)
  have K := K.wr W3 (Or.inr sz_b1)
  have O := O.wr W3 g_b1
  have E_b1 := E_b1.wr W3
  have V_b1 : own_Ar Z h3 b1 k1 .byte [(.int (p2.toInt8.toInt32).toInt8.toInt32), (.int ((p2 >>> ((8 : Int32) &&& 31)).toInt8.toInt32).toInt8.toInt32), (.int (0 : Int32))] := A3
  have N3 := Fr.snoc X3 N2 g_b1
  refine own_go (U' := T3.setTop (mkF m 26 #[.val (.int (3 : Int32)), .val (.int p2), .val (.ref b1)] [])) st3 ?_
  refine own_go (U' := T3.setTop (mkF m 27 #[.val (.int (3 : Int32)), .val (.int p2), .val (.ref b1)] [(.int (3 : Int32))])) (fun t k => XS.iloadN X3.here hx rfl (hb hby dmk0_26) rfl k) ?_
  refine own_go (U' := T3.setTop (mkF m 28 #[.val (.int (3 : Int32)), .val (.int p2), .val (.ref b1)] [(.int (2 : Int32)), (.int (3 : Int32))])) (fun t k => XS.iconst X3.here hx rfl (hb hby dmk0_27) k) ?_
  refine own_go (U' := T3.setTop (mkF m 31 #[.val (.int (3 : Int32)), .val (.int p2), .val (.ref b1)] [])) (fun t k => XS.icmpNo X3.here hx rfl (hb hby dmk0_28) rfl (tlt (by decide)).2.2.2 k) ?_
  refine own_go (U' := T3.setTop (mkF m 32 #[.val (.int (3 : Int32)), .val (.int p2), .val (.ref b1)] [(.ref b1)])) (fun t k => XS.aloadN X3.here hx rfl (hb hby dmk0_31) rfl rfl k) ?_
  refine own_go (U' := T3.setTop (mkF m 33 #[.val (.int (3 : Int32)), .val (.int p2), .val (.ref b1)] [(.int (2 : Int32)), (.ref b1)])) (fun t k => XS.iconst X3.here hx rfl (hb hby dmk0_32) k) ?_
  refine own_go (U' := T3.setTop (mkF m 34 #[.val (.int (3 : Int32)), .val (.int p2), .val (.ref b1)] [(.int p2), (.int (2 : Int32)), (.ref b1)])) (fun t k => XS.iloadN X3.here hx rfl (hb hby dmk0_33) rfl k) ?_
  refine own_go (U' := T3.setTop (mkF m 36 #[.val (.int (3 : Int32)), .val (.int p2), .val (.ref b1)] [(.int (16 : Int32)), (.int p2), (.int (2 : Int32)), (.ref b1)])) (fun t k => XS.bipush X3.here hx rfl (hb hby dmk0_34) k) ?_
  refine own_go (U' := T3.setTop (mkF m 37 #[.val (.int (3 : Int32)), .val (.int p2), .val (.ref b1)] [(.int (p2 >>> ((16 : Int32) &&& 31))), (.int (2 : Int32)), (.ref b1)])) (fun t k => XS.ishr X3.here hx rfl (hb hby dmk0_36) rfl k) ?_
  refine own_go (U' := T3.setTop (mkF m 38 #[.val (.int (3 : Int32)), .val (.int p2), .val (.ref b1)] [(.int ((p2 >>> ((16 : Int32) &&& 31)).toInt8.toInt32)), (.int (2 : Int32)), (.ref b1)])) (fun t k => XS.i2b X3.here hx rfl (hb hby dmk0_37) rfl k) ?_
  obtain ⟨T4, h4, X4, e4, W4, A4, st4⟩ := own_bastore X3 hx hZ e3 V_b1 (j := (2 : Int32)) (by decide) (i := 2) rfl (Nat.le_of_ble_eq_true rfl) (g := (mkF m 38 #[.val (.int (3 : Int32)), .val (.int p2), .val (.ref b1)] [(.int ((p2 >>> ((16 : Int32) &&& 31)).toInt8.toInt32)), (.int (2 : Int32)), (.ref b1)])) rfl rfl (hb hby dmk0_38)
  have K := K.wr W4 (Or.inr sz_b1)
  have O := O.wr W4 g_b1
  have E_b1 := E_b1.wr W4
  have V_b1 : own_Ar Z h4 b1 k1 .byte [(.int (p2.toInt8.toInt32).toInt8.toInt32), (.int ((p2 >>> ((8 : Int32) &&& 31)).toInt8.toInt32).toInt8.toInt32), (.int ((p2 >>> ((16 : Int32) &&& 31)).toInt8.toInt32).toInt8.toInt32)] := A4
  have N4 := Fr.snoc X4 N3 g_b1
  refine own_go (U' := T4.setTop (mkF m 39 #[.val (.int (3 : Int32)), .val (.int p2), .val (.ref b1)] [])) st4 ?_
  refine own_go (U' := T4.setTop (mkF m 40 #[.val (.int (3 : Int32)), .val (.int p2), .val (.ref b1)] [(.ref b1)])) (fun t k => XS.aloadN X4.here hx rfl (hb hby dmk0_39) rfl rfl k) ?_
  rw [own_i8, own_i8, own_i8] at V_b1
  refine own_retA X4 hx (t := (.array .byte)) hret rfl hlk rfl (hb hby dmk0_40) ?_ (by decide) (by decide)
  rw [e4]
  exact ⟨_, _, rfl, N4, K, sz_b1, g_b1, V_b1, E_b1⟩
theorem own_rmmk (l : Launch) (Z : State) (a0 : Array Value) (hw : ∀ d ∈ tables_1, d.before a0 Z = true) (k : Nat) (p2 : Int32) (h0 : Heap) (n0 : Nat) (O : Old Z n0 h0) (hk : k ≤ 3) : own_C l Z (⟨"com/example/pagemark/pagemark/storage/KeyRangeBetweenPinLaw", "mk", "(II)[B"⟩ : MethodName) method_2_code 3 (some (.array .byte)) [] ({ frames := 0, cells := 1, slots := 3, locals := 0 } : Room) #[.int (Int32.ofNat k), .int p2] h0 (fun v h L => ∃ x kx, v = some (.ref x) ∧ Fr n0 L ∧ Keep h0 h [] ∧ h0.size ≤ x ∧ n0 ≤ x ∧ own_Ar Z h x kx .byte (own_bs (own_mk k p2)) ∧ Exa Z h x "[B") := by
  have : k = 0 ∨ k = 1 ∨ k = 2 ∨ k = 3 := by omega
  rcases this with rfl | rfl | rfl | rfl
  · exact own_rmmk0 l Z a0 hw p2 h0 n0 O
  · exact own_rmmk1 l Z a0 hw p2 h0 n0 O
  · exact own_rmmk2 l Z a0 hw p2 h0 n0 O
  · exact own_rmmk3 l Z a0 hw p2 h0 n0 O
theorem dle_0 : decode method_3_code 0 = .ok (.aload_n 0, 1) := by decide +kernel
theorem dle_1 : decode method_3_code 1 = .ok (.arraylength, 1) := by decide +kernel
theorem dle_2 : decode method_3_code 2 = .ok (.istore_n 1, 1) := by decide +kernel
theorem dle_3 : decode method_3_code 3 = .ok (.iload_n 1, 1) := by decide +kernel
theorem dle_4 : decode method_3_code 4 = .ok (.iconst 3, 1) := by decide +kernel
theorem dle_5 : decode method_3_code 5 = .ok (.if_icmp .lt 35, 3) := by decide +kernel
theorem dle_8 : decode method_3_code 8 = .ok (.aload_n 0, 1) := by decide +kernel
theorem dle_9 : decode method_3_code 9 = .ok (.iconst 2, 1) := by decide +kernel
theorem dle_10 : decode method_3_code 10 = .ok (.baload, 1) := by decide +kernel
theorem dle_11 : decode method_3_code 11 = .ok (.iconst (-1), 1) := by decide +kernel
theorem dle_12 : decode method_3_code 12 = .ok (.if_icmp .eq 28, 3) := by decide +kernel
theorem dle_15 : decode method_3_code 15 = .ok (.iconst 3, 1) := by decide +kernel
theorem dle_16 : decode method_3_code 16 = .ok (.newarray .byte, 2) := by decide +kernel
theorem dle_18 : decode method_3_code 18 = .ok (.dup, 1) := by decide +kernel
theorem dle_19 : decode method_3_code 19 = .ok (.iconst 0, 1) := by decide +kernel
theorem dle_20 : decode method_3_code 20 = .ok (.aload_n 0, 1) := by decide +kernel
theorem dle_21 : decode method_3_code 21 = .ok (.iconst 0, 1) := by decide +kernel
theorem dle_22 : decode method_3_code 22 = .ok (.baload, 1) := by decide +kernel
theorem dle_23 : decode method_3_code 23 = .ok (.bastore, 1) := by decide +kernel
theorem dle_24 : decode method_3_code 24 = .ok (.dup, 1) := by decide +kernel
theorem dle_25 : decode method_3_code 25 = .ok (.iconst 1, 1) := by decide +kernel
theorem dle_26 : decode method_3_code 26 = .ok (.aload_n 0, 1) := by decide +kernel
theorem dle_27 : decode method_3_code 27 = .ok (.iconst 1, 1) := by decide +kernel
theorem dle_28 : decode method_3_code 28 = .ok (.baload, 1) := by decide +kernel
theorem dle_29 : decode method_3_code 29 = .ok (.bastore, 1) := by decide +kernel
theorem dle_30 : decode method_3_code 30 = .ok (.dup, 1) := by decide +kernel
theorem dle_31 : decode method_3_code 31 = .ok (.iconst 2, 1) := by decide +kernel
theorem dle_32 : decode method_3_code 32 = .ok (.aload_n 0, 1) := by decide +kernel
theorem dle_33 : decode method_3_code 33 = .ok (.iconst 2, 1) := by decide +kernel
theorem dle_34 : decode method_3_code 34 = .ok (.baload, 1) := by decide +kernel
theorem dle_35 : decode method_3_code 35 = .ok (.iconst 1, 1) := by decide +kernel
theorem dle_36 : decode method_3_code 36 = .ok (.iadd, 1) := by decide +kernel
theorem dle_37 : decode method_3_code 37 = .ok (.i2b, 1) := by decide +kernel
theorem dle_38 : decode method_3_code 38 = .ok (.bastore, 1) := by decide +kernel
theorem dle_39 : decode method_3_code 39 = .ok (.areturn, 1) := by decide +kernel
theorem dle_40 : decode method_3_code 40 = .ok (.iload_n 1, 1) := by decide +kernel
theorem dle_41 : decode method_3_code 41 = .ok (.iconst 2, 1) := by decide +kernel
theorem dle_42 : decode method_3_code 42 = .ok (.if_icmp .lt 29, 3) := by decide +kernel
theorem dle_45 : decode method_3_code 45 = .ok (.aload_n 0, 1) := by decide +kernel
theorem dle_46 : decode method_3_code 46 = .ok (.iconst 1, 1) := by decide +kernel
theorem dle_47 : decode method_3_code 47 = .ok (.baload, 1) := by decide +kernel
theorem dle_48 : decode method_3_code 48 = .ok (.iconst (-1), 1) := by decide +kernel
theorem dle_49 : decode method_3_code 49 = .ok (.if_icmp .eq 22, 3) := by decide +kernel
theorem dle_52 : decode method_3_code 52 = .ok (.iconst 2, 1) := by decide +kernel
theorem dle_53 : decode method_3_code 53 = .ok (.newarray .byte, 2) := by decide +kernel
theorem dle_55 : decode method_3_code 55 = .ok (.dup, 1) := by decide +kernel
theorem dle_56 : decode method_3_code 56 = .ok (.iconst 0, 1) := by decide +kernel
theorem dle_57 : decode method_3_code 57 = .ok (.aload_n 0, 1) := by decide +kernel
theorem dle_58 : decode method_3_code 58 = .ok (.iconst 0, 1) := by decide +kernel
theorem dle_59 : decode method_3_code 59 = .ok (.baload, 1) := by decide +kernel
theorem dle_60 : decode method_3_code 60 = .ok (.bastore, 1) := by decide +kernel
theorem dle_61 : decode method_3_code 61 = .ok (.dup, 1) := by decide +kernel
theorem dle_62 : decode method_3_code 62 = .ok (.iconst 1, 1) := by decide +kernel
theorem dle_63 : decode method_3_code 63 = .ok (.aload_n 0, 1) := by decide +kernel
theorem dle_64 : decode method_3_code 64 = .ok (.iconst 1, 1) := by decide +kernel
theorem dle_65 : decode method_3_code 65 = .ok (.baload, 1) := by decide +kernel
theorem dle_66 : decode method_3_code 66 = .ok (.iconst 1, 1) := by decide +kernel
theorem dle_67 : decode method_3_code 67 = .ok (.iadd, 1) := by decide +kernel
theorem dle_68 : decode method_3_code 68 = .ok (.i2b, 1) := by decide +kernel
theorem dle_69 : decode method_3_code 69 = .ok (.bastore, 1) := by decide +kernel
theorem dle_70 : decode method_3_code 70 = .ok (.areturn, 1) := by decide +kernel
theorem dle_71 : decode method_3_code 71 = .ok (.iload_n 1, 1) := by decide +kernel
theorem dle_72 : decode method_3_code 72 = .ok (.iconst 1, 1) := by decide +kernel
theorem dle_73 : decode method_3_code 73 = .ok (.if_icmp .lt 23, 3) := by decide +kernel
theorem dle_76 : decode method_3_code 76 = .ok (.aload_n 0, 1) := by decide +kernel
theorem dle_77 : decode method_3_code 77 = .ok (.iconst 0, 1) := by decide +kernel
theorem dle_78 : decode method_3_code 78 = .ok (.baload, 1) := by decide +kernel
theorem dle_79 : decode method_3_code 79 = .ok (.iconst (-1), 1) := by decide +kernel
theorem dle_80 : decode method_3_code 80 = .ok (.if_icmp .eq 16, 3) := by decide +kernel
theorem dle_83 : decode method_3_code 83 = .ok (.iconst 1, 1) := by decide +kernel
theorem dle_84 : decode method_3_code 84 = .ok (.newarray .byte, 2) := by decide +kernel
theorem dle_86 : decode method_3_code 86 = .ok (.dup, 1) := by decide +kernel
theorem dle_87 : decode method_3_code 87 = .ok (.iconst 0, 1) := by decide +kernel
theorem dle_88 : decode method_3_code 88 = .ok (.aload_n 0, 1) := by decide +kernel
theorem dle_89 : decode method_3_code 89 = .ok (.iconst 0, 1) := by decide +kernel
theorem dle_90 : decode method_3_code 90 = .ok (.baload, 1) := by decide +kernel
theorem dle_91 : decode method_3_code 91 = .ok (.iconst 1, 1) := by decide +kernel
theorem dle_92 : decode method_3_code 92 = .ok (.iadd, 1) := by decide +kernel
theorem dle_93 : decode method_3_code 93 = .ok (.i2b, 1) := by decide +kernel
theorem dle_94 : decode method_3_code 94 = .ok (.bastore, 1) := by decide +kernel
theorem dle_95 : decode method_3_code 95 = .ok (.areturn, 1) := by decide +kernel
theorem dle_96 : decode method_3_code 96 = .ok (.aconst_null, 1) := by decide +kernel
theorem dle_97 : decode method_3_code 97 = .ok (.areturn, 1) := by decide +kernel
theorem own_efle (m : MethodId) (a : Addr) : entryFrame m #[(.ref a)] 2 = mkF m 0 #[.val (.ref a), .unset] [] := by first | (simp [entryFrame, mkF, argsToLocals, Value.category]; done) | rfl
set_option maxRecDepth 65536 in
set_option maxHeartbeats 40000000 in
theorem own_rmle (l : Launch) (Z : State) (a0 : Array Value) (hw : ∀ d ∈ tables_1, d.before a0 Z = true) (a : Addr) (h0 : Heap) (n0 : Nat) (bs : List Int32) (ka : ClassId) (hb3 : bs.length ≤ 3) (hby8 : ∀ x ∈ bs, x.toInt8.toInt32 = x) (O : Old Z n0 h0) (V_a : own_Ar Z h0 a ka .byte (own_bs bs)) (E_a : Exa Z h0 a "[B") :
    own_C l Z (⟨"com/example/pagemark/pagemark/storage/KeyRangeBetweenPinLaw", "eop", "([B)[B"⟩ : MethodName) method_3_code 2 (some (.array .byte)) [] ({ frames := 0, cells := 1, slots := 3, locals := 0 } : Room) #[(.ref a)] h0 (own_QE Z n0 h0 (own_eop bs bs.length)) := by
  refine own_body (plainFor_of_name own_pn2) fun p e s m below meth c s₁ hx hby hml hret hlk hown hnm hZ X0 e0 => ?_
  rw [own_efle m a]
  have N0 := Fr.nil n0
  have K := Keep.refl h0 []
  rcases own_len3 hb3 with rfl | ⟨x0, rfl⟩ | ⟨x0, x1, rfl⟩ | ⟨x0, x1, x2, rfl⟩
  · skip
    refine own_go (U' := s₁.setTop (mkF m 1 #[.val (.ref a), .unset] [(.ref a)])) (fun t k => XS.aloadN X0.here hx rfl (hb hby dle_0) rfl rfl k) ?_
    refine own_go (U' := s₁.setTop (mkF m 2 #[.val (.ref a), .unset] [(.int (0 : Int32))])) (own_arrlen X0 hx hZ e0 V_a (n := (0 : Int32)) rfl (g := (mkF m 1 #[.val (.ref a), .unset] [(.ref a)])) rfl rfl (hb hby dle_1)) ?_
    refine own_go (U' := s₁.setTop (mkF m 3 #[.val (.ref a), .val (.int (0 : Int32))] [])) (fun t k => XS.istoreN X0.here hx rfl (hb hby dle_2) rfl (l' := #[.val (.ref a), .val (.int (0 : Int32))]) rfl k) ?_
    refine own_go (U' := s₁.setTop (mkF m 4 #[.val (.ref a), .val (.int (0 : Int32))] [(.int (0 : Int32))])) (fun t k => XS.iloadN X0.here hx rfl (hb hby dle_3) rfl k) ?_
    refine own_go (U' := s₁.setTop (mkF m 5 #[.val (.ref a), .val (.int (0 : Int32))] [(.int (3 : Int32)), (.int (0 : Int32))])) (fun t k => XS.iconst X0.here hx rfl (hb hby dle_4) k) ?_
    refine own_go (U' := s₁.setTop (mkF m 40 #[.val (.ref a), .val (.int (0 : Int32))] [])) (fun t k => XS.icmpYes X0.here hx rfl (pc0 := 5) (pc' := 40) rfl (hb hby dle_5) rfl (tlt (by decide)).1 (by decide) (by decide) k) ?_
    refine own_go (U' := s₁.setTop (mkF m 41 #[.val (.ref a), .val (.int (0 : Int32))] [(.int (0 : Int32))])) (fun t k => XS.iloadN X0.here hx rfl (hb hby dle_40) rfl k) ?_
    refine own_go (U' := s₁.setTop (mkF m 42 #[.val (.ref a), .val (.int (0 : Int32))] [(.int (2 : Int32)), (.int (0 : Int32))])) (fun t k => XS.iconst X0.here hx rfl (hb hby dle_41) k) ?_
    refine own_go (U' := s₁.setTop (mkF m 71 #[.val (.ref a), .val (.int (0 : Int32))] [])) (fun t k => XS.icmpYes X0.here hx rfl (pc0 := 42) (pc' := 71) rfl (hb hby dle_42) rfl (tlt (by decide)).1 (by decide) (by decide) k) ?_
    refine own_go (U' := s₁.setTop (mkF m 72 #[.val (.ref a), .val (.int (0 : Int32))] [(.int (0 : Int32))])) (fun t k => XS.iloadN X0.here hx rfl (hb hby dle_71) rfl k) ?_
    refine own_go (U' := s₁.setTop (mkF m 73 #[.val (.ref a), .val (.int (0 : Int32))] [(.int (1 : Int32)), (.int (0 : Int32))])) (fun t k => XS.iconst X0.here hx rfl (hb hby dle_72) k) ?_
    refine own_go (U' := s₁.setTop (mkF m 96 #[.val (.ref a), .val (.int (0 : Int32))] [])) (fun t k => XS.icmpYes X0.here hx rfl (pc0 := 73) (pc' := 96) rfl (hb hby dle_73) rfl (tlt (by decide)).1 (by decide) (by decide) k) ?_
    refine own_go (U' := s₁.setTop (mkF m 97 #[.val (.ref a), .val (.int (0 : Int32))] [.null])) (fun t k => XS.aconstNull X0.here hx rfl (hb hby dle_96) k) ?_
    have hE : own_eop ([] : List Int32) ([] : List Int32).length = none := by simp [own_eop]
    refine own_retA X0 hx (t := (.array .byte)) hret rfl hlk rfl (hb hby dle_97) ?_ (by decide) (by decide)
    rw [e0, hE]
    exact ⟨rfl, N0, K⟩
  · skip
    have y0 : x0.toInt8.toInt32 = x0 := hby8 _ (by simp)
    refine own_go (U' := s₁.setTop (mkF m 1 #[.val (.ref a), .unset] [(.ref a)])) (fun t k => XS.aloadN X0.here hx rfl (hb hby dle_0) rfl rfl k) ?_
    refine own_go (U' := s₁.setTop (mkF m 2 #[.val (.ref a), .unset] [(.int (1 : Int32))])) (own_arrlen X0 hx hZ e0 V_a (n := (1 : Int32)) rfl (g := (mkF m 1 #[.val (.ref a), .unset] [(.ref a)])) rfl rfl (hb hby dle_1)) ?_
    refine own_go (U' := s₁.setTop (mkF m 3 #[.val (.ref a), .val (.int (1 : Int32))] [])) (fun t k => XS.istoreN X0.here hx rfl (hb hby dle_2) rfl (l' := #[.val (.ref a), .val (.int (1 : Int32))]) rfl k) ?_
    refine own_go (U' := s₁.setTop (mkF m 4 #[.val (.ref a), .val (.int (1 : Int32))] [(.int (1 : Int32))])) (fun t k => XS.iloadN X0.here hx rfl (hb hby dle_3) rfl k) ?_
    refine own_go (U' := s₁.setTop (mkF m 5 #[.val (.ref a), .val (.int (1 : Int32))] [(.int (3 : Int32)), (.int (1 : Int32))])) (fun t k => XS.iconst X0.here hx rfl (hb hby dle_4) k) ?_
    refine own_go (U' := s₁.setTop (mkF m 40 #[.val (.ref a), .val (.int (1 : Int32))] [])) (fun t k => XS.icmpYes X0.here hx rfl (pc0 := 5) (pc' := 40) rfl (hb hby dle_5) rfl (tlt (by decide)).1 (by decide) (by decide) k) ?_
    refine own_go (U' := s₁.setTop (mkF m 41 #[.val (.ref a), .val (.int (1 : Int32))] [(.int (1 : Int32))])) (fun t k => XS.iloadN X0.here hx rfl (hb hby dle_40) rfl k) ?_
    refine own_go (U' := s₁.setTop (mkF m 42 #[.val (.ref a), .val (.int (1 : Int32))] [(.int (2 : Int32)), (.int (1 : Int32))])) (fun t k => XS.iconst X0.here hx rfl (hb hby dle_41) k) ?_
    refine own_go (U' := s₁.setTop (mkF m 71 #[.val (.ref a), .val (.int (1 : Int32))] [])) (fun t k => XS.icmpYes X0.here hx rfl (pc0 := 42) (pc' := 71) rfl (hb hby dle_42) rfl (tlt (by decide)).1 (by decide) (by decide) k) ?_
    refine own_go (U' := s₁.setTop (mkF m 72 #[.val (.ref a), .val (.int (1 : Int32))] [(.int (1 : Int32))])) (fun t k => XS.iloadN X0.here hx rfl (hb hby dle_71) rfl k) ?_
    refine own_go (U' := s₁.setTop (mkF m 73 #[.val (.ref a), .val (.int (1 : Int32))] [(.int (1 : Int32)), (.int (1 : Int32))])) (fun t k => XS.iconst X0.here hx rfl (hb hby dle_72) k) ?_
    refine own_go (U' := s₁.setTop (mkF m 76 #[.val (.ref a), .val (.int (1 : Int32))] [])) (fun t k => XS.icmpNo X0.here hx rfl (hb hby dle_73) rfl (flt (by decide)).1 k) ?_
    refine own_go (U' := s₁.setTop (mkF m 77 #[.val (.ref a), .val (.int (1 : Int32))] [(.ref a)])) (fun t k => XS.aloadN X0.here hx rfl (hb hby dle_76) rfl rfl k) ?_
    refine own_go (U' := s₁.setTop (mkF m 78 #[.val (.ref a), .val (.int (1 : Int32))] [(.int (0 : Int32)), (.ref a)])) (fun t k => XS.iconst X0.here hx rfl (hb hby dle_77) k) ?_
    refine own_go (U' := s₁.setTop (mkF m 79 #[.val (.ref a), .val (.int (1 : Int32))] [(.int x0)])) (own_baload X0 hx hZ e0 V_a (j := (0 : Int32)) (by decide) (i := 0) rfl (v := (.int x0)) rfl (g := (mkF m 78 #[.val (.ref a), .val (.int (1 : Int32))] [(.int (0 : Int32)), (.ref a)])) rfl rfl (hb hby dle_78)) ?_
    refine own_go (U' := s₁.setTop (mkF m 80 #[.val (.ref a), .val (.int (1 : Int32))] [(.int (-1 : Int32)), (.int x0)])) (fun t k => XS.iconst X0.here hx rfl (hb hby dle_79) k) ?_
    by_cases hy0 : x0 = (-1 : Int32)
    · skip
      refine own_go (U' := s₁.setTop (mkF m 96 #[.val (.ref a), .val (.int (1 : Int32))] [])) (fun t k => XS.icmpYes X0.here hx rfl (pc0 := 80) (pc' := 96) rfl (hb hby dle_80) rfl (teq hy0).1 (by decide) (by decide) k) ?_
      refine own_go (U' := s₁.setTop (mkF m 97 #[.val (.ref a), .val (.int (1 : Int32))] [.null])) (fun t k => XS.aconstNull X0.here hx rfl (hb hby dle_96) k) ?_
      have hE : own_eop ([x0] : List Int32) ([x0] : List Int32).length = none := by simp [own_eop, hy0]
      refine own_retA X0 hx (t := (.array .byte)) hret rfl hlk rfl (hb hby dle_97) ?_ (by decide) (by decide)
      rw [e0, hE]
      exact ⟨rfl, N0, K⟩
    · skip
      refine own_go (U' := s₁.setTop (mkF m 83 #[.val (.ref a), .val (.int (1 : Int32))] [])) (fun t k => XS.icmpNo X0.here hx rfl (hb hby dle_80) rfl (feq hy0).1 k) ?_
      refine own_go (U' := s₁.setTop (mkF m 84 #[.val (.ref a), .val (.int (1 : Int32))] [(.int (1 : Int32))])) (fun t k => XS.iconst X0.here hx rfl (hb hby dle_83) k) ?_
      obtain ⟨T1, h1, k1, X1, e1, E1, A1, Y1, st1⟩ := own_newarr X0 hx hZ (hw _ (List.mem_of_getElem? (i := 4) rfl)) e0 (g := (mkF m 84 #[.val (.ref a), .val (.int (1 : Int32))] [(.int (1 : Int32))])) rfl (hb hby dle_84) rfl (by decide) (cap := 3) (by decide) (by decide) (by decide) (by decide) (ad := "[B") (by decide) rfl (vs := [(.int (0 : Int32))]) rfl
      obtain ⟨b1, g1⟩ : ∃ z, z = h0.size := ⟨_, rfl⟩
      rw [← g1] at A1 Y1 st1
      have ne_a_b1 : a ≠ b1 := Nat.ne_of_lt (Nat.lt_of_lt_of_eq E_a.lt g1.symm)
      have g_b1 : n0 ≤ b1 := Nat.le_trans (Nat.le_trans (Nat.le_of_eq O.1.symm) O.2.1) (Nat.le_of_eq g1.symm)
      have sz_b1 : h0.size ≤ b1 := Nat.le_trans K.1 (Nat.le_of_eq g1.symm)
      have K := K.ext E1
      have O := O.ext E1
      have E_a := E_a.ext E1
      have V_a := V_a.ext E1
      have V_b1 : own_Ar Z h1 b1 k1 .byte [(.int (0 : Int32))] := A1
      have E_b1 := Y1
      refine own_go (U' := T1.setTop (mkF m 86 #[.val (.ref a), .val (.int (1 : Int32))] [(.ref b1)])) st1 ?_
      refine own_go (U' := T1.setTop (mkF m 87 #[.val (.ref a), .val (.int (1 : Int32))] [(.ref b1), (.ref b1)])) (fun t k => XS.dup X1.here hx rfl (hb hby dle_86) rfl rfl k) ?_
      refine own_go (U' := T1.setTop (mkF m 88 #[.val (.ref a), .val (.int (1 : Int32))] [(.int (0 : Int32)), (.ref b1), (.ref b1)])) (fun t k => XS.iconst X1.here hx rfl (hb hby dle_87) k) ?_
      refine own_go (U' := T1.setTop (mkF m 89 #[.val (.ref a), .val (.int (1 : Int32))] [(.ref a), (.int (0 : Int32)), (.ref b1), (.ref b1)])) (fun t k => XS.aloadN X1.here hx rfl (hb hby dle_88) rfl rfl k) ?_
      refine own_go (U' := T1.setTop (mkF m 90 #[.val (.ref a), .val (.int (1 : Int32))] [(.int (0 : Int32)), (.ref a), (.int (0 : Int32)), (.ref b1), (.ref b1)])) (fun t k => XS.iconst X1.here hx rfl (hb hby dle_89) k) ?_
      refine own_go (U' := T1.setTop (mkF m 91 #[.val (.ref a), .val (.int (1 : Int32))] [(.int x0), (.int (0 : Int32)), (.ref b1), (.ref b1)])) (own_baload X1 hx hZ e1 V_a (j := (0 : Int32)) (by decide) (i := 0) rfl (v := (.int x0)) rfl (g := (mkF m 90 #[.val (.ref a), .val (.int (1 : Int32))] [(.int (0 : Int32)), (.ref a), (.int (0 : Int32)), (.ref b1), (.ref b1)])) rfl rfl (hb hby dle_90)) ?_
      refine own_go (U' := T1.setTop (mkF m 92 #[.val (.ref a), .val (.int (1 : Int32))] [(.int (1 : Int32)), (.int x0), (.int (0 : Int32)), (.ref b1), (.ref b1)])) (fun t k => XS.iconst X1.here hx rfl (hb hby dle_91) k) ?_
      refine own_go (U' := T1.setTop (mkF m 93 #[.val (.ref a), .val (.int (1 : Int32))] [(.int (x0 + (1 : Int32))), (.int (0 : Int32)), (.ref b1), (.ref b1)])) (fun t k => XS.iadd X1.here hx rfl (hb hby dle_92) rfl k) ?_
      refine own_go (U' := T1.setTop (mkF m 94 #[.val (.ref a), .val (.int (1 : Int32))] [(.int ((x0 + (1 : Int32)).toInt8.toInt32)), (.int (0 : Int32)), (.ref b1), (.ref b1)])) (fun t k => XS.i2b X1.here hx rfl (hb hby dle_93) rfl k) ?_
      obtain ⟨T2, h2, X2, e2, W2, A2, st2⟩ := own_bastore X1 hx hZ e1 V_b1 (j := (0 : Int32)) (by decide) (i := 0) rfl (Nat.le_of_ble_eq_true rfl) (g := (mkF m 94 #[.val (.ref a), .val (.int (1 : Int32))] [(.int ((x0 + (1 : Int32)).toInt8.toInt32)), (.int (0 : Int32)), (.ref b1), (.ref b1)])) rfl rfl (hb hby dle_94)
      have K := K.wr W2 (Or.inr sz_b1)
      have O := O.wr W2 g_b1
      have E_a := E_a.wr W2
      have V_a := V_a.other W2 ne_a_b1
      have E_b1 := E_b1.wr W2
      have V_b1 : own_Ar Z h2 b1 k1 .byte [(.int ((x0 + (1 : Int32)).toInt8.toInt32).toInt8.toInt32)] := A2
      have N2 := Fr.snoc X2 N0 g_b1
      refine own_go (U' := T2.setTop (mkF m 95 #[.val (.ref a), .val (.int (1 : Int32))] [(.ref b1)])) st2 ?_
      have hE : own_eop [x0] [x0].length = some [(x0 + (1 : Int32)).toInt8.toInt32] := by simp [own_eop, hy0]
      rw [own_i8] at V_b1
      refine own_retA X2 hx (t := (.array .byte)) hret rfl hlk rfl (hb hby dle_95) ?_ (by decide) (by decide)
      rw [e2, hE]
      exact ⟨_, _, rfl, N2, K, sz_b1, g_b1, V_b1, E_b1⟩
  · skip
    have y0 : x0.toInt8.toInt32 = x0 := hby8 _ (by simp)
    have y1 : x1.toInt8.toInt32 = x1 := hby8 _ (by simp)
    refine own_go (U' := s₁.setTop (mkF m 1 #[.val (.ref a), .unset] [(.ref a)])) (fun t k => XS.aloadN X0.here hx rfl (hb hby dle_0) rfl rfl k) ?_
    refine own_go (U' := s₁.setTop (mkF m 2 #[.val (.ref a), .unset] [(.int (2 : Int32))])) (own_arrlen X0 hx hZ e0 V_a (n := (2 : Int32)) rfl (g := (mkF m 1 #[.val (.ref a), .unset] [(.ref a)])) rfl rfl (hb hby dle_1)) ?_
    refine own_go (U' := s₁.setTop (mkF m 3 #[.val (.ref a), .val (.int (2 : Int32))] [])) (fun t k => XS.istoreN X0.here hx rfl (hb hby dle_2) rfl (l' := #[.val (.ref a), .val (.int (2 : Int32))]) rfl k) ?_
    refine own_go (U' := s₁.setTop (mkF m 4 #[.val (.ref a), .val (.int (2 : Int32))] [(.int (2 : Int32))])) (fun t k => XS.iloadN X0.here hx rfl (hb hby dle_3) rfl k) ?_
    refine own_go (U' := s₁.setTop (mkF m 5 #[.val (.ref a), .val (.int (2 : Int32))] [(.int (3 : Int32)), (.int (2 : Int32))])) (fun t k => XS.iconst X0.here hx rfl (hb hby dle_4) k) ?_
    refine own_go (U' := s₁.setTop (mkF m 40 #[.val (.ref a), .val (.int (2 : Int32))] [])) (fun t k => XS.icmpYes X0.here hx rfl (pc0 := 5) (pc' := 40) rfl (hb hby dle_5) rfl (tlt (by decide)).1 (by decide) (by decide) k) ?_
    refine own_go (U' := s₁.setTop (mkF m 41 #[.val (.ref a), .val (.int (2 : Int32))] [(.int (2 : Int32))])) (fun t k => XS.iloadN X0.here hx rfl (hb hby dle_40) rfl k) ?_
    refine own_go (U' := s₁.setTop (mkF m 42 #[.val (.ref a), .val (.int (2 : Int32))] [(.int (2 : Int32)), (.int (2 : Int32))])) (fun t k => XS.iconst X0.here hx rfl (hb hby dle_41) k) ?_
    refine own_go (U' := s₁.setTop (mkF m 45 #[.val (.ref a), .val (.int (2 : Int32))] [])) (fun t k => XS.icmpNo X0.here hx rfl (hb hby dle_42) rfl (flt (by decide)).1 k) ?_
    refine own_go (U' := s₁.setTop (mkF m 46 #[.val (.ref a), .val (.int (2 : Int32))] [(.ref a)])) (fun t k => XS.aloadN X0.here hx rfl (hb hby dle_45) rfl rfl k) ?_
    refine own_go (U' := s₁.setTop (mkF m 47 #[.val (.ref a), .val (.int (2 : Int32))] [(.int (1 : Int32)), (.ref a)])) (fun t k => XS.iconst X0.here hx rfl (hb hby dle_46) k) ?_
    refine own_go (U' := s₁.setTop (mkF m 48 #[.val (.ref a), .val (.int (2 : Int32))] [(.int x1)])) (own_baload X0 hx hZ e0 V_a (j := (1 : Int32)) (by decide) (i := 1) rfl (v := (.int x1)) rfl (g := (mkF m 47 #[.val (.ref a), .val (.int (2 : Int32))] [(.int (1 : Int32)), (.ref a)])) rfl rfl (hb hby dle_47)) ?_
    refine own_go (U' := s₁.setTop (mkF m 49 #[.val (.ref a), .val (.int (2 : Int32))] [(.int (-1 : Int32)), (.int x1)])) (fun t k => XS.iconst X0.here hx rfl (hb hby dle_48) k) ?_
    by_cases hy1 : x1 = (-1 : Int32)
    · skip
      refine own_go (U' := s₁.setTop (mkF m 71 #[.val (.ref a), .val (.int (2 : Int32))] [])) (fun t k => XS.icmpYes X0.here hx rfl (pc0 := 49) (pc' := 71) rfl (hb hby dle_49) rfl (teq hy1).1 (by decide) (by decide) k) ?_
      refine own_go (U' := s₁.setTop (mkF m 72 #[.val (.ref a), .val (.int (2 : Int32))] [(.int (2 : Int32))])) (fun t k => XS.iloadN X0.here hx rfl (hb hby dle_71) rfl k) ?_
      refine own_go (U' := s₁.setTop (mkF m 73 #[.val (.ref a), .val (.int (2 : Int32))] [(.int (1 : Int32)), (.int (2 : Int32))])) (fun t k => XS.iconst X0.here hx rfl (hb hby dle_72) k) ?_
      refine own_go (U' := s₁.setTop (mkF m 76 #[.val (.ref a), .val (.int (2 : Int32))] [])) (fun t k => XS.icmpNo X0.here hx rfl (hb hby dle_73) rfl (flt (by decide)).1 k) ?_
      refine own_go (U' := s₁.setTop (mkF m 77 #[.val (.ref a), .val (.int (2 : Int32))] [(.ref a)])) (fun t k => XS.aloadN X0.here hx rfl (hb hby dle_76) rfl rfl k) ?_
      refine own_go (U' := s₁.setTop (mkF m 78 #[.val (.ref a), .val (.int (2 : Int32))] [(.int (0 : Int32)), (.ref a)])) (fun t k => XS.iconst X0.here hx rfl (hb hby dle_77) k) ?_
      refine own_go (U' := s₁.setTop (mkF m 79 #[.val (.ref a), .val (.int (2 : Int32))] [(.int x0)])) (own_baload X0 hx hZ e0 V_a (j := (0 : Int32)) (by decide) (i := 0) rfl (v := (.int x0)) rfl (g := (mkF m 78 #[.val (.ref a), .val (.int (2 : Int32))] [(.int (0 : Int32)), (.ref a)])) rfl rfl (hb hby dle_78)) ?_
      refine own_go (U' := s₁.setTop (mkF m 80 #[.val (.ref a), .val (.int (2 : Int32))] [(.int (-1 : Int32)), (.int x0)])) (fun t k => XS.iconst X0.here hx rfl (hb hby dle_79) k) ?_
      by_cases hy0 : x0 = (-1 : Int32)
      · skip
        refine own_go (U' := s₁.setTop (mkF m 96 #[.val (.ref a), .val (.int (2 : Int32))] [])) (fun t k => XS.icmpYes X0.here hx rfl (pc0 := 80) (pc' := 96) rfl (hb hby dle_80) rfl (teq hy0).1 (by decide) (by decide) k) ?_
        refine own_go (U' := s₁.setTop (mkF m 97 #[.val (.ref a), .val (.int (2 : Int32))] [.null])) (fun t k => XS.aconstNull X0.here hx rfl (hb hby dle_96) k) ?_
        have hE : own_eop ([x0, x1] : List Int32) ([x0, x1] : List Int32).length = none := by simp [own_eop, hy0, hy1]
        refine own_retA X0 hx (t := (.array .byte)) hret rfl hlk rfl (hb hby dle_97) ?_ (by decide) (by decide)
        rw [e0, hE]
        exact ⟨rfl, N0, K⟩
      · skip
        refine own_go (U' := s₁.setTop (mkF m 83 #[.val (.ref a), .val (.int (2 : Int32))] [])) (fun t k => XS.icmpNo X0.here hx rfl (hb hby dle_80) rfl (feq hy0).1 k) ?_
        refine own_go (U' := s₁.setTop (mkF m 84 #[.val (.ref a), .val (.int (2 : Int32))] [(.int (1 : Int32))])) (fun t k => XS.iconst X0.here hx rfl (hb hby dle_83) k) ?_
        obtain ⟨T3, h3, k3, X3, e3, E3, A3, Y3, st3⟩ := own_newarr X0 hx hZ (hw _ (List.mem_of_getElem? (i := 4) rfl)) e0 (g := (mkF m 84 #[.val (.ref a), .val (.int (2 : Int32))] [(.int (1 : Int32))])) rfl (hb hby dle_84) rfl (by decide) (cap := 3) (by decide) (by decide) (by decide) (by decide) (ad := "[B") (by decide) rfl (vs := [(.int (0 : Int32))]) rfl
        obtain ⟨b3, g3⟩ : ∃ z, z = h0.size := ⟨_, rfl⟩
        rw [← g3] at A3 Y3 st3
        have ne_a_b3 : a ≠ b3 := Nat.ne_of_lt (Nat.lt_of_lt_of_eq E_a.lt g3.symm)
        have g_b3 : n0 ≤ b3 := Nat.le_trans (Nat.le_trans (Nat.le_of_eq O.1.symm) O.2.1) (Nat.le_of_eq g3.symm)
        have sz_b3 : h0.size ≤ b3 := Nat.le_trans K.1 (Nat.le_of_eq g3.symm)
        have K := K.ext E3
        have O := O.ext E3
        have E_a := E_a.ext E3
        have V_a := V_a.ext E3
        have V_b3 : own_Ar Z h3 b3 k3 .byte [(.int (0 : Int32))] := A3
        have E_b3 := Y3
        refine own_go (U' := T3.setTop (mkF m 86 #[.val (.ref a), .val (.int (2 : Int32))] [(.ref b3)])) st3 ?_
        refine own_go (U' := T3.setTop (mkF m 87 #[.val (.ref a), .val (.int (2 : Int32))] [(.ref b3), (.ref b3)])) (fun t k => XS.dup X3.here hx rfl (hb hby dle_86) rfl rfl k) ?_
        refine own_go (U' := T3.setTop (mkF m 88 #[.val (.ref a), .val (.int (2 : Int32))] [(.int (0 : Int32)), (.ref b3), (.ref b3)])) (fun t k => XS.iconst X3.here hx rfl (hb hby dle_87) k) ?_
        refine own_go (U' := T3.setTop (mkF m 89 #[.val (.ref a), .val (.int (2 : Int32))] [(.ref a), (.int (0 : Int32)), (.ref b3), (.ref b3)])) (fun t k => XS.aloadN X3.here hx rfl (hb hby dle_88) rfl rfl k) ?_
        refine own_go (U' := T3.setTop (mkF m 90 #[.val (.ref a), .val (.int (2 : Int32))] [(.int (0 : Int32)), (.ref a), (.int (0 : Int32)), (.ref b3), (.ref b3)])) (fun t k => XS.iconst X3.here hx rfl (hb hby dle_89) k) ?_
        refine own_go (U' := T3.setTop (mkF m 91 #[.val (.ref a), .val (.int (2 : Int32))] [(.int x0), (.int (0 : Int32)), (.ref b3), (.ref b3)])) (own_baload X3 hx hZ e3 V_a (j := (0 : Int32)) (by decide) (i := 0) rfl (v := (.int x0)) rfl (g := (mkF m 90 #[.val (.ref a), .val (.int (2 : Int32))] [(.int (0 : Int32)), (.ref a), (.int (0 : Int32)), (.ref b3), (.ref b3)])) rfl rfl (hb hby dle_90)) ?_
        refine own_go (U' := T3.setTop (mkF m 92 #[.val (.ref a), .val (.int (2 : Int32))] [(.int (1 : Int32)), (.int x0), (.int (0 : Int32)), (.ref b3), (.ref b3)])) (fun t k => XS.iconst X3.here hx rfl (hb hby dle_91) k) ?_
        refine own_go (U' := T3.setTop (mkF m 93 #[.val (.ref a), .val (.int (2 : Int32))] [(.int (x0 + (1 : Int32))), (.int (0 : Int32)), (.ref b3), (.ref b3)])) (fun t k => XS.iadd X3.here hx rfl (hb hby dle_92) rfl k) ?_
        refine own_go (U' := T3.setTop (mkF m 94 #[.val (.ref a), .val (.int (2 : Int32))] [(.int ((x0 + (1 : Int32)).toInt8.toInt32)), (.int (0 : Int32)), (.ref b3), (.ref b3)])) (fun t k => XS.i2b X3.here hx rfl (hb hby dle_93) rfl k) ?_
        obtain ⟨T4, h4, X4, e4, W4, A4, st4⟩ := own_bastore X3 hx hZ e3 V_b3 (j := (0 : Int32)) (by decide) (i := 0) rfl (Nat.le_of_ble_eq_true rfl) (g := (mkF m 94 #[.val (.ref a), .val (.int (2 : Int32))] [(.int ((x0 + (1 : Int32)).toInt8.toInt32)), (.int (0 : Int32)), (.ref b3), (.ref b3)])) rfl rfl (hb hby dle_94)
        have K := K.wr W4 (Or.inr sz_b3)
        have O := O.wr W4 g_b3
        have E_a := E_a.wr W4
        have V_a := V_a.other W4 ne_a_b3
        have E_b3 := E_b3.wr W4
        have V_b3 : own_Ar Z h4 b3 k3 .byte [(.int ((x0 + (1 : Int32)).toInt8.toInt32).toInt8.toInt32)] := A4
        have N4 := Fr.snoc X4 N0 g_b3
        refine own_go (U' := T4.setTop (mkF m 95 #[.val (.ref a), .val (.int (2 : Int32))] [(.ref b3)])) st4 ?_
        have hE : own_eop [x0, x1] [x0, x1].length = some [(x0 + (1 : Int32)).toInt8.toInt32] := by simp [own_eop, hy0, hy1]
        rw [own_i8] at V_b3
        refine own_retA X4 hx (t := (.array .byte)) hret rfl hlk rfl (hb hby dle_95) ?_ (by decide) (by decide)
        rw [e4, hE]
        exact ⟨_, _, rfl, N4, K, sz_b3, g_b3, V_b3, E_b3⟩
    · skip
      refine own_go (U' := s₁.setTop (mkF m 52 #[.val (.ref a), .val (.int (2 : Int32))] [])) (fun t k => XS.icmpNo X0.here hx rfl (hb hby dle_49) rfl (feq hy1).1 k) ?_
      refine own_go (U' := s₁.setTop (mkF m 53 #[.val (.ref a), .val (.int (2 : Int32))] [(.int (2 : Int32))])) (fun t k => XS.iconst X0.here hx rfl (hb hby dle_52) k) ?_
      obtain ⟨T5, h5, k5, X5, e5, E5, A5, Y5, st5⟩ := own_newarr X0 hx hZ (hw _ (List.mem_of_getElem? (i := 4) rfl)) e0 (g := (mkF m 53 #[.val (.ref a), .val (.int (2 : Int32))] [(.int (2 : Int32))])) rfl (hb hby dle_53) rfl (by decide) (cap := 3) (by decide) (by decide) (by decide) (by decide) (ad := "[B") (by decide) rfl (vs := [(.int (0 : Int32)), (.int (0 : Int32))]) rfl
      obtain ⟨b5, g5⟩ : ∃ z, z = h0.size := ⟨_, rfl⟩
      rw [← g5] at A5 Y5 st5
      have ne_a_b5 : a ≠ b5 := Nat.ne_of_lt (Nat.lt_of_lt_of_eq E_a.lt g5.symm)
      have g_b5 : n0 ≤ b5 := Nat.le_trans (Nat.le_trans (Nat.le_of_eq O.1.symm) O.2.1) (Nat.le_of_eq g5.symm)
      have sz_b5 : h0.size ≤ b5 := Nat.le_trans K.1 (Nat.le_of_eq g5.symm)
      have K := K.ext E5
      have O := O.ext E5
      have E_a := E_a.ext E5
      have V_a := V_a.ext E5
      have V_b5 : own_Ar Z h5 b5 k5 .byte [(.int (0 : Int32)), (.int (0 : Int32))] := A5
      have E_b5 := Y5
      refine own_go (U' := T5.setTop (mkF m 55 #[.val (.ref a), .val (.int (2 : Int32))] [(.ref b5)])) st5 ?_
      refine own_go (U' := T5.setTop (mkF m 56 #[.val (.ref a), .val (.int (2 : Int32))] [(.ref b5), (.ref b5)])) (fun t k => XS.dup X5.here hx rfl (hb hby dle_55) rfl rfl k) ?_
      refine own_go (U' := T5.setTop (mkF m 57 #[.val (.ref a), .val (.int (2 : Int32))] [(.int (0 : Int32)), (.ref b5), (.ref b5)])) (fun t k => XS.iconst X5.here hx rfl (hb hby dle_56) k) ?_
      refine own_go (U' := T5.setTop (mkF m 58 #[.val (.ref a), .val (.int (2 : Int32))] [(.ref a), (.int (0 : Int32)), (.ref b5), (.ref b5)])) (fun t k => XS.aloadN X5.here hx rfl (hb hby dle_57) rfl rfl k) ?_
      refine own_go (U' := T5.setTop (mkF m 59 #[.val (.ref a), .val (.int (2 : Int32))] [(.int (0 : Int32)), (.ref a), (.int (0 : Int32)), (.ref b5), (.ref b5)])) (fun t k => XS.iconst X5.here hx rfl (hb hby dle_58) k) ?_
      refine own_go (U' := T5.setTop (mkF m 60 #[.val (.ref a), .val (.int (2 : Int32))] [(.int x0), (.int (0 : Int32)), (.ref b5), (.ref b5)])) (own_baload X5 hx hZ e5 V_a (j := (0 : Int32)) (by decide) (i := 0) rfl (v := (.int x0)) rfl (g := (mkF m 59 #[.val (.ref a), .val (.int (2 : Int32))] [(.int (0 : Int32)), (.ref a), (.int (0 : Int32)), (.ref b5), (.ref b5)])) rfl rfl (hb hby dle_59)) ?_
      obtain ⟨T6, h6, X6, e6, W6, A6, st6⟩ := own_bastore X5 hx hZ e5 V_b5 (j := (0 : Int32)) (by decide) (i := 0) rfl (Nat.le_of_ble_eq_true rfl) (g := (mkF m 60 #[.val (.ref a), .val (.int (2 : Int32))] [(.int x0), (.int (0 : Int32)), (.ref b5), (.ref b5)])) rfl rfl (hb hby dle_60)
      have K := K.wr W6 (Or.inr sz_b5)
      have O := O.wr W6 g_b5
      have E_a := E_a.wr W6
      have V_a := V_a.other W6 ne_a_b5
      have E_b5 := E_b5.wr W6
      have V_b5 : own_Ar Z h6 b5 k5 .byte [(.int x0.toInt8.toInt32), (.int (0 : Int32))] := A6
      have N6 := Fr.snoc X6 N0 g_b5
      refine own_go (U' := T6.setTop (mkF m 61 #[.val (.ref a), .val (.int (2 : Int32))] [(.ref b5)])) st6 ?_
      refine own_go (U' := T6.setTop (mkF m 62 #[.val (.ref a), .val (.int (2 : Int32))] [(.ref b5), (.ref b5)])) (fun t k => XS.dup X6.here hx rfl (hb hby dle_61) rfl rfl k) ?_
      refine own_go (U' := T6.setTop (mkF m 63 #[.val (.ref a), .val (.int (2 : Int32))] [(.int (1 : Int32)), (.ref b5), (.ref b5)])) (fun t k => XS.iconst X6.here hx rfl (hb hby dle_62) k) ?_
      refine own_go (U' := T6.setTop (mkF m 64 #[.val (.ref a), .val (.int (2 : Int32))] [(.ref a), (.int (1 : Int32)), (.ref b5), (.ref b5)])) (fun t k => XS.aloadN X6.here hx rfl (hb hby dle_63) rfl rfl k) ?_
      refine own_go (U' := T6.setTop (mkF m 65 #[.val (.ref a), .val (.int (2 : Int32))] [(.int (1 : Int32)), (.ref a), (.int (1 : Int32)), (.ref b5), (.ref b5)])) (fun t k => XS.iconst X6.here hx rfl (hb hby dle_64) k) ?_
      refine own_go (U' := T6.setTop (mkF m 66 #[.val (.ref a), .val (.int (2 : Int32))] [(.int x1), (.int (1 : Int32)), (.ref b5), (.ref b5)])) (own_baload X6 hx hZ e6 V_a (j := (1 : Int32)) (by decide) (i := 1) rfl (v := (.int x1)) rfl (g := (mkF m 65 #[.val (.ref a), .val (.int (2 : Int32))] [(.int (1 : Int32)), (.ref a), (.int (1 : Int32)), (.ref b5), (.ref b5)])) rfl rfl (hb hby dle_65)) ?_
      refine own_go (U' := T6.setTop (mkF m 67 #[.val (.ref a), .val (.int (2 : Int32))] [(.int (1 : Int32)), (.int x1), (.int (1 : Int32)), (.ref b5), (.ref b5)])) (fun t k => XS.iconst X6.here hx rfl (hb hby dle_66) k) ?_
      refine own_go (U' := T6.setTop (mkF m 68 #[.val (.ref a), .val (.int (2 : Int32))] [(.int (x1 + (1 : Int32))), (.int (1 : Int32)), (.ref b5), (.ref b5)])) (fun t k => XS.iadd X6.here hx rfl (hb hby dle_67) rfl k) ?_
      refine own_go (U' := T6.setTop (mkF m 69 #[.val (.ref a), .val (.int (2 : Int32))] [(.int ((x1 + (1 : Int32)).toInt8.toInt32)), (.int (1 : Int32)), (.ref b5), (.ref b5)])) (fun t k => XS.i2b X6.here hx rfl (hb hby dle_68) rfl k) ?_
      obtain ⟨T7, h7, X7, e7, W7, A7, st7⟩ := own_bastore X6 hx hZ e6 V_b5 (j := (1 : Int32)) (by decide) (i := 1) rfl (Nat.le_of_ble_eq_true rfl) (g := (mkF m 69 #[.val (.ref a), .val (.int (2 : Int32))] [(.int ((x1 + (1 : Int32)).toInt8.toInt32)), (.int (1 : Int32)), (.ref b5), (.ref b5)])) rfl rfl (hb hby dle_69)
      have K := K.wr W7 (Or.inr sz_b5)
      have O := O.wr W7 g_b5
      have E_a := E_a.wr W7
      have V_a := V_a.other W7 ne_a_b5
      have E_b5 := E_b5.wr W7
      have V_b5 : own_Ar Z h7 b5 k5 .byte [(.int x0.toInt8.toInt32), (.int ((x1 + (1 : Int32)).toInt8.toInt32).toInt8.toInt32)] := A7
      have N7 := Fr.snoc X7 N6 g_b5
      refine own_go (U' := T7.setTop (mkF m 70 #[.val (.ref a), .val (.int (2 : Int32))] [(.ref b5)])) st7 ?_
      have hE : own_eop [x0, x1] [x0, x1].length = some [x0, (x1 + (1 : Int32)).toInt8.toInt32] := by simp [own_eop, hy1]
      rw [y0, own_i8] at V_b5
      refine own_retA X7 hx (t := (.array .byte)) hret rfl hlk rfl (hb hby dle_70) ?_ (by decide) (by decide)
      rw [e7, hE]
      exact ⟨_, _, rfl, N7, K, sz_b5, g_b5, V_b5, E_b5⟩
  · skip
    have y0 : x0.toInt8.toInt32 = x0 := hby8 _ (by simp)
    have y1 : x1.toInt8.toInt32 = x1 := hby8 _ (by simp)
    have y2 : x2.toInt8.toInt32 = x2 := hby8 _ (by simp)
    refine own_go (U' := s₁.setTop (mkF m 1 #[.val (.ref a), .unset] [(.ref a)])) (fun t k => XS.aloadN X0.here hx rfl (hb hby dle_0) rfl rfl k) ?_
    refine own_go (U' := s₁.setTop (mkF m 2 #[.val (.ref a), .unset] [(.int (3 : Int32))])) (own_arrlen X0 hx hZ e0 V_a (n := (3 : Int32)) rfl (g := (mkF m 1 #[.val (.ref a), .unset] [(.ref a)])) rfl rfl (hb hby dle_1)) ?_
    refine own_go (U' := s₁.setTop (mkF m 3 #[.val (.ref a), .val (.int (3 : Int32))] [])) (fun t k => XS.istoreN X0.here hx rfl (hb hby dle_2) rfl (l' := #[.val (.ref a), .val (.int (3 : Int32))]) rfl k) ?_
    refine own_go (U' := s₁.setTop (mkF m 4 #[.val (.ref a), .val (.int (3 : Int32))] [(.int (3 : Int32))])) (fun t k => XS.iloadN X0.here hx rfl (hb hby dle_3) rfl k) ?_
    refine own_go (U' := s₁.setTop (mkF m 5 #[.val (.ref a), .val (.int (3 : Int32))] [(.int (3 : Int32)), (.int (3 : Int32))])) (fun t k => XS.iconst X0.here hx rfl (hb hby dle_4) k) ?_
    refine own_go (U' := s₁.setTop (mkF m 8 #[.val (.ref a), .val (.int (3 : Int32))] [])) (fun t k => XS.icmpNo X0.here hx rfl (hb hby dle_5) rfl (flt (by decide)).1 k) ?_
    refine own_go (U' := s₁.setTop (mkF m 9 #[.val (.ref a), .val (.int (3 : Int32))] [(.ref a)])) (fun t k => XS.aloadN X0.here hx rfl (hb hby dle_8) rfl rfl k) ?_
    refine own_go (U' := s₁.setTop (mkF m 10 #[.val (.ref a), .val (.int (3 : Int32))] [(.int (2 : Int32)), (.ref a)])) (fun t k => XS.iconst X0.here hx rfl (hb hby dle_9) k) ?_
    refine own_go (U' := s₁.setTop (mkF m 11 #[.val (.ref a), .val (.int (3 : Int32))] [(.int x2)])) (own_baload X0 hx hZ e0 V_a (j := (2 : Int32)) (by decide) (i := 2) rfl (v := (.int x2)) rfl (g := (mkF m 10 #[.val (.ref a), .val (.int (3 : Int32))] [(.int (2 : Int32)), (.ref a)])) rfl rfl (hb hby dle_10)) ?_
    refine own_go (U' := s₁.setTop (mkF m 12 #[.val (.ref a), .val (.int (3 : Int32))] [(.int (-1 : Int32)), (.int x2)])) (fun t k => XS.iconst X0.here hx rfl (hb hby dle_11) k) ?_
    by_cases hy2 : x2 = (-1 : Int32)
    · skip
      refine own_go (U' := s₁.setTop (mkF m 40 #[.val (.ref a), .val (.int (3 : Int32))] [])) (fun t k => XS.icmpYes X0.here hx rfl (pc0 := 12) (pc' := 40) rfl (hb hby dle_12) rfl (teq hy2).1 (by decide) (by decide) k) ?_
      refine own_go (U' := s₁.setTop (mkF m 41 #[.val (.ref a), .val (.int (3 : Int32))] [(.int (3 : Int32))])) (fun t k => XS.iloadN X0.here hx rfl (hb hby dle_40) rfl k) ?_
      refine own_go (U' := s₁.setTop (mkF m 42 #[.val (.ref a), .val (.int (3 : Int32))] [(.int (2 : Int32)), (.int (3 : Int32))])) (fun t k => XS.iconst X0.here hx rfl (hb hby dle_41) k) ?_
      refine own_go (U' := s₁.setTop (mkF m 45 #[.val (.ref a), .val (.int (3 : Int32))] [])) (fun t k => XS.icmpNo X0.here hx rfl (hb hby dle_42) rfl (flt (by decide)).1 k) ?_
      refine own_go (U' := s₁.setTop (mkF m 46 #[.val (.ref a), .val (.int (3 : Int32))] [(.ref a)])) (fun t k => XS.aloadN X0.here hx rfl (hb hby dle_45) rfl rfl k) ?_
      refine own_go (U' := s₁.setTop (mkF m 47 #[.val (.ref a), .val (.int (3 : Int32))] [(.int (1 : Int32)), (.ref a)])) (fun t k => XS.iconst X0.here hx rfl (hb hby dle_46) k) ?_
      refine own_go (U' := s₁.setTop (mkF m 48 #[.val (.ref a), .val (.int (3 : Int32))] [(.int x1)])) (own_baload X0 hx hZ e0 V_a (j := (1 : Int32)) (by decide) (i := 1) rfl (v := (.int x1)) rfl (g := (mkF m 47 #[.val (.ref a), .val (.int (3 : Int32))] [(.int (1 : Int32)), (.ref a)])) rfl rfl (hb hby dle_47)) ?_
      refine own_go (U' := s₁.setTop (mkF m 49 #[.val (.ref a), .val (.int (3 : Int32))] [(.int (-1 : Int32)), (.int x1)])) (fun t k => XS.iconst X0.here hx rfl (hb hby dle_48) k) ?_
      by_cases hy1 : x1 = (-1 : Int32)
      · skip
        refine own_go (U' := s₁.setTop (mkF m 71 #[.val (.ref a), .val (.int (3 : Int32))] [])) (fun t k => XS.icmpYes X0.here hx rfl (pc0 := 49) (pc' := 71) rfl (hb hby dle_49) rfl (teq hy1).1 (by decide) (by decide) k) ?_
        refine own_go (U' := s₁.setTop (mkF m 72 #[.val (.ref a), .val (.int (3 : Int32))] [(.int (3 : Int32))])) (fun t k => XS.iloadN X0.here hx rfl (hb hby dle_71) rfl k) ?_
        refine own_go (U' := s₁.setTop (mkF m 73 #[.val (.ref a), .val (.int (3 : Int32))] [(.int (1 : Int32)), (.int (3 : Int32))])) (fun t k => XS.iconst X0.here hx rfl (hb hby dle_72) k) ?_
        refine own_go (U' := s₁.setTop (mkF m 76 #[.val (.ref a), .val (.int (3 : Int32))] [])) (fun t k => XS.icmpNo X0.here hx rfl (hb hby dle_73) rfl (flt (by decide)).1 k) ?_
        refine own_go (U' := s₁.setTop (mkF m 77 #[.val (.ref a), .val (.int (3 : Int32))] [(.ref a)])) (fun t k => XS.aloadN X0.here hx rfl (hb hby dle_76) rfl rfl k) ?_
        refine own_go (U' := s₁.setTop (mkF m 78 #[.val (.ref a), .val (.int (3 : Int32))] [(.int (0 : Int32)), (.ref a)])) (fun t k => XS.iconst X0.here hx rfl (hb hby dle_77) k) ?_
        refine own_go (U' := s₁.setTop (mkF m 79 #[.val (.ref a), .val (.int (3 : Int32))] [(.int x0)])) (own_baload X0 hx hZ e0 V_a (j := (0 : Int32)) (by decide) (i := 0) rfl (v := (.int x0)) rfl (g := (mkF m 78 #[.val (.ref a), .val (.int (3 : Int32))] [(.int (0 : Int32)), (.ref a)])) rfl rfl (hb hby dle_78)) ?_
        refine own_go (U' := s₁.setTop (mkF m 80 #[.val (.ref a), .val (.int (3 : Int32))] [(.int (-1 : Int32)), (.int x0)])) (fun t k => XS.iconst X0.here hx rfl (hb hby dle_79) k) ?_
        by_cases hy0 : x0 = (-1 : Int32)
        · skip
          refine own_go (U' := s₁.setTop (mkF m 96 #[.val (.ref a), .val (.int (3 : Int32))] [])) (fun t k => XS.icmpYes X0.here hx rfl (pc0 := 80) (pc' := 96) rfl (hb hby dle_80) rfl (teq hy0).1 (by decide) (by decide) k) ?_
          refine own_go (U' := s₁.setTop (mkF m 97 #[.val (.ref a), .val (.int (3 : Int32))] [.null])) (fun t k => XS.aconstNull X0.here hx rfl (hb hby dle_96) k) ?_
          have hE : own_eop ([x0, x1, x2] : List Int32) ([x0, x1, x2] : List Int32).length = none := by simp [own_eop, hy0, hy1, hy2]
          refine own_retA X0 hx (t := (.array .byte)) hret rfl hlk rfl (hb hby dle_97) ?_ (by decide) (by decide)
          rw [e0, hE]
          exact ⟨rfl, N0, K⟩
        · skip
          refine own_go (U' := s₁.setTop (mkF m 83 #[.val (.ref a), .val (.int (3 : Int32))] [])) (fun t k => XS.icmpNo X0.here hx rfl (hb hby dle_80) rfl (feq hy0).1 k) ?_
          refine own_go (U' := s₁.setTop (mkF m 84 #[.val (.ref a), .val (.int (3 : Int32))] [(.int (1 : Int32))])) (fun t k => XS.iconst X0.here hx rfl (hb hby dle_83) k) ?_
          obtain ⟨T8, h8, k8, X8, e8, E8, A8, Y8, st8⟩ := own_newarr X0 hx hZ (hw _ (List.mem_of_getElem? (i := 4) rfl)) e0 (g := (mkF m 84 #[.val (.ref a), .val (.int (3 : Int32))] [(.int (1 : Int32))])) rfl (hb hby dle_84) rfl (by decide) (cap := 3) (by decide) (by decide) (by decide) (by decide) (ad := "[B") (by decide) rfl (vs := [(.int (0 : Int32))]) rfl
          obtain ⟨b8, g8⟩ : ∃ z, z = h0.size := ⟨_, rfl⟩
          rw [← g8] at A8 Y8 st8
          have ne_a_b8 : a ≠ b8 := Nat.ne_of_lt (Nat.lt_of_lt_of_eq E_a.lt g8.symm)
          have g_b8 : n0 ≤ b8 := Nat.le_trans (Nat.le_trans (Nat.le_of_eq O.1.symm) O.2.1) (Nat.le_of_eq g8.symm)
          have sz_b8 : h0.size ≤ b8 := Nat.le_trans K.1 (Nat.le_of_eq g8.symm)
          have K := K.ext E8
          have O := O.ext E8
          have E_a := E_a.ext E8
          have V_a := V_a.ext E8
          have V_b8 : own_Ar Z h8 b8 k8 .byte [(.int (0 : Int32))] := A8
          have E_b8 := Y8
          refine own_go (U' := T8.setTop (mkF m 86 #[.val (.ref a), .val (.int (3 : Int32))] [(.ref b8)])) st8 ?_
          refine own_go (U' := T8.setTop (mkF m 87 #[.val (.ref a), .val (.int (3 : Int32))] [(.ref b8), (.ref b8)])) (fun t k => XS.dup X8.here hx rfl (hb hby dle_86) rfl rfl k) ?_
          refine own_go (U' := T8.setTop (mkF m 88 #[.val (.ref a), .val (.int (3 : Int32))] [(.int (0 : Int32)), (.ref b8), (.ref b8)])) (fun t k => XS.iconst X8.here hx rfl (hb hby dle_87) k) ?_
          refine own_go (U' := T8.setTop (mkF m 89 #[.val (.ref a), .val (.int (3 : Int32))] [(.ref a), (.int (0 : Int32)), (.ref b8), (.ref b8)])) (fun t k => XS.aloadN X8.here hx rfl (hb hby dle_88) rfl rfl k) ?_
          refine own_go (U' := T8.setTop (mkF m 90 #[.val (.ref a), .val (.int (3 : Int32))] [(.int (0 : Int32)), (.ref a), (.int (0 : Int32)), (.ref b8), (.ref b8)])) (fun t k => XS.iconst X8.here hx rfl (hb hby dle_89) k) ?_
          refine own_go (U' := T8.setTop (mkF m 91 #[.val (.ref a), .val (.int (3 : Int32))] [(.int x0), (.int (0 : Int32)), (.ref b8), (.ref b8)])) (own_baload X8 hx hZ e8 V_a (j := (0 : Int32)) (by decide) (i := 0) rfl (v := (.int x0)) rfl (g := (mkF m 90 #[.val (.ref a), .val (.int (3 : Int32))] [(.int (0 : Int32)), (.ref a), (.int (0 : Int32)), (.ref b8), (.ref b8)])) rfl rfl (hb hby dle_90)) ?_
          refine own_go (U' := T8.setTop (mkF m 92 #[.val (.ref a), .val (.int (3 : Int32))] [(.int (1 : Int32)), (.int x0), (.int (0 : Int32)), (.ref b8), (.ref b8)])) (fun t k => XS.iconst X8.here hx rfl (hb hby dle_91) k) ?_
          refine own_go (U' := T8.setTop (mkF m 93 #[.val (.ref a), .val (.int (3 : Int32))] [(.int (x0 + (1 : Int32))), (.int (0 : Int32)), (.ref b8), (.ref b8)])) (fun t k => XS.iadd X8.here hx rfl (hb hby dle_92) rfl k) ?_
          refine own_go (U' := T8.setTop (mkF m 94 #[.val (.ref a), .val (.int (3 : Int32))] [(.int ((x0 + (1 : Int32)).toInt8.toInt32)), (.int (0 : Int32)), (.ref b8), (.ref b8)])) (fun t k => XS.i2b X8.here hx rfl (hb hby dle_93) rfl k) ?_
          obtain ⟨T9, h9, X9, e9, W9, A9, st9⟩ := own_bastore X8 hx hZ e8 V_b8 (j := (0 : Int32)) (by decide) (i := 0) rfl (Nat.le_of_ble_eq_true rfl) (g := (mkF m 94 #[.val (.ref a), .val (.int (3 : Int32))] [(.int ((x0 + (1 : Int32)).toInt8.toInt32)), (.int (0 : Int32)), (.ref b8), (.ref b8)])) rfl rfl (hb hby dle_94)
          have K := K.wr W9 (Or.inr sz_b8)
          have O := O.wr W9 g_b8
          have E_a := E_a.wr W9
          have V_a := V_a.other W9 ne_a_b8
          have E_b8 := E_b8.wr W9
          have V_b8 : own_Ar Z h9 b8 k8 .byte [(.int ((x0 + (1 : Int32)).toInt8.toInt32).toInt8.toInt32)] := A9
          have N9 := Fr.snoc X9 N0 g_b8
          refine own_go (U' := T9.setTop (mkF m 95 #[.val (.ref a), .val (.int (3 : Int32))] [(.ref b8)])) st9 ?_
          have hE : own_eop [x0, x1, x2] [x0, x1, x2].length = some [(x0 + (1 : Int32)).toInt8.toInt32] := by simp [own_eop, hy0, hy1, hy2]
          rw [own_i8] at V_b8
          refine own_retA X9 hx (t := (.array .byte)) hret rfl hlk rfl (hb hby dle_95) ?_ (by decide) (by decide)
          rw [e9, hE]
          exact ⟨_, _, rfl, N9, K, sz_b8, g_b8, V_b8, E_b8⟩
      · skip
        refine own_go (U' := s₁.setTop (mkF m 52 #[.val (.ref a), .val (.int (3 : Int32))] [])) (fun t k => XS.icmpNo X0.here hx rfl (hb hby dle_49) rfl (feq hy1).1 k) ?_
        refine own_go (U' := s₁.setTop (mkF m 53 #[.val (.ref a), .val (.int (3 : Int32))] [(.int (2 : Int32))])) (fun t k => XS.iconst X0.here hx rfl (hb hby dle_52) k) ?_
        obtain ⟨T10, h10, k10, X10, e10, E10, A10, Y10, st10⟩ := own_newarr X0 hx hZ (hw _ (List.mem_of_getElem? (i := 4) rfl)) e0 (g := (mkF m 53 #[.val (.ref a), .val (.int (3 : Int32))] [(.int (2 : Int32))])) rfl (hb hby dle_53) rfl (by decide) (cap := 3) (by decide) (by decide) (by decide) (by decide) (ad := "[B") (by decide) rfl (vs := [(.int (0 : Int32)), (.int (0 : Int32))]) rfl
        obtain ⟨b10, g10⟩ : ∃ z, z = h0.size := ⟨_, rfl⟩
        rw [← g10] at A10 Y10 st10
        have ne_a_b10 : a ≠ b10 := Nat.ne_of_lt (Nat.lt_of_lt_of_eq E_a.lt g10.symm)
        have g_b10 : n0 ≤ b10 := Nat.le_trans (Nat.le_trans (Nat.le_of_eq O.1.symm) O.2.1) (Nat.le_of_eq g10.symm)
        have sz_b10 : h0.size ≤ b10 := Nat.le_trans K.1 (Nat.le_of_eq g10.symm)
        have K := K.ext E10
        have O := O.ext E10
        have E_a := E_a.ext E10
        have V_a := V_a.ext E10
        have V_b10 : own_Ar Z h10 b10 k10 .byte [(.int (0 : Int32)), (.int (0 : Int32))] := A10
        have E_b10 := Y10
        refine own_go (U' := T10.setTop (mkF m 55 #[.val (.ref a), .val (.int (3 : Int32))] [(.ref b10)])) st10 ?_
        refine own_go (U' := T10.setTop (mkF m 56 #[.val (.ref a), .val (.int (3 : Int32))] [(.ref b10), (.ref b10)])) (fun t k => XS.dup X10.here hx rfl (hb hby dle_55) rfl rfl k) ?_
        refine own_go (U' := T10.setTop (mkF m 57 #[.val (.ref a), .val (.int (3 : Int32))] [(.int (0 : Int32)), (.ref b10), (.ref b10)])) (fun t k => XS.iconst X10.here hx rfl (hb hby dle_56) k) ?_
        refine own_go (U' := T10.setTop (mkF m 58 #[.val (.ref a), .val (.int (3 : Int32))] [(.ref a), (.int (0 : Int32)), (.ref b10), (.ref b10)])) (fun t k => XS.aloadN X10.here hx rfl (hb hby dle_57) rfl rfl k) ?_
        refine own_go (U' := T10.setTop (mkF m 59 #[.val (.ref a), .val (.int (3 : Int32))] [(.int (0 : Int32)), (.ref a), (.int (0 : Int32)), (.ref b10), (.ref b10)])) (fun t k => XS.iconst X10.here hx rfl (hb hby dle_58) k) ?_
        refine own_go (U' := T10.setTop (mkF m 60 #[.val (.ref a), .val (.int (3 : Int32))] [(.int x0), (.int (0 : Int32)), (.ref b10), (.ref b10)])) (own_baload X10 hx hZ e10 V_a (j := (0 : Int32)) (by decide) (i := 0) rfl (v := (.int x0)) rfl (g := (mkF m 59 #[.val (.ref a), .val (.int (3 : Int32))] [(.int (0 : Int32)), (.ref a), (.int (0 : Int32)), (.ref b10), (.ref b10)])) rfl rfl (hb hby dle_59)) ?_
        obtain ⟨T11, h11, X11, e11, W11, A11, st11⟩ := own_bastore X10 hx hZ e10 V_b10 (j := (0 : Int32)) (by decide) (i := 0) rfl (Nat.le_of_ble_eq_true rfl) (g := (mkF m 60 #[.val (.ref a), .val (.int (3 : Int32))] [(.int x0), (.int (0 : Int32)), (.ref b10), (.ref b10)])) rfl rfl (hb hby dle_60)
        have K := K.wr W11 (Or.inr sz_b10)
        have O := O.wr W11 g_b10
        have E_a := E_a.wr W11
        have V_a := V_a.other W11 ne_a_b10
        have E_b10 := E_b10.wr W11
        have V_b10 : own_Ar Z h11 b10 k10 .byte [(.int x0.toInt8.toInt32), (.int (0 : Int32))] := A11
        have N11 := Fr.snoc X11 N0 g_b10
        refine own_go (U' := T11.setTop (mkF m 61 #[.val (.ref a), .val (.int (3 : Int32))] [(.ref b10)])) st11 ?_
        refine own_go (U' := T11.setTop (mkF m 62 #[.val (.ref a), .val (.int (3 : Int32))] [(.ref b10), (.ref b10)])) (fun t k => XS.dup X11.here hx rfl (hb hby dle_61) rfl rfl k) ?_
        refine own_go (U' := T11.setTop (mkF m 63 #[.val (.ref a), .val (.int (3 : Int32))] [(.int (1 : Int32)), (.ref b10), (.ref b10)])) (fun t k => XS.iconst X11.here hx rfl (hb hby dle_62) k) ?_
        refine own_go (U' := T11.setTop (mkF m 64 #[.val (.ref a), .val (.int (3 : Int32))] [(.ref a), (.int (1 : Int32)), (.ref b10), (.ref b10)])) (fun t k => XS.aloadN X11.here hx rfl (hb hby dle_63) rfl rfl k) ?_
        refine own_go (U' := T11.setTop (mkF m 65 #[.val (.ref a), .val (.int (3 : Int32))] [(.int (1 : Int32)), (.ref a), (.int (1 : Int32)), (.ref b10), (.ref b10)])) (fun t k => XS.iconst X11.here hx rfl (hb hby dle_64) k) ?_
        refine own_go (U' := T11.setTop (mkF m 66 #[.val (.ref a), .val (.int (3 : Int32))] [(.int x1), (.int (1 : Int32)), (.ref b10), (.ref b10)])) (own_baload X11 hx hZ e11 V_a (j := (1 : Int32)) (by decide) (i := 1) rfl (v := (.int x1)) rfl (g := (mkF m 65 #[.val (.ref a), .val (.int (3 : Int32))] [(.int (1 : Int32)), (.ref a), (.int (1 : Int32)), (.ref b10), (.ref b10)])) rfl rfl (hb hby dle_65)) ?_
        refine own_go (U' := T11.setTop (mkF m 67 #[.val (.ref a), .val (.int (3 : Int32))] [(.int (1 : Int32)), (.int x1), (.int (1 : Int32)), (.ref b10), (.ref b10)])) (fun t k => XS.iconst X11.here hx rfl (hb hby dle_66) k) ?_
        refine own_go (U' := T11.setTop (mkF m 68 #[.val (.ref a), .val (.int (3 : Int32))] [(.int (x1 + (1 : Int32))), (.int (1 : Int32)), (.ref b10), (.ref b10)])) (fun t k => XS.iadd X11.here hx rfl (hb hby dle_67) rfl k) ?_
        refine own_go (U' := T11.setTop (mkF m 69 #[.val (.ref a), .val (.int (3 : Int32))] [(.int ((x1 + (1 : Int32)).toInt8.toInt32)), (.int (1 : Int32)), (.ref b10), (.ref b10)])) (fun t k => XS.i2b X11.here hx rfl (hb hby dle_68) rfl k) ?_
        obtain ⟨T12, h12, X12, e12, W12, A12, st12⟩ := own_bastore X11 hx hZ e11 V_b10 (j := (1 : Int32)) (by decide) (i := 1) rfl (Nat.le_of_ble_eq_true rfl) (g := (mkF m 69 #[.val (.ref a), .val (.int (3 : Int32))] [(.int ((x1 + (1 : Int32)).toInt8.toInt32)), (.int (1 : Int32)), (.ref b10), (.ref b10)])) rfl rfl (hb hby dle_69)
        have K := K.wr W12 (Or.inr sz_b10)
        have O := O.wr W12 g_b10
        have E_a := E_a.wr W12
        have V_a := V_a.other W12 ne_a_b10
        have E_b10 := E_b10.wr W12
        have V_b10 : own_Ar Z h12 b10 k10 .byte [(.int x0.toInt8.toInt32), (.int ((x1 + (1 : Int32)).toInt8.toInt32).toInt8.toInt32)] := A12
        have N12 := Fr.snoc X12 N11 g_b10
        refine own_go (U' := T12.setTop (mkF m 70 #[.val (.ref a), .val (.int (3 : Int32))] [(.ref b10)])) st12 ?_
        have hE : own_eop [x0, x1, x2] [x0, x1, x2].length = some [x0, (x1 + (1 : Int32)).toInt8.toInt32] := by simp [own_eop, hy1, hy2]
        rw [y0, own_i8] at V_b10
        refine own_retA X12 hx (t := (.array .byte)) hret rfl hlk rfl (hb hby dle_70) ?_ (by decide) (by decide)
        rw [e12, hE]
        exact ⟨_, _, rfl, N12, K, sz_b10, g_b10, V_b10, E_b10⟩
    · skip
      refine own_go (U' := s₁.setTop (mkF m 15 #[.val (.ref a), .val (.int (3 : Int32))] [])) (fun t k => XS.icmpNo X0.here hx rfl (hb hby dle_12) rfl (feq hy2).1 k) ?_
      refine own_go (U' := s₁.setTop (mkF m 16 #[.val (.ref a), .val (.int (3 : Int32))] [(.int (3 : Int32))])) (fun t k => XS.iconst X0.here hx rfl (hb hby dle_15) k) ?_
      obtain ⟨T13, h13, k13, X13, e13, E13, A13, Y13, st13⟩ := own_newarr X0 hx hZ (hw _ (List.mem_of_getElem? (i := 4) rfl)) e0 (g := (mkF m 16 #[.val (.ref a), .val (.int (3 : Int32))] [(.int (3 : Int32))])) rfl (hb hby dle_16) rfl (by decide) (cap := 3) (by decide) (by decide) (by decide) (by decide) (ad := "[B") (by decide) rfl (vs := [(.int (0 : Int32)), (.int (0 : Int32)), (.int (0 : Int32))]) rfl
      obtain ⟨b13, g13⟩ : ∃ z, z = h0.size := ⟨_, rfl⟩
      rw [← g13] at A13 Y13 st13
      have ne_a_b13 : a ≠ b13 := Nat.ne_of_lt (Nat.lt_of_lt_of_eq E_a.lt g13.symm)
      have g_b13 : n0 ≤ b13 := Nat.le_trans (Nat.le_trans (Nat.le_of_eq O.1.symm) O.2.1) (Nat.le_of_eq g13.symm)
      have sz_b13 : h0.size ≤ b13 := Nat.le_trans K.1 (Nat.le_of_eq g13.symm)
      have K := K.ext E13
      have O := O.ext E13
      have E_a := E_a.ext E13
      have V_a := V_a.ext E13
      have V_b13 : own_Ar Z h13 b13 k13 .byte [(.int (0 : Int32)), (.int (0 : Int32)), (.int (0 : Int32))] := A13
      have E_b13 := Y13
      refine own_go (U' := T13.setTop (mkF m 18 #[.val (.ref a), .val (.int (3 : Int32))] [(.ref b13)])) st13 ?_
      refine own_go (U' := T13.setTop (mkF m 19 #[.val (.ref a), .val (.int (3 : Int32))] [(.ref b13), (.ref b13)])) (fun t k => XS.dup X13.here hx rfl (hb hby dle_18) rfl rfl k) ?_
      refine own_go (U' := T13.setTop (mkF m 20 #[.val (.ref a), .val (.int (3 : Int32))] [(.int (0 : Int32)), (.ref b13), (.ref b13)])) (fun t k => XS.iconst X13.here hx rfl (hb hby dle_19) k) ?_
      refine own_go (U' := T13.setTop (mkF m 21 #[.val (.ref a), .val (.int (3 : Int32))] [(.ref a), (.int (0 : Int32)), (.ref b13), (.ref b13)])) (fun t k => XS.aloadN X13.here hx rfl (hb hby dle_20) rfl rfl k) ?_
      refine own_go (U' := T13.setTop (mkF m 22 #[.val (.ref a), .val (.int (3 : Int32))] [(.int (0 : Int32)), (.ref a), (.int (0 : Int32)), (.ref b13), (.ref b13)])) (fun t k => XS.iconst X13.here hx rfl (hb hby dle_21) k) ?_
      refine own_go (U' := T13.setTop (mkF m 23 #[.val (.ref a), .val (.int (3 : Int32))] [(.int x0), (.int (0 : Int32)), (.ref b13), (.ref b13)])) (own_baload X13 hx hZ e13 V_a (j := (0 : Int32)) (by decide) (i := 0) rfl (v := (.int x0)) rfl (g := (mkF m 22 #[.val (.ref a), .val (.int (3 : Int32))] [(.int (0 : Int32)), (.ref a), (.int (0 : Int32)), (.ref b13), (.ref b13)])) rfl rfl (hb hby dle_22)) ?_
      obtain ⟨T14, h14, X14, e14, W14, A14, st14⟩ := own_bastore X13 hx hZ e13 V_b13 (j := (0 : Int32)) (by decide) (i := 0) rfl (Nat.le_of_ble_eq_true rfl) (g := (mkF m 23 #[.val (.ref a), .val (.int (3 : Int32))] [(.int x0), (.int (0 : Int32)), (.ref b13), (.ref b13)])) rfl rfl (hb hby dle_23)
      have K := K.wr W14 (Or.inr sz_b13)
      have O := O.wr W14 g_b13
      have E_a := E_a.wr W14
      have V_a := V_a.other W14 ne_a_b13
      have E_b13 := E_b13.wr W14
      have V_b13 : own_Ar Z h14 b13 k13 .byte [(.int x0.toInt8.toInt32), (.int (0 : Int32)), (.int (0 : Int32))] := A14
      have N14 := Fr.snoc X14 N0 g_b13
      refine own_go (U' := T14.setTop (mkF m 24 #[.val (.ref a), .val (.int (3 : Int32))] [(.ref b13)])) st14 ?_
      refine own_go (U' := T14.setTop (mkF m 25 #[.val (.ref a), .val (.int (3 : Int32))] [(.ref b13), (.ref b13)])) (fun t k => XS.dup X14.here hx rfl (hb hby dle_24) rfl rfl k) ?_
      refine own_go (U' := T14.setTop (mkF m 26 #[.val (.ref a), .val (.int (3 : Int32))] [(.int (1 : Int32)), (.ref b13), (.ref b13)])) (fun t k => XS.iconst X14.here hx rfl (hb hby dle_25) k) ?_
      refine own_go (U' := T14.setTop (mkF m 27 #[.val (.ref a), .val (.int (3 : Int32))] [(.ref a), (.int (1 : Int32)), (.ref b13), (.ref b13)])) (fun t k => XS.aloadN X14.here hx rfl (hb hby dle_26) rfl rfl k) ?_
      refine own_go (U' := T14.setTop (mkF m 28 #[.val (.ref a), .val (.int (3 : Int32))] [(.int (1 : Int32)), (.ref a), (.int (1 : Int32)), (.ref b13), (.ref b13)])) (fun t k => XS.iconst X14.here hx rfl (hb hby dle_27) k) ?_
      refine own_go (U' := T14.setTop (mkF m 29 #[.val (.ref a), .val (.int (3 : Int32))] [(.int x1), (.int (1 : Int32)), (.ref b13), (.ref b13)])) (own_baload X14 hx hZ e14 V_a (j := (1 : Int32)) (by decide) (i := 1) rfl (v := (.int x1)) rfl (g := (mkF m 28 #[.val (.ref a), .val (.int (3 : Int32))] [(.int (1 : Int32)), (.ref a), (.int (1 : Int32)), (.ref b13), (.ref b13)])) rfl rfl (hb hby dle_28)) ?_
      obtain ⟨T15, h15, X15, e15, W15, A15, st15⟩ := own_bastore X14 hx hZ e14 V_b13 (j := (1 : Int32)) (by decide) (i := 1) rfl (Nat.le_of_ble_eq_true rfl) (g := (mkF m 29 #[.val (.ref a), .val (.int (3 : Int32))] [(.int x1), (.int (1 : Int32)), (.ref b13), (.ref b13)])) rfl rfl (hb hby dle_29)
      have K := K.wr W15 (Or.inr sz_b13)
      have O := O.wr W15 g_b13
      have E_a := E_a.wr W15
      have V_a := V_a.other W15 ne_a_b13
      have E_b13 := E_b13.wr W15
      have V_b13 : own_Ar Z h15 b13 k13 .byte [(.int x0.toInt8.toInt32), (.int x1.toInt8.toInt32), (.int (0 : Int32))] := A15
      have N15 := Fr.snoc X15 N14 g_b13
      refine own_go (U' := T15.setTop (mkF m 30 #[.val (.ref a), .val (.int (3 : Int32))] [(.ref b13)])) st15 ?_
      refine own_go (U' := T15.setTop (mkF m 31 #[.val (.ref a), .val (.int (3 : Int32))] [(.ref b13), (.ref b13)])) (fun t k => XS.dup X15.here hx rfl (hb hby dle_30) rfl rfl k) ?_
      refine own_go (U' := T15.setTop (mkF m 32 #[.val (.ref a), .val (.int (3 : Int32))] [(.int (2 : Int32)), (.ref b13), (.ref b13)])) (fun t k => XS.iconst X15.here hx rfl (hb hby dle_31) k) ?_
      refine own_go (U' := T15.setTop (mkF m 33 #[.val (.ref a), .val (.int (3 : Int32))] [(.ref a), (.int (2 : Int32)), (.ref b13), (.ref b13)])) (fun t k => XS.aloadN X15.here hx rfl (hb hby dle_32) rfl rfl k) ?_
      refine own_go (U' := T15.setTop (mkF m 34 #[.val (.ref a), .val (.int (3 : Int32))] [(.int (2 : Int32)), (.ref a), (.int (2 : Int32)), (.ref b13), (.ref b13)])) (fun t k => XS.iconst X15.here hx rfl (hb hby dle_33) k) ?_
      refine own_go (U' := T15.setTop (mkF m 35 #[.val (.ref a), .val (.int (3 : Int32))] [(.int x2), (.int (2 : Int32)), (.ref b13), (.ref b13)])) (own_baload X15 hx hZ e15 V_a (j := (2 : Int32)) (by decide) (i := 2) rfl (v := (.int x2)) rfl (g := (mkF m 34 #[.val (.ref a), .val (.int (3 : Int32))] [(.int (2 : Int32)), (.ref a), (.int (2 : Int32)), (.ref b13), (.ref b13)])) rfl rfl (hb hby dle_34)) ?_
      refine own_go (U' := T15.setTop (mkF m 36 #[.val (.ref a), .val (.int (3 : Int32))] [(.int (1 : Int32)), (.int x2), (.int (2 : Int32)), (.ref b13), (.ref b13)])) (fun t k => XS.iconst X15.here hx rfl (hb hby dle_35) k) ?_
      refine own_go (U' := T15.setTop (mkF m 37 #[.val (.ref a), .val (.int (3 : Int32))] [(.int (x2 + (1 : Int32))), (.int (2 : Int32)), (.ref b13), (.ref b13)])) (fun t k => XS.iadd X15.here hx rfl (hb hby dle_36) rfl k) ?_
      refine own_go (U' := T15.setTop (mkF m 38 #[.val (.ref a), .val (.int (3 : Int32))] [(.int ((x2 + (1 : Int32)).toInt8.toInt32)), (.int (2 : Int32)), (.ref b13), (.ref b13)])) (fun t k => XS.i2b X15.here hx rfl (hb hby dle_37) rfl k) ?_
      obtain ⟨T16, h16, X16, e16, W16, A16, st16⟩ := own_bastore X15 hx hZ e15 V_b13 (j := (2 : Int32)) (by decide) (i := 2) rfl (Nat.le_of_ble_eq_true rfl) (g := (mkF m 38 #[.val (.ref a), .val (.int (3 : Int32))] [(.int ((x2 + (1 : Int32)).toInt8.toInt32)), (.int (2 : Int32)), (.ref b13), (.ref b13)])) rfl rfl (hb hby dle_38)
      have K := K.wr W16 (Or.inr sz_b13)
      have O := O.wr W16 g_b13
      have E_a := E_a.wr W16
      have V_a := V_a.other W16 ne_a_b13
      have E_b13 := E_b13.wr W16
      have V_b13 : own_Ar Z h16 b13 k13 .byte [(.int x0.toInt8.toInt32), (.int x1.toInt8.toInt32), (.int ((x2 + (1 : Int32)).toInt8.toInt32).toInt8.toInt32)] := A16
      have N16 := Fr.snoc X16 N15 g_b13
      refine own_go (U' := T16.setTop (mkF m 39 #[.val (.ref a), .val (.int (3 : Int32))] [(.ref b13)])) st16 ?_
      have hE : own_eop [x0, x1, x2] [x0, x1, x2].length = some [x0, x1, (x2 + (1 : Int32)).toInt8.toInt32] := by simp [own_eop, hy2]
      rw [y0, y1, own_i8] at V_b13
      refine own_retA X16 hx (t := (.array .byte)) hret rfl hlk rfl (hb hby dle_39) ?_ (by decide) (by decide)
      rw [e16, hE]
      exact ⟨_, _, rfl, N16, K, sz_b13, g_b13, V_b13, E_b13⟩
theorem dsn_0 : decode method_4_code 0 = .ok (.aload_n 0, 1) := by decide +kernel
theorem dsn_1 : decode method_4_code 1 = .ok (.ifnull 7, 3) := by decide +kernel
theorem dsn_4 : decode method_4_code 4 = .ok (.aload_n 1, 1) := by decide +kernel
theorem dsn_5 : decode method_4_code 5 = .ok (.ifnonnull 14, 3) := by decide +kernel
theorem dsn_8 : decode method_4_code 8 = .ok (.aload_n 0, 1) := by decide +kernel
theorem dsn_9 : decode method_4_code 9 = .ok (.aload_n 1, 1) := by decide +kernel
theorem dsn_10 : decode method_4_code 10 = .ok (.if_acmp .ne 7, 3) := by decide +kernel
theorem dsn_13 : decode method_4_code 13 = .ok (.iconst 1, 1) := by decide +kernel
theorem dsn_14 : decode method_4_code 14 = .ok (.goto 4, 3) := by decide +kernel
theorem dsn_17 : decode method_4_code 17 = .ok (.iconst 0, 1) := by decide +kernel
theorem dsn_18 : decode method_4_code 18 = .ok (.ireturn, 1) := by decide +kernel
theorem dsn_19 : decode method_4_code 19 = .ok (.aload_n 0, 1) := by decide +kernel
theorem dsn_20 : decode method_4_code 20 = .ok (.arraylength, 1) := by decide +kernel
theorem dsn_21 : decode method_4_code 21 = .ok (.aload_n 1, 1) := by decide +kernel
theorem dsn_22 : decode method_4_code 22 = .ok (.arraylength, 1) := by decide +kernel
theorem dsn_23 : decode method_4_code 23 = .ok (.if_icmp .eq 5, 3) := by decide +kernel
theorem dsn_26 : decode method_4_code 26 = .ok (.iconst 0, 1) := by decide +kernel
theorem dsn_27 : decode method_4_code 27 = .ok (.ireturn, 1) := by decide +kernel
theorem dsn_28 : decode method_4_code 28 = .ok (.aload_n 0, 1) := by decide +kernel
theorem dsn_29 : decode method_4_code 29 = .ok (.arraylength, 1) := by decide +kernel
theorem dsn_30 : decode method_4_code 30 = .ok (.ifCond .le 14, 3) := by decide +kernel
theorem dsn_33 : decode method_4_code 33 = .ok (.aload_n 0, 1) := by decide +kernel
theorem dsn_34 : decode method_4_code 34 = .ok (.iconst 0, 1) := by decide +kernel
theorem dsn_35 : decode method_4_code 35 = .ok (.baload, 1) := by decide +kernel
theorem dsn_36 : decode method_4_code 36 = .ok (.aload_n 1, 1) := by decide +kernel
theorem dsn_37 : decode method_4_code 37 = .ok (.iconst 0, 1) := by decide +kernel
theorem dsn_38 : decode method_4_code 38 = .ok (.baload, 1) := by decide +kernel
theorem dsn_39 : decode method_4_code 39 = .ok (.if_icmp .eq 5, 3) := by decide +kernel
theorem dsn_42 : decode method_4_code 42 = .ok (.iconst 0, 1) := by decide +kernel
theorem dsn_43 : decode method_4_code 43 = .ok (.ireturn, 1) := by decide +kernel
theorem dsn_44 : decode method_4_code 44 = .ok (.aload_n 0, 1) := by decide +kernel
theorem dsn_45 : decode method_4_code 45 = .ok (.arraylength, 1) := by decide +kernel
theorem dsn_46 : decode method_4_code 46 = .ok (.iconst 1, 1) := by decide +kernel
theorem dsn_47 : decode method_4_code 47 = .ok (.if_icmp .le 14, 3) := by decide +kernel
theorem dsn_50 : decode method_4_code 50 = .ok (.aload_n 0, 1) := by decide +kernel
theorem dsn_51 : decode method_4_code 51 = .ok (.iconst 1, 1) := by decide +kernel
theorem dsn_52 : decode method_4_code 52 = .ok (.baload, 1) := by decide +kernel
theorem dsn_53 : decode method_4_code 53 = .ok (.aload_n 1, 1) := by decide +kernel
theorem dsn_54 : decode method_4_code 54 = .ok (.iconst 1, 1) := by decide +kernel
theorem dsn_55 : decode method_4_code 55 = .ok (.baload, 1) := by decide +kernel
theorem dsn_56 : decode method_4_code 56 = .ok (.if_icmp .eq 5, 3) := by decide +kernel
theorem dsn_59 : decode method_4_code 59 = .ok (.iconst 0, 1) := by decide +kernel
theorem dsn_60 : decode method_4_code 60 = .ok (.ireturn, 1) := by decide +kernel
theorem dsn_61 : decode method_4_code 61 = .ok (.aload_n 0, 1) := by decide +kernel
theorem dsn_62 : decode method_4_code 62 = .ok (.arraylength, 1) := by decide +kernel
theorem dsn_63 : decode method_4_code 63 = .ok (.iconst 2, 1) := by decide +kernel
theorem dsn_64 : decode method_4_code 64 = .ok (.if_icmp .le 14, 3) := by decide +kernel
theorem dsn_67 : decode method_4_code 67 = .ok (.aload_n 0, 1) := by decide +kernel
theorem dsn_68 : decode method_4_code 68 = .ok (.iconst 2, 1) := by decide +kernel
theorem dsn_69 : decode method_4_code 69 = .ok (.baload, 1) := by decide +kernel
theorem dsn_70 : decode method_4_code 70 = .ok (.aload_n 1, 1) := by decide +kernel
theorem dsn_71 : decode method_4_code 71 = .ok (.iconst 2, 1) := by decide +kernel
theorem dsn_72 : decode method_4_code 72 = .ok (.baload, 1) := by decide +kernel
theorem dsn_73 : decode method_4_code 73 = .ok (.if_icmp .eq 5, 3) := by decide +kernel
theorem dsn_76 : decode method_4_code 76 = .ok (.iconst 0, 1) := by decide +kernel
theorem dsn_77 : decode method_4_code 77 = .ok (.ireturn, 1) := by decide +kernel
theorem dsn_78 : decode method_4_code 78 = .ok (.aload_n 0, 1) := by decide +kernel
theorem dsn_79 : decode method_4_code 79 = .ok (.arraylength, 1) := by decide +kernel
theorem dsn_80 : decode method_4_code 80 = .ok (.iconst 3, 1) := by decide +kernel
theorem dsn_81 : decode method_4_code 81 = .ok (.if_icmp .gt 7, 3) := by decide +kernel
theorem dsn_84 : decode method_4_code 84 = .ok (.iconst 1, 1) := by decide +kernel
theorem dsn_85 : decode method_4_code 85 = .ok (.goto 4, 3) := by decide +kernel
theorem dsn_88 : decode method_4_code 88 = .ok (.iconst 0, 1) := by decide +kernel
theorem dsn_89 : decode method_4_code 89 = .ok (.ireturn, 1) := by decide +kernel
theorem own_efsn (m : MethodId)  : entryFrame m #[.null, .null] 2 = mkF m 0 #[.val .null, .val .null] [] := by first | (simp [entryFrame, mkF, argsToLocals, Value.category]; done) | rfl
set_option maxRecDepth 65536 in
set_option maxHeartbeats 40000000 in
theorem own_rmsn (l : Launch) (Z : State) (a0 : Array Value) (hw : ∀ d ∈ tables_1, d.before a0 Z = true)  (h0 : Heap)  :
    own_C l Z (⟨"com/example/pagemark/pagemark/storage/KeyRangeBetweenPinLaw", "same", "([B[B)Z"⟩ : MethodName) method_4_code 2 (some .boolean) [] ({ frames := 0, cells := 0, slots := 0, locals := 0 } : Room) #[.null, .null] h0 (fun v h L => v = some (.int 1) ∧ L = [] ∧ h = h0) := by
  refine own_body (plainFor_of_name own_pn2) fun p e s m below meth c s₁ hx hby hml hret hlk hown hnm hZ X0 e0 => ?_
  rw [own_efsn m ]
  refine own_go (U' := s₁.setTop (mkF m 1 #[.val .null, .val .null] [.null])) (fun t k => XS.aloadN X0.here hx rfl (hb hby dsn_0) rfl rfl k) ?_
  refine own_go (U' := s₁.setTop (mkF m 8 #[.val .null, .val .null] [])) (fun t k => XS.ifnullYes X0.here hx rfl (pc0 := 1) (pc' := 8) rfl (hb hby dsn_1) rfl (by decide) (by decide) k) ?_
  refine own_go (U' := s₁.setTop (mkF m 9 #[.val .null, .val .null] [.null])) (fun t k => XS.aloadN X0.here hx rfl (hb hby dsn_8) rfl rfl k) ?_
  refine own_go (U' := s₁.setTop (mkF m 10 #[.val .null, .val .null] [.null, .null])) (fun t k => XS.aloadN X0.here hx rfl (hb hby dsn_9) rfl rfl k) ?_
  refine own_go (U' := s₁.setTop (mkF m 13 #[.val .null, .val .null] [])) (fun t k => Jvm.RoadKit.acmp (g := (mkF m 10 #[.val .null, .val .null] [.null, .null])) X0 hx rfl rfl rfl (pc0 := 10) (pc' := 13) (same := true) rfl (hb hby dsn_10) rfl (decide_eq_true rfl) (by decide) (by decide) k) ?_
  refine own_go (U' := s₁.setTop (mkF m 14 #[.val .null, .val .null] [(.int (1 : Int32))])) (fun t k => XS.iconst X0.here hx rfl (hb hby dsn_13) k) ?_
  refine own_go (U' := s₁.setTop (mkF m 18 #[.val .null, .val .null] [(.int (1 : Int32))])) (fun t k => XS.goto X0.here hx rfl (pc0 := 14) (pc' := 18) rfl (hb hby dsn_14) (by decide) (by decide) k) ?_
  refine own_retN X0 hx (t := .boolean) hret (by simp) hlk (hb hby dsn_18) ?_ (by decide) (by decide)
  exact ⟨rfl, rfl, e0⟩
theorem own_efsa (m : MethodId) (a b : Addr) : entryFrame m #[(.ref a), (.ref b)] 2 = mkF m 0 #[.val (.ref a), .val (.ref b)] [] := by first | (simp [entryFrame, mkF, argsToLocals, Value.category]; done) | rfl
set_option maxRecDepth 65536 in
set_option maxHeartbeats 40000000 in
theorem own_rmsa (l : Launch) (Z : State) (a0 : Array Value) (hw : ∀ d ∈ tables_1, d.before a0 Z = true) (a b : Addr) (h0 : Heap) (bs : List Int32) (ka kb : ClassId) (hb3 : bs.length ≤ 3) (V_a : own_Ar Z h0 a ka .byte (own_bs bs)) (V_b : own_Ar Z h0 b kb .byte (own_bs bs)) :
    own_C l Z (⟨"com/example/pagemark/pagemark/storage/KeyRangeBetweenPinLaw", "same", "([B[B)Z"⟩ : MethodName) method_4_code 2 (some .boolean) [] ({ frames := 0, cells := 0, slots := 0, locals := 0 } : Room) #[(.ref a), (.ref b)] h0 (fun v h L => v = some (.int 1) ∧ L = [] ∧ h = h0) := by
  refine own_body (plainFor_of_name own_pn2) fun p e s m below meth c s₁ hx hby hml hret hlk hown hnm hZ X0 e0 => ?_
  rw [own_efsa m a b]
  rcases own_len3 hb3 with rfl | ⟨x0, rfl⟩ | ⟨x0, x1, rfl⟩ | ⟨x0, x1, x2, rfl⟩
  · skip
    refine own_go (U' := s₁.setTop (mkF m 1 #[.val (.ref a), .val (.ref b)] [(.ref a)])) (fun t k => XS.aloadN X0.here hx rfl (hb hby dsn_0) rfl rfl k) ?_
    refine own_go (U' := s₁.setTop (mkF m 4 #[.val (.ref a), .val (.ref b)] [])) (fun t k => XS.ifnullNo X0.here hx rfl (hb hby dsn_1) rfl k) ?_
    refine own_go (U' := s₁.setTop (mkF m 5 #[.val (.ref a), .val (.ref b)] [(.ref b)])) (fun t k => XS.aloadN X0.here hx rfl (hb hby dsn_4) rfl rfl k) ?_
    refine own_go (U' := s₁.setTop (mkF m 19 #[.val (.ref a), .val (.ref b)] [])) (fun t k => XS.ifnonnullYes X0.here hx rfl (pc0 := 5) (pc' := 19) rfl (hb hby dsn_5) rfl (by decide) (by decide) k) ?_
    refine own_go (U' := s₁.setTop (mkF m 20 #[.val (.ref a), .val (.ref b)] [(.ref a)])) (fun t k => XS.aloadN X0.here hx rfl (hb hby dsn_19) rfl rfl k) ?_
    refine own_go (U' := s₁.setTop (mkF m 21 #[.val (.ref a), .val (.ref b)] [(.int (0 : Int32))])) (own_arrlen X0 hx hZ e0 V_a (n := (0 : Int32)) rfl (g := (mkF m 20 #[.val (.ref a), .val (.ref b)] [(.ref a)])) rfl rfl (hb hby dsn_20)) ?_
    refine own_go (U' := s₁.setTop (mkF m 22 #[.val (.ref a), .val (.ref b)] [(.ref b), (.int (0 : Int32))])) (fun t k => XS.aloadN X0.here hx rfl (hb hby dsn_21) rfl rfl k) ?_
    refine own_go (U' := s₁.setTop (mkF m 23 #[.val (.ref a), .val (.ref b)] [(.int (0 : Int32)), (.int (0 : Int32))])) (own_arrlen X0 hx hZ e0 V_b (n := (0 : Int32)) rfl (g := (mkF m 22 #[.val (.ref a), .val (.ref b)] [(.ref b), (.int (0 : Int32))])) rfl rfl (hb hby dsn_22)) ?_
    refine own_go (U' := s₁.setTop (mkF m 28 #[.val (.ref a), .val (.ref b)] [])) (fun t k => XS.icmpYes X0.here hx rfl (pc0 := 23) (pc' := 28) rfl (hb hby dsn_23) rfl (teq (by decide)).1 (by decide) (by decide) k) ?_
    refine own_go (U' := s₁.setTop (mkF m 29 #[.val (.ref a), .val (.ref b)] [(.ref a)])) (fun t k => XS.aloadN X0.here hx rfl (hb hby dsn_28) rfl rfl k) ?_
    refine own_go (U' := s₁.setTop (mkF m 30 #[.val (.ref a), .val (.ref b)] [(.int (0 : Int32))])) (own_arrlen X0 hx hZ e0 V_a (n := (0 : Int32)) rfl (g := (mkF m 29 #[.val (.ref a), .val (.ref b)] [(.ref a)])) rfl rfl (hb hby dsn_29)) ?_
    refine own_go (U' := s₁.setTop (mkF m 44 #[.val (.ref a), .val (.ref b)] [])) (fun t k => XS.ifYes X0.here hx rfl (pc0 := 30) (pc' := 44) rfl (hb hby dsn_30) rfl ((if0 _ _).trans (flt (by decide)).2.2.2) (by decide) (by decide) k) ?_
    refine own_go (U' := s₁.setTop (mkF m 45 #[.val (.ref a), .val (.ref b)] [(.ref a)])) (fun t k => XS.aloadN X0.here hx rfl (hb hby dsn_44) rfl rfl k) ?_
    refine own_go (U' := s₁.setTop (mkF m 46 #[.val (.ref a), .val (.ref b)] [(.int (0 : Int32))])) (own_arrlen X0 hx hZ e0 V_a (n := (0 : Int32)) rfl (g := (mkF m 45 #[.val (.ref a), .val (.ref b)] [(.ref a)])) rfl rfl (hb hby dsn_45)) ?_
    refine own_go (U' := s₁.setTop (mkF m 47 #[.val (.ref a), .val (.ref b)] [(.int (1 : Int32)), (.int (0 : Int32))])) (fun t k => XS.iconst X0.here hx rfl (hb hby dsn_46) k) ?_
    refine own_go (U' := s₁.setTop (mkF m 61 #[.val (.ref a), .val (.ref b)] [])) (fun t k => XS.icmpYes X0.here hx rfl (pc0 := 47) (pc' := 61) rfl (hb hby dsn_47) rfl (flt (by decide)).2.2.2 (by decide) (by decide) k) ?_
    refine own_go (U' := s₁.setTop (mkF m 62 #[.val (.ref a), .val (.ref b)] [(.ref a)])) (fun t k => XS.aloadN X0.here hx rfl (hb hby dsn_61) rfl rfl k) ?_
    refine own_go (U' := s₁.setTop (mkF m 63 #[.val (.ref a), .val (.ref b)] [(.int (0 : Int32))])) (own_arrlen X0 hx hZ e0 V_a (n := (0 : Int32)) rfl (g := (mkF m 62 #[.val (.ref a), .val (.ref b)] [(.ref a)])) rfl rfl (hb hby dsn_62)) ?_
    refine own_go (U' := s₁.setTop (mkF m 64 #[.val (.ref a), .val (.ref b)] [(.int (2 : Int32)), (.int (0 : Int32))])) (fun t k => XS.iconst X0.here hx rfl (hb hby dsn_63) k) ?_
    refine own_go (U' := s₁.setTop (mkF m 78 #[.val (.ref a), .val (.ref b)] [])) (fun t k => XS.icmpYes X0.here hx rfl (pc0 := 64) (pc' := 78) rfl (hb hby dsn_64) rfl (flt (by decide)).2.2.2 (by decide) (by decide) k) ?_
    refine own_go (U' := s₁.setTop (mkF m 79 #[.val (.ref a), .val (.ref b)] [(.ref a)])) (fun t k => XS.aloadN X0.here hx rfl (hb hby dsn_78) rfl rfl k) ?_
    refine own_go (U' := s₁.setTop (mkF m 80 #[.val (.ref a), .val (.ref b)] [(.int (0 : Int32))])) (own_arrlen X0 hx hZ e0 V_a (n := (0 : Int32)) rfl (g := (mkF m 79 #[.val (.ref a), .val (.ref b)] [(.ref a)])) rfl rfl (hb hby dsn_79)) ?_
    refine own_go (U' := s₁.setTop (mkF m 81 #[.val (.ref a), .val (.ref b)] [(.int (3 : Int32)), (.int (0 : Int32))])) (fun t k => XS.iconst X0.here hx rfl (hb hby dsn_80) k) ?_
    refine own_go (U' := s₁.setTop (mkF m 84 #[.val (.ref a), .val (.ref b)] [])) (fun t k => XS.icmpNo X0.here hx rfl (hb hby dsn_81) rfl (flt (by decide)).2.2.1 k) ?_
    refine own_go (U' := s₁.setTop (mkF m 85 #[.val (.ref a), .val (.ref b)] [(.int (1 : Int32))])) (fun t k => XS.iconst X0.here hx rfl (hb hby dsn_84) k) ?_
    refine own_go (U' := s₁.setTop (mkF m 89 #[.val (.ref a), .val (.ref b)] [(.int (1 : Int32))])) (fun t k => XS.goto X0.here hx rfl (pc0 := 85) (pc' := 89) rfl (hb hby dsn_85) (by decide) (by decide) k) ?_
    refine own_retN X0 hx (t := .boolean) hret (by simp) hlk (hb hby dsn_89) ?_ (by decide) (by decide)
    exact ⟨rfl, rfl, e0⟩
  · skip
    refine own_go (U' := s₁.setTop (mkF m 1 #[.val (.ref a), .val (.ref b)] [(.ref a)])) (fun t k => XS.aloadN X0.here hx rfl (hb hby dsn_0) rfl rfl k) ?_
    refine own_go (U' := s₁.setTop (mkF m 4 #[.val (.ref a), .val (.ref b)] [])) (fun t k => XS.ifnullNo X0.here hx rfl (hb hby dsn_1) rfl k) ?_
    refine own_go (U' := s₁.setTop (mkF m 5 #[.val (.ref a), .val (.ref b)] [(.ref b)])) (fun t k => XS.aloadN X0.here hx rfl (hb hby dsn_4) rfl rfl k) ?_
    refine own_go (U' := s₁.setTop (mkF m 19 #[.val (.ref a), .val (.ref b)] [])) (fun t k => XS.ifnonnullYes X0.here hx rfl (pc0 := 5) (pc' := 19) rfl (hb hby dsn_5) rfl (by decide) (by decide) k) ?_
    refine own_go (U' := s₁.setTop (mkF m 20 #[.val (.ref a), .val (.ref b)] [(.ref a)])) (fun t k => XS.aloadN X0.here hx rfl (hb hby dsn_19) rfl rfl k) ?_
    refine own_go (U' := s₁.setTop (mkF m 21 #[.val (.ref a), .val (.ref b)] [(.int (1 : Int32))])) (own_arrlen X0 hx hZ e0 V_a (n := (1 : Int32)) rfl (g := (mkF m 20 #[.val (.ref a), .val (.ref b)] [(.ref a)])) rfl rfl (hb hby dsn_20)) ?_
    refine own_go (U' := s₁.setTop (mkF m 22 #[.val (.ref a), .val (.ref b)] [(.ref b), (.int (1 : Int32))])) (fun t k => XS.aloadN X0.here hx rfl (hb hby dsn_21) rfl rfl k) ?_
    refine own_go (U' := s₁.setTop (mkF m 23 #[.val (.ref a), .val (.ref b)] [(.int (1 : Int32)), (.int (1 : Int32))])) (own_arrlen X0 hx hZ e0 V_b (n := (1 : Int32)) rfl (g := (mkF m 22 #[.val (.ref a), .val (.ref b)] [(.ref b), (.int (1 : Int32))])) rfl rfl (hb hby dsn_22)) ?_
    refine own_go (U' := s₁.setTop (mkF m 28 #[.val (.ref a), .val (.ref b)] [])) (fun t k => XS.icmpYes X0.here hx rfl (pc0 := 23) (pc' := 28) rfl (hb hby dsn_23) rfl (teq (by decide)).1 (by decide) (by decide) k) ?_
    refine own_go (U' := s₁.setTop (mkF m 29 #[.val (.ref a), .val (.ref b)] [(.ref a)])) (fun t k => XS.aloadN X0.here hx rfl (hb hby dsn_28) rfl rfl k) ?_
    refine own_go (U' := s₁.setTop (mkF m 30 #[.val (.ref a), .val (.ref b)] [(.int (1 : Int32))])) (own_arrlen X0 hx hZ e0 V_a (n := (1 : Int32)) rfl (g := (mkF m 29 #[.val (.ref a), .val (.ref b)] [(.ref a)])) rfl rfl (hb hby dsn_29)) ?_
    refine own_go (U' := s₁.setTop (mkF m 33 #[.val (.ref a), .val (.ref b)] [])) (fun t k => XS.ifNo X0.here hx rfl (hb hby dsn_30) rfl ((if0 _ _).trans (tlt (by decide)).2.2.2) k) ?_
    refine own_go (U' := s₁.setTop (mkF m 34 #[.val (.ref a), .val (.ref b)] [(.ref a)])) (fun t k => XS.aloadN X0.here hx rfl (hb hby dsn_33) rfl rfl k) ?_
    refine own_go (U' := s₁.setTop (mkF m 35 #[.val (.ref a), .val (.ref b)] [(.int (0 : Int32)), (.ref a)])) (fun t k => XS.iconst X0.here hx rfl (hb hby dsn_34) k) ?_
    refine own_go (U' := s₁.setTop (mkF m 36 #[.val (.ref a), .val (.ref b)] [(.int x0)])) (own_baload X0 hx hZ e0 V_a (j := (0 : Int32)) (by decide) (i := 0) rfl (v := (.int x0)) rfl (g := (mkF m 35 #[.val (.ref a), .val (.ref b)] [(.int (0 : Int32)), (.ref a)])) rfl rfl (hb hby dsn_35)) ?_
    refine own_go (U' := s₁.setTop (mkF m 37 #[.val (.ref a), .val (.ref b)] [(.ref b), (.int x0)])) (fun t k => XS.aloadN X0.here hx rfl (hb hby dsn_36) rfl rfl k) ?_
    refine own_go (U' := s₁.setTop (mkF m 38 #[.val (.ref a), .val (.ref b)] [(.int (0 : Int32)), (.ref b), (.int x0)])) (fun t k => XS.iconst X0.here hx rfl (hb hby dsn_37) k) ?_
    refine own_go (U' := s₁.setTop (mkF m 39 #[.val (.ref a), .val (.ref b)] [(.int x0), (.int x0)])) (own_baload X0 hx hZ e0 V_b (j := (0 : Int32)) (by decide) (i := 0) rfl (v := (.int x0)) rfl (g := (mkF m 38 #[.val (.ref a), .val (.ref b)] [(.int (0 : Int32)), (.ref b), (.int x0)])) rfl rfl (hb hby dsn_38)) ?_
    refine own_go (U' := s₁.setTop (mkF m 44 #[.val (.ref a), .val (.ref b)] [])) (fun t k => XS.icmpYes X0.here hx rfl (pc0 := 39) (pc' := 44) rfl (hb hby dsn_39) rfl (teq rfl).1 (by decide) (by decide) k) ?_
    refine own_go (U' := s₁.setTop (mkF m 45 #[.val (.ref a), .val (.ref b)] [(.ref a)])) (fun t k => XS.aloadN X0.here hx rfl (hb hby dsn_44) rfl rfl k) ?_
    refine own_go (U' := s₁.setTop (mkF m 46 #[.val (.ref a), .val (.ref b)] [(.int (1 : Int32))])) (own_arrlen X0 hx hZ e0 V_a (n := (1 : Int32)) rfl (g := (mkF m 45 #[.val (.ref a), .val (.ref b)] [(.ref a)])) rfl rfl (hb hby dsn_45)) ?_
    refine own_go (U' := s₁.setTop (mkF m 47 #[.val (.ref a), .val (.ref b)] [(.int (1 : Int32)), (.int (1 : Int32))])) (fun t k => XS.iconst X0.here hx rfl (hb hby dsn_46) k) ?_
    refine own_go (U' := s₁.setTop (mkF m 61 #[.val (.ref a), .val (.ref b)] [])) (fun t k => XS.icmpYes X0.here hx rfl (pc0 := 47) (pc' := 61) rfl (hb hby dsn_47) rfl (flt (by decide)).2.2.2 (by decide) (by decide) k) ?_
    refine own_go (U' := s₁.setTop (mkF m 62 #[.val (.ref a), .val (.ref b)] [(.ref a)])) (fun t k => XS.aloadN X0.here hx rfl (hb hby dsn_61) rfl rfl k) ?_
    refine own_go (U' := s₁.setTop (mkF m 63 #[.val (.ref a), .val (.ref b)] [(.int (1 : Int32))])) (own_arrlen X0 hx hZ e0 V_a (n := (1 : Int32)) rfl (g := (mkF m 62 #[.val (.ref a), .val (.ref b)] [(.ref a)])) rfl rfl (hb hby dsn_62)) ?_
    refine own_go (U' := s₁.setTop (mkF m 64 #[.val (.ref a), .val (.ref b)] [(.int (2 : Int32)), (.int (1 : Int32))])) (fun t k => XS.iconst X0.here hx rfl (hb hby dsn_63) k) ?_
    refine own_go (U' := s₁.setTop (mkF m 78 #[.val (.ref a), .val (.ref b)] [])) (fun t k => XS.icmpYes X0.here hx rfl (pc0 := 64) (pc' := 78) rfl (hb hby dsn_64) rfl (flt (by decide)).2.2.2 (by decide) (by decide) k) ?_
    refine own_go (U' := s₁.setTop (mkF m 79 #[.val (.ref a), .val (.ref b)] [(.ref a)])) (fun t k => XS.aloadN X0.here hx rfl (hb hby dsn_78) rfl rfl k) ?_
    refine own_go (U' := s₁.setTop (mkF m 80 #[.val (.ref a), .val (.ref b)] [(.int (1 : Int32))])) (own_arrlen X0 hx hZ e0 V_a (n := (1 : Int32)) rfl (g := (mkF m 79 #[.val (.ref a), .val (.ref b)] [(.ref a)])) rfl rfl (hb hby dsn_79)) ?_
    refine own_go (U' := s₁.setTop (mkF m 81 #[.val (.ref a), .val (.ref b)] [(.int (3 : Int32)), (.int (1 : Int32))])) (fun t k => XS.iconst X0.here hx rfl (hb hby dsn_80) k) ?_
    refine own_go (U' := s₁.setTop (mkF m 84 #[.val (.ref a), .val (.ref b)] [])) (fun t k => XS.icmpNo X0.here hx rfl (hb hby dsn_81) rfl (flt (by decide)).2.2.1 k) ?_
    refine own_go (U' := s₁.setTop (mkF m 85 #[.val (.ref a), .val (.ref b)] [(.int (1 : Int32))])) (fun t k => XS.iconst X0.here hx rfl (hb hby dsn_84) k) ?_
    refine own_go (U' := s₁.setTop (mkF m 89 #[.val (.ref a), .val (.ref b)] [(.int (1 : Int32))])) (fun t k => XS.goto X0.here hx rfl (pc0 := 85) (pc' := 89) rfl (hb hby dsn_85) (by decide) (by decide) k) ?_
    refine own_retN X0 hx (t := .boolean) hret (by simp) hlk (hb hby dsn_89) ?_ (by decide) (by decide)
    exact ⟨rfl, rfl, e0⟩
  · skip
    refine own_go (U' := s₁.setTop (mkF m 1 #[.val (.ref a), .val (.ref b)] [(.ref a)])) (fun t k => XS.aloadN X0.here hx rfl (hb hby dsn_0) rfl rfl k) ?_
    refine own_go (U' := s₁.setTop (mkF m 4 #[.val (.ref a), .val (.ref b)] [])) (fun t k => XS.ifnullNo X0.here hx rfl (hb hby dsn_1) rfl k) ?_
    refine own_go (U' := s₁.setTop (mkF m 5 #[.val (.ref a), .val (.ref b)] [(.ref b)])) (fun t k => XS.aloadN X0.here hx rfl (hb hby dsn_4) rfl rfl k) ?_
    refine own_go (U' := s₁.setTop (mkF m 19 #[.val (.ref a), .val (.ref b)] [])) (fun t k => XS.ifnonnullYes X0.here hx rfl (pc0 := 5) (pc' := 19) rfl (hb hby dsn_5) rfl (by decide) (by decide) k) ?_
    refine own_go (U' := s₁.setTop (mkF m 20 #[.val (.ref a), .val (.ref b)] [(.ref a)])) (fun t k => XS.aloadN X0.here hx rfl (hb hby dsn_19) rfl rfl k) ?_
    refine own_go (U' := s₁.setTop (mkF m 21 #[.val (.ref a), .val (.ref b)] [(.int (2 : Int32))])) (own_arrlen X0 hx hZ e0 V_a (n := (2 : Int32)) rfl (g := (mkF m 20 #[.val (.ref a), .val (.ref b)] [(.ref a)])) rfl rfl (hb hby dsn_20)) ?_
    refine own_go (U' := s₁.setTop (mkF m 22 #[.val (.ref a), .val (.ref b)] [(.ref b), (.int (2 : Int32))])) (fun t k => XS.aloadN X0.here hx rfl (hb hby dsn_21) rfl rfl k) ?_
    refine own_go (U' := s₁.setTop (mkF m 23 #[.val (.ref a), .val (.ref b)] [(.int (2 : Int32)), (.int (2 : Int32))])) (own_arrlen X0 hx hZ e0 V_b (n := (2 : Int32)) rfl (g := (mkF m 22 #[.val (.ref a), .val (.ref b)] [(.ref b), (.int (2 : Int32))])) rfl rfl (hb hby dsn_22)) ?_
    refine own_go (U' := s₁.setTop (mkF m 28 #[.val (.ref a), .val (.ref b)] [])) (fun t k => XS.icmpYes X0.here hx rfl (pc0 := 23) (pc' := 28) rfl (hb hby dsn_23) rfl (teq (by decide)).1 (by decide) (by decide) k) ?_
    refine own_go (U' := s₁.setTop (mkF m 29 #[.val (.ref a), .val (.ref b)] [(.ref a)])) (fun t k => XS.aloadN X0.here hx rfl (hb hby dsn_28) rfl rfl k) ?_
    refine own_go (U' := s₁.setTop (mkF m 30 #[.val (.ref a), .val (.ref b)] [(.int (2 : Int32))])) (own_arrlen X0 hx hZ e0 V_a (n := (2 : Int32)) rfl (g := (mkF m 29 #[.val (.ref a), .val (.ref b)] [(.ref a)])) rfl rfl (hb hby dsn_29)) ?_
    refine own_go (U' := s₁.setTop (mkF m 33 #[.val (.ref a), .val (.ref b)] [])) (fun t k => XS.ifNo X0.here hx rfl (hb hby dsn_30) rfl ((if0 _ _).trans (tlt (by decide)).2.2.2) k) ?_
    refine own_go (U' := s₁.setTop (mkF m 34 #[.val (.ref a), .val (.ref b)] [(.ref a)])) (fun t k => XS.aloadN X0.here hx rfl (hb hby dsn_33) rfl rfl k) ?_
    refine own_go (U' := s₁.setTop (mkF m 35 #[.val (.ref a), .val (.ref b)] [(.int (0 : Int32)), (.ref a)])) (fun t k => XS.iconst X0.here hx rfl (hb hby dsn_34) k) ?_
    refine own_go (U' := s₁.setTop (mkF m 36 #[.val (.ref a), .val (.ref b)] [(.int x0)])) (own_baload X0 hx hZ e0 V_a (j := (0 : Int32)) (by decide) (i := 0) rfl (v := (.int x0)) rfl (g := (mkF m 35 #[.val (.ref a), .val (.ref b)] [(.int (0 : Int32)), (.ref a)])) rfl rfl (hb hby dsn_35)) ?_
    refine own_go (U' := s₁.setTop (mkF m 37 #[.val (.ref a), .val (.ref b)] [(.ref b), (.int x0)])) (fun t k => XS.aloadN X0.here hx rfl (hb hby dsn_36) rfl rfl k) ?_
    refine own_go (U' := s₁.setTop (mkF m 38 #[.val (.ref a), .val (.ref b)] [(.int (0 : Int32)), (.ref b), (.int x0)])) (fun t k => XS.iconst X0.here hx rfl (hb hby dsn_37) k) ?_
    refine own_go (U' := s₁.setTop (mkF m 39 #[.val (.ref a), .val (.ref b)] [(.int x0), (.int x0)])) (own_baload X0 hx hZ e0 V_b (j := (0 : Int32)) (by decide) (i := 0) rfl (v := (.int x0)) rfl (g := (mkF m 38 #[.val (.ref a), .val (.ref b)] [(.int (0 : Int32)), (.ref b), (.int x0)])) rfl rfl (hb hby dsn_38)) ?_
    refine own_go (U' := s₁.setTop (mkF m 44 #[.val (.ref a), .val (.ref b)] [])) (fun t k => XS.icmpYes X0.here hx rfl (pc0 := 39) (pc' := 44) rfl (hb hby dsn_39) rfl (teq rfl).1 (by decide) (by decide) k) ?_
    refine own_go (U' := s₁.setTop (mkF m 45 #[.val (.ref a), .val (.ref b)] [(.ref a)])) (fun t k => XS.aloadN X0.here hx rfl (hb hby dsn_44) rfl rfl k) ?_
    refine own_go (U' := s₁.setTop (mkF m 46 #[.val (.ref a), .val (.ref b)] [(.int (2 : Int32))])) (own_arrlen X0 hx hZ e0 V_a (n := (2 : Int32)) rfl (g := (mkF m 45 #[.val (.ref a), .val (.ref b)] [(.ref a)])) rfl rfl (hb hby dsn_45)) ?_
    refine own_go (U' := s₁.setTop (mkF m 47 #[.val (.ref a), .val (.ref b)] [(.int (1 : Int32)), (.int (2 : Int32))])) (fun t k => XS.iconst X0.here hx rfl (hb hby dsn_46) k) ?_
    refine own_go (U' := s₁.setTop (mkF m 50 #[.val (.ref a), .val (.ref b)] [])) (fun t k => XS.icmpNo X0.here hx rfl (hb hby dsn_47) rfl (tlt (by decide)).2.2.2 k) ?_
    refine own_go (U' := s₁.setTop (mkF m 51 #[.val (.ref a), .val (.ref b)] [(.ref a)])) (fun t k => XS.aloadN X0.here hx rfl (hb hby dsn_50) rfl rfl k) ?_
    refine own_go (U' := s₁.setTop (mkF m 52 #[.val (.ref a), .val (.ref b)] [(.int (1 : Int32)), (.ref a)])) (fun t k => XS.iconst X0.here hx rfl (hb hby dsn_51) k) ?_
    refine own_go (U' := s₁.setTop (mkF m 53 #[.val (.ref a), .val (.ref b)] [(.int x1)])) (own_baload X0 hx hZ e0 V_a (j := (1 : Int32)) (by decide) (i := 1) rfl (v := (.int x1)) rfl (g := (mkF m 52 #[.val (.ref a), .val (.ref b)] [(.int (1 : Int32)), (.ref a)])) rfl rfl (hb hby dsn_52)) ?_
    refine own_go (U' := s₁.setTop (mkF m 54 #[.val (.ref a), .val (.ref b)] [(.ref b), (.int x1)])) (fun t k => XS.aloadN X0.here hx rfl (hb hby dsn_53) rfl rfl k) ?_
    refine own_go (U' := s₁.setTop (mkF m 55 #[.val (.ref a), .val (.ref b)] [(.int (1 : Int32)), (.ref b), (.int x1)])) (fun t k => XS.iconst X0.here hx rfl (hb hby dsn_54) k) ?_
    refine own_go (U' := s₁.setTop (mkF m 56 #[.val (.ref a), .val (.ref b)] [(.int x1), (.int x1)])) (own_baload X0 hx hZ e0 V_b (j := (1 : Int32)) (by decide) (i := 1) rfl (v := (.int x1)) rfl (g := (mkF m 55 #[.val (.ref a), .val (.ref b)] [(.int (1 : Int32)), (.ref b), (.int x1)])) rfl rfl (hb hby dsn_55)) ?_
    refine own_go (U' := s₁.setTop (mkF m 61 #[.val (.ref a), .val (.ref b)] [])) (fun t k => XS.icmpYes X0.here hx rfl (pc0 := 56) (pc' := 61) rfl (hb hby dsn_56) rfl (teq rfl).1 (by decide) (by decide) k) ?_
    refine own_go (U' := s₁.setTop (mkF m 62 #[.val (.ref a), .val (.ref b)] [(.ref a)])) (fun t k => XS.aloadN X0.here hx rfl (hb hby dsn_61) rfl rfl k) ?_
    refine own_go (U' := s₁.setTop (mkF m 63 #[.val (.ref a), .val (.ref b)] [(.int (2 : Int32))])) (own_arrlen X0 hx hZ e0 V_a (n := (2 : Int32)) rfl (g := (mkF m 62 #[.val (.ref a), .val (.ref b)] [(.ref a)])) rfl rfl (hb hby dsn_62)) ?_
    refine own_go (U' := s₁.setTop (mkF m 64 #[.val (.ref a), .val (.ref b)] [(.int (2 : Int32)), (.int (2 : Int32))])) (fun t k => XS.iconst X0.here hx rfl (hb hby dsn_63) k) ?_
    refine own_go (U' := s₁.setTop (mkF m 78 #[.val (.ref a), .val (.ref b)] [])) (fun t k => XS.icmpYes X0.here hx rfl (pc0 := 64) (pc' := 78) rfl (hb hby dsn_64) rfl (flt (by decide)).2.2.2 (by decide) (by decide) k) ?_
    refine own_go (U' := s₁.setTop (mkF m 79 #[.val (.ref a), .val (.ref b)] [(.ref a)])) (fun t k => XS.aloadN X0.here hx rfl (hb hby dsn_78) rfl rfl k) ?_
    refine own_go (U' := s₁.setTop (mkF m 80 #[.val (.ref a), .val (.ref b)] [(.int (2 : Int32))])) (own_arrlen X0 hx hZ e0 V_a (n := (2 : Int32)) rfl (g := (mkF m 79 #[.val (.ref a), .val (.ref b)] [(.ref a)])) rfl rfl (hb hby dsn_79)) ?_
    refine own_go (U' := s₁.setTop (mkF m 81 #[.val (.ref a), .val (.ref b)] [(.int (3 : Int32)), (.int (2 : Int32))])) (fun t k => XS.iconst X0.here hx rfl (hb hby dsn_80) k) ?_
    refine own_go (U' := s₁.setTop (mkF m 84 #[.val (.ref a), .val (.ref b)] [])) (fun t k => XS.icmpNo X0.here hx rfl (hb hby dsn_81) rfl (flt (by decide)).2.2.1 k) ?_
    refine own_go (U' := s₁.setTop (mkF m 85 #[.val (.ref a), .val (.ref b)] [(.int (1 : Int32))])) (fun t k => XS.iconst X0.here hx rfl (hb hby dsn_84) k) ?_
    refine own_go (U' := s₁.setTop (mkF m 89 #[.val (.ref a), .val (.ref b)] [(.int (1 : Int32))])) (fun t k => XS.goto X0.here hx rfl (pc0 := 85) (pc' := 89) rfl (hb hby dsn_85) (by decide) (by decide) k) ?_
    refine own_retN X0 hx (t := .boolean) hret (by simp) hlk (hb hby dsn_89) ?_ (by decide) (by decide)
    exact ⟨rfl, rfl, e0⟩
  · skip
    refine own_go (U' := s₁.setTop (mkF m 1 #[.val (.ref a), .val (.ref b)] [(.ref a)])) (fun t k => XS.aloadN X0.here hx rfl (hb hby dsn_0) rfl rfl k) ?_
    refine own_go (U' := s₁.setTop (mkF m 4 #[.val (.ref a), .val (.ref b)] [])) (fun t k => XS.ifnullNo X0.here hx rfl (hb hby dsn_1) rfl k) ?_
    refine own_go (U' := s₁.setTop (mkF m 5 #[.val (.ref a), .val (.ref b)] [(.ref b)])) (fun t k => XS.aloadN X0.here hx rfl (hb hby dsn_4) rfl rfl k) ?_
    refine own_go (U' := s₁.setTop (mkF m 19 #[.val (.ref a), .val (.ref b)] [])) (fun t k => XS.ifnonnullYes X0.here hx rfl (pc0 := 5) (pc' := 19) rfl (hb hby dsn_5) rfl (by decide) (by decide) k) ?_
    refine own_go (U' := s₁.setTop (mkF m 20 #[.val (.ref a), .val (.ref b)] [(.ref a)])) (fun t k => XS.aloadN X0.here hx rfl (hb hby dsn_19) rfl rfl k) ?_
    refine own_go (U' := s₁.setTop (mkF m 21 #[.val (.ref a), .val (.ref b)] [(.int (3 : Int32))])) (own_arrlen X0 hx hZ e0 V_a (n := (3 : Int32)) rfl (g := (mkF m 20 #[.val (.ref a), .val (.ref b)] [(.ref a)])) rfl rfl (hb hby dsn_20)) ?_
    refine own_go (U' := s₁.setTop (mkF m 22 #[.val (.ref a), .val (.ref b)] [(.ref b), (.int (3 : Int32))])) (fun t k => XS.aloadN X0.here hx rfl (hb hby dsn_21) rfl rfl k) ?_
    refine own_go (U' := s₁.setTop (mkF m 23 #[.val (.ref a), .val (.ref b)] [(.int (3 : Int32)), (.int (3 : Int32))])) (own_arrlen X0 hx hZ e0 V_b (n := (3 : Int32)) rfl (g := (mkF m 22 #[.val (.ref a), .val (.ref b)] [(.ref b), (.int (3 : Int32))])) rfl rfl (hb hby dsn_22)) ?_
    refine own_go (U' := s₁.setTop (mkF m 28 #[.val (.ref a), .val (.ref b)] [])) (fun t k => XS.icmpYes X0.here hx rfl (pc0 := 23) (pc' := 28) rfl (hb hby dsn_23) rfl (teq (by decide)).1 (by decide) (by decide) k) ?_
    refine own_go (U' := s₁.setTop (mkF m 29 #[.val (.ref a), .val (.ref b)] [(.ref a)])) (fun t k => XS.aloadN X0.here hx rfl (hb hby dsn_28) rfl rfl k) ?_
    refine own_go (U' := s₁.setTop (mkF m 30 #[.val (.ref a), .val (.ref b)] [(.int (3 : Int32))])) (own_arrlen X0 hx hZ e0 V_a (n := (3 : Int32)) rfl (g := (mkF m 29 #[.val (.ref a), .val (.ref b)] [(.ref a)])) rfl rfl (hb hby dsn_29)) ?_
    refine own_go (U' := s₁.setTop (mkF m 33 #[.val (.ref a), .val (.ref b)] [])) (fun t k => XS.ifNo X0.here hx rfl (hb hby dsn_30) rfl ((if0 _ _).trans (tlt (by decide)).2.2.2) k) ?_
    refine own_go (U' := s₁.setTop (mkF m 34 #[.val (.ref a), .val (.ref b)] [(.ref a)])) (fun t k => XS.aloadN X0.here hx rfl (hb hby dsn_33) rfl rfl k) ?_
    refine own_go (U' := s₁.setTop (mkF m 35 #[.val (.ref a), .val (.ref b)] [(.int (0 : Int32)), (.ref a)])) (fun t k => XS.iconst X0.here hx rfl (hb hby dsn_34) k) ?_
    refine own_go (U' := s₁.setTop (mkF m 36 #[.val (.ref a), .val (.ref b)] [(.int x0)])) (own_baload X0 hx hZ e0 V_a (j := (0 : Int32)) (by decide) (i := 0) rfl (v := (.int x0)) rfl (g := (mkF m 35 #[.val (.ref a), .val (.ref b)] [(.int (0 : Int32)), (.ref a)])) rfl rfl (hb hby dsn_35)) ?_
    refine own_go (U' := s₁.setTop (mkF m 37 #[.val (.ref a), .val (.ref b)] [(.ref b), (.int x0)])) (fun t k => XS.aloadN X0.here hx rfl (hb hby dsn_36) rfl rfl k) ?_
    refine own_go (U' := s₁.setTop (mkF m 38 #[.val (.ref a), .val (.ref b)] [(.int (0 : Int32)), (.ref b), (.int x0)])) (fun t k => XS.iconst X0.here hx rfl (hb hby dsn_37) k) ?_
    refine own_go (U' := s₁.setTop (mkF m 39 #[.val (.ref a), .val (.ref b)] [(.int x0), (.int x0)])) (own_baload X0 hx hZ e0 V_b (j := (0 : Int32)) (by decide) (i := 0) rfl (v := (.int x0)) rfl (g := (mkF m 38 #[.val (.ref a), .val (.ref b)] [(.int (0 : Int32)), (.ref b), (.int x0)])) rfl rfl (hb hby dsn_38)) ?_
    refine own_go (U' := s₁.setTop (mkF m 44 #[.val (.ref a), .val (.ref b)] [])) (fun t k => XS.icmpYes X0.here hx rfl (pc0 := 39) (pc' := 44) rfl (hb hby dsn_39) rfl (teq rfl).1 (by decide) (by decide) k) ?_
    refine own_go (U' := s₁.setTop (mkF m 45 #[.val (.ref a), .val (.ref b)] [(.ref a)])) (fun t k => XS.aloadN X0.here hx rfl (hb hby dsn_44) rfl rfl k) ?_
    refine own_go (U' := s₁.setTop (mkF m 46 #[.val (.ref a), .val (.ref b)] [(.int (3 : Int32))])) (own_arrlen X0 hx hZ e0 V_a (n := (3 : Int32)) rfl (g := (mkF m 45 #[.val (.ref a), .val (.ref b)] [(.ref a)])) rfl rfl (hb hby dsn_45)) ?_
    refine own_go (U' := s₁.setTop (mkF m 47 #[.val (.ref a), .val (.ref b)] [(.int (1 : Int32)), (.int (3 : Int32))])) (fun t k => XS.iconst X0.here hx rfl (hb hby dsn_46) k) ?_
    refine own_go (U' := s₁.setTop (mkF m 50 #[.val (.ref a), .val (.ref b)] [])) (fun t k => XS.icmpNo X0.here hx rfl (hb hby dsn_47) rfl (tlt (by decide)).2.2.2 k) ?_
    refine own_go (U' := s₁.setTop (mkF m 51 #[.val (.ref a), .val (.ref b)] [(.ref a)])) (fun t k => XS.aloadN X0.here hx rfl (hb hby dsn_50) rfl rfl k) ?_
    refine own_go (U' := s₁.setTop (mkF m 52 #[.val (.ref a), .val (.ref b)] [(.int (1 : Int32)), (.ref a)])) (fun t k => XS.iconst X0.here hx rfl (hb hby dsn_51) k) ?_
    refine own_go (U' := s₁.setTop (mkF m 53 #[.val (.ref a), .val (.ref b)] [(.int x1)])) (own_baload X0 hx hZ e0 V_a (j := (1 : Int32)) (by decide) (i := 1) rfl (v := (.int x1)) rfl (g := (mkF m 52 #[.val (.ref a), .val (.ref b)] [(.int (1 : Int32)), (.ref a)])) rfl rfl (hb hby dsn_52)) ?_
    refine own_go (U' := s₁.setTop (mkF m 54 #[.val (.ref a), .val (.ref b)] [(.ref b), (.int x1)])) (fun t k => XS.aloadN X0.here hx rfl (hb hby dsn_53) rfl rfl k) ?_
    refine own_go (U' := s₁.setTop (mkF m 55 #[.val (.ref a), .val (.ref b)] [(.int (1 : Int32)), (.ref b), (.int x1)])) (fun t k => XS.iconst X0.here hx rfl (hb hby dsn_54) k) ?_
    refine own_go (U' := s₁.setTop (mkF m 56 #[.val (.ref a), .val (.ref b)] [(.int x1), (.int x1)])) (own_baload X0 hx hZ e0 V_b (j := (1 : Int32)) (by decide) (i := 1) rfl (v := (.int x1)) rfl (g := (mkF m 55 #[.val (.ref a), .val (.ref b)] [(.int (1 : Int32)), (.ref b), (.int x1)])) rfl rfl (hb hby dsn_55)) ?_
    refine own_go (U' := s₁.setTop (mkF m 61 #[.val (.ref a), .val (.ref b)] [])) (fun t k => XS.icmpYes X0.here hx rfl (pc0 := 56) (pc' := 61) rfl (hb hby dsn_56) rfl (teq rfl).1 (by decide) (by decide) k) ?_
    refine own_go (U' := s₁.setTop (mkF m 62 #[.val (.ref a), .val (.ref b)] [(.ref a)])) (fun t k => XS.aloadN X0.here hx rfl (hb hby dsn_61) rfl rfl k) ?_
    refine own_go (U' := s₁.setTop (mkF m 63 #[.val (.ref a), .val (.ref b)] [(.int (3 : Int32))])) (own_arrlen X0 hx hZ e0 V_a (n := (3 : Int32)) rfl (g := (mkF m 62 #[.val (.ref a), .val (.ref b)] [(.ref a)])) rfl rfl (hb hby dsn_62)) ?_
    refine own_go (U' := s₁.setTop (mkF m 64 #[.val (.ref a), .val (.ref b)] [(.int (2 : Int32)), (.int (3 : Int32))])) (fun t k => XS.iconst X0.here hx rfl (hb hby dsn_63) k) ?_
    refine own_go (U' := s₁.setTop (mkF m 67 #[.val (.ref a), .val (.ref b)] [])) (fun t k => XS.icmpNo X0.here hx rfl (hb hby dsn_64) rfl (tlt (by decide)).2.2.2 k) ?_
    refine own_go (U' := s₁.setTop (mkF m 68 #[.val (.ref a), .val (.ref b)] [(.ref a)])) (fun t k => XS.aloadN X0.here hx rfl (hb hby dsn_67) rfl rfl k) ?_
    refine own_go (U' := s₁.setTop (mkF m 69 #[.val (.ref a), .val (.ref b)] [(.int (2 : Int32)), (.ref a)])) (fun t k => XS.iconst X0.here hx rfl (hb hby dsn_68) k) ?_
    refine own_go (U' := s₁.setTop (mkF m 70 #[.val (.ref a), .val (.ref b)] [(.int x2)])) (own_baload X0 hx hZ e0 V_a (j := (2 : Int32)) (by decide) (i := 2) rfl (v := (.int x2)) rfl (g := (mkF m 69 #[.val (.ref a), .val (.ref b)] [(.int (2 : Int32)), (.ref a)])) rfl rfl (hb hby dsn_69)) ?_
    refine own_go (U' := s₁.setTop (mkF m 71 #[.val (.ref a), .val (.ref b)] [(.ref b), (.int x2)])) (fun t k => XS.aloadN X0.here hx rfl (hb hby dsn_70) rfl rfl k) ?_
    refine own_go (U' := s₁.setTop (mkF m 72 #[.val (.ref a), .val (.ref b)] [(.int (2 : Int32)), (.ref b), (.int x2)])) (fun t k => XS.iconst X0.here hx rfl (hb hby dsn_71) k) ?_
    refine own_go (U' := s₁.setTop (mkF m 73 #[.val (.ref a), .val (.ref b)] [(.int x2), (.int x2)])) (own_baload X0 hx hZ e0 V_b (j := (2 : Int32)) (by decide) (i := 2) rfl (v := (.int x2)) rfl (g := (mkF m 72 #[.val (.ref a), .val (.ref b)] [(.int (2 : Int32)), (.ref b), (.int x2)])) rfl rfl (hb hby dsn_72)) ?_
    refine own_go (U' := s₁.setTop (mkF m 78 #[.val (.ref a), .val (.ref b)] [])) (fun t k => XS.icmpYes X0.here hx rfl (pc0 := 73) (pc' := 78) rfl (hb hby dsn_73) rfl (teq rfl).1 (by decide) (by decide) k) ?_
    refine own_go (U' := s₁.setTop (mkF m 79 #[.val (.ref a), .val (.ref b)] [(.ref a)])) (fun t k => XS.aloadN X0.here hx rfl (hb hby dsn_78) rfl rfl k) ?_
    refine own_go (U' := s₁.setTop (mkF m 80 #[.val (.ref a), .val (.ref b)] [(.int (3 : Int32))])) (own_arrlen X0 hx hZ e0 V_a (n := (3 : Int32)) rfl (g := (mkF m 79 #[.val (.ref a), .val (.ref b)] [(.ref a)])) rfl rfl (hb hby dsn_79)) ?_
    refine own_go (U' := s₁.setTop (mkF m 81 #[.val (.ref a), .val (.ref b)] [(.int (3 : Int32)), (.int (3 : Int32))])) (fun t k => XS.iconst X0.here hx rfl (hb hby dsn_80) k) ?_
    refine own_go (U' := s₁.setTop (mkF m 84 #[.val (.ref a), .val (.ref b)] [])) (fun t k => XS.icmpNo X0.here hx rfl (hb hby dsn_81) rfl (flt (by decide)).2.2.1 k) ?_
    refine own_go (U' := s₁.setTop (mkF m 85 #[.val (.ref a), .val (.ref b)] [(.int (1 : Int32))])) (fun t k => XS.iconst X0.here hx rfl (hb hby dsn_84) k) ?_
    refine own_go (U' := s₁.setTop (mkF m 89 #[.val (.ref a), .val (.ref b)] [(.int (1 : Int32))])) (fun t k => XS.goto X0.here hx rfl (pc0 := 85) (pc' := 89) rfl (hb hby dsn_85) (by decide) (by decide) k) ?_
    refine own_retN X0 hx (t := .boolean) hret (by simp) hlk (hb hby dsn_89) ?_ (by decide) (by decide)
    exact ⟨rfl, rfl, e0⟩
theorem own_rmsm (l : Launch) (Z : State) (a0 : Array Value) (hw : ∀ d ∈ tables_1, d.before a0 Z = true) (v w : Value) (h0 : Heap) (o : Option (List Int32)) (n1 n2 : Nat) (ho : ∀ l, o = some l → l.length ≤ 3) (F : own_OA Z n1 h0 o v) (G : own_OA Z n2 h0 o w) : own_C l Z (⟨"com/example/pagemark/pagemark/storage/KeyRangeBetweenPinLaw", "same", "([B[B)Z"⟩ : MethodName) method_4_code 2 (some .boolean) [] ({ frames := 0, cells := 0, slots := 0, locals := 0 } : Room) #[v, w] h0 (fun v h L => v = some (.int 1) ∧ L = [] ∧ h = h0) := by
  cases o with
  | none =>
    obtain rfl : v = .null := F
    obtain rfl : w = .null := G
    exact own_rmsn l Z a0 hw h0
  | some bs =>
    obtain ⟨x, kx, rfl, -, A, -⟩ := F
    obtain ⟨z, kz, rfl, -, B, -⟩ := G
    exact own_rmsa l Z a0 hw x z h0 bs kx kz (ho _ rfl) A B
theorem dki_0 : decode prog_39_method_1_code 0 = .ok (.aload_n 0, 1) := by decide +kernel
theorem dki_1 : decode prog_39_method_1_code 1 = .ok (.invokespecial 1, 3) := by decide +kernel
theorem dki_4 : decode prog_39_method_1_code 4 = .ok (.aload_n 0, 1) := by decide +kernel
theorem dki_5 : decode prog_39_method_1_code 5 = .ok (.aload_n 1, 1) := by decide +kernel
theorem dki_6 : decode prog_39_method_1_code 6 = .ok (.putfield 7, 3) := by decide +kernel
theorem dki_9 : decode prog_39_method_1_code 9 = .ok (.aload_n 0, 1) := by decide +kernel
theorem dki_10 : decode prog_39_method_1_code 10 = .ok (.aload_n 2, 1) := by decide +kernel
theorem dki_11 : decode prog_39_method_1_code 11 = .ok (.putfield 13, 3) := by decide +kernel
theorem dki_14 : decode prog_39_method_1_code 14 = .ok (.return_, 1) := by decide +kernel
theorem own_efki (m : MethodId) (a : Addr) (vf vt : Value) (hvf : vf.isRef = true) (hvt : vt.isRef = true) : entryFrame m #[(.ref a), vf, vt] 3 = mkF m 0 #[.val (.ref a), .val vf, .val vt] [] := by rcases ref_cases hvf with rfl | ⟨_, rfl⟩ <;> rcases ref_cases hvt with rfl | ⟨_, rfl⟩ <;> first | (simp [entryFrame, mkF, argsToLocals, Value.category]; done) | rfl
set_option maxRecDepth 65536 in
set_option maxHeartbeats 40000000 in
theorem own_rmki (l : Launch) (Z : State) (a0 : Array Value) (hw : ∀ d ∈ tables_1, d.before a0 Z = true) (a : Addr) (vf vt : Value) (h0 : Heap) (hvf : vf.isRef = true) (hvt : vt.isRef = true) (n0 : Nat) (g_a : n0 ≤ a) (u0 u1 : Value) (E_a : Exa Z h0 a "com/example/pagemark/pagemark/storage/KeyRange") (F_from_a : Fld Z h0 a "com/example/pagemark/pagemark/storage/KeyRange" "from" "[B" u0) (F_to_a : Fld Z h0 a "com/example/pagemark/pagemark/storage/KeyRange" "to" "[B" u1) :
    own_C l Z (⟨"com/example/pagemark/pagemark/storage/KeyRange", "<init>", "([B[B)V"⟩ : MethodName) prog_39_method_1_code 3 none [] ({ frames := 1, cells := 0, slots := 0, locals := 12 } : Room) #[(.ref a), vf, vt] h0 (fun v h L => v = none ∧ Fr n0 L ∧ Keep h0 h [a] ∧ Fld Z h a "com/example/pagemark/pagemark/storage/KeyRange" "from" "[B" vf ∧ Fld Z h a "com/example/pagemark/pagemark/storage/KeyRange" "to" "[B" vt) := by
  refine own_body (plainFor_of_name own_pn1) fun p e s m below meth c s₁ hx hby hml hret hlk hown hnm hZ X0 e0 => ?_
  rw [own_efki m a vf vt hvf hvt]
  have N0 := Fr.nil n0
  have K := Keep.refl h0 [a]
  refine own_go (U' := s₁.setTop (mkF m 1 #[.val (.ref a), .val vf, .val vt] [(.ref a)])) (fun t k => XS.aloadN X0.here hx rfl (hb hby dki_0) rfl rfl k) ?_
  obtain ⟨T1, X1, e1, st1⟩ := initO X0 hx hZ hown (hw _ (List.mem_of_getElem? (i := 29) rfl)) (hw _ (List.mem_of_getElem? (i := 30) rfl)) (hw _ (List.mem_of_getElem? (i := 31) rfl)) e0 (g := (mkF m 1 #[.val (.ref a), .val vf, .val vt] [(.ref a)])) rfl (by rw [hml]; rfl) rfl (hb hby dki_1) (by decide) (W := 0) (by show 2 * 0 + _ ≤ _; exact Nat.le_of_eq rfl) (by decide)
  refine own_go (U' := T1.setTop (mkF m 4 #[.val (.ref a), .val vf, .val vt] [])) st1 ?_
  refine own_go (U' := T1.setTop (mkF m 5 #[.val (.ref a), .val vf, .val vt] [(.ref a)])) (fun t k => XS.aloadN X1.here hx rfl (hb hby dki_4) rfl rfl k) ?_
  refine own_go (U' := T1.setTop (mkF m 6 #[.val (.ref a), .val vf, .val vt] [vf, (.ref a)])) (fun t k => XS.aloadN X1.here hx rfl (hb hby dki_5) rfl hvf k) ?_
  obtain ⟨T2, h2, X2, e2, W2, st2⟩ := putF X1 hx hZ hown (host := "") (Or.inl (hw _ (List.mem_of_getElem? (i := 32) rfl))) Via.refl e1 F_from_a E_a (Or.inr ⟨(hw _ (List.mem_of_getElem? (i := 33) rfl)), rfl, hnm⟩) (hw _ (List.mem_of_getElem? (i := 25) rfl)) (ty := (.array .byte)) (by decide) (own_narR hvf) (own_fitR hvf rfl) (g := (mkF m 6 #[.val (.ref a), .val vf, .val vt] [vf, (.ref a)])) rfl rfl (hb hby dki_6)
  have K := K.wr W2 (Or.inl (List.mem_of_getElem? (i := 0) rfl))
  have E_a := E_a.wr W2
  have F_to_a := F_to_a.other W2 (Or.inr (slot_ne (Or.inr (hw _ (List.mem_of_getElem? (i := 35) rfl))) (Or.inr (hw _ (List.mem_of_getElem? (i := 33) rfl))) (by decide) (t := (.array .byte)) (t' := (.array .byte)) (by decide) (by decide)))
  have F_from_a := F_from_a.same W2
  have N2 := Fr.snoc X2 N0 g_a
  refine own_go (U' := T2.setTop (mkF m 9 #[.val (.ref a), .val vf, .val vt] [])) st2 ?_
  refine own_go (U' := T2.setTop (mkF m 10 #[.val (.ref a), .val vf, .val vt] [(.ref a)])) (fun t k => XS.aloadN X2.here hx rfl (hb hby dki_9) rfl rfl k) ?_
  refine own_go (U' := T2.setTop (mkF m 11 #[.val (.ref a), .val vf, .val vt] [vt, (.ref a)])) (fun t k => XS.aloadN X2.here hx rfl (hb hby dki_10) rfl hvt k) ?_
  obtain ⟨T3, h3, X3, e3, W3, st3⟩ := putF X2 hx hZ hown (host := "") (Or.inl (hw _ (List.mem_of_getElem? (i := 34) rfl))) Via.refl e2 F_to_a E_a (Or.inr ⟨(hw _ (List.mem_of_getElem? (i := 35) rfl)), rfl, hnm⟩) (hw _ (List.mem_of_getElem? (i := 25) rfl)) (ty := (.array .byte)) (by decide) (own_narR hvt) (own_fitR hvt rfl) (g := (mkF m 11 #[.val (.ref a), .val vf, .val vt] [vt, (.ref a)])) rfl rfl (hb hby dki_11)
  have K := K.wr W3 (Or.inl (List.mem_of_getElem? (i := 0) rfl))
  have E_a := E_a.wr W3
  have F_from_a := F_from_a.other W3 (Or.inr (slot_ne (Or.inr (hw _ (List.mem_of_getElem? (i := 33) rfl))) (Or.inr (hw _ (List.mem_of_getElem? (i := 35) rfl))) (by decide) (t := (.array .byte)) (t' := (.array .byte)) (by decide) (by decide)))
  have F_to_a := F_to_a.same W3
  have N3 := Fr.snoc X3 N2 g_a
  refine own_go (U' := T3.setTop (mkF m 14 #[.val (.ref a), .val vf, .val vt] [])) st3 ?_
  refine own_retV X3 hx hret hlk (hb hby dki_14) ?_ (by decide) (by decide)
  rw [e3]
  exact ⟨rfl, N3, K, F_from_a, F_to_a⟩
theorem dgfrom_0 : decode prog_39_method_8_code 0 = .ok (.aload_n 0, 1) := by decide +kernel
theorem dgfrom_1 : decode prog_39_method_8_code 1 = .ok (.getfield 7, 3) := by decide +kernel
theorem dgfrom_4 : decode prog_39_method_8_code 4 = .ok (.areturn, 1) := by decide +kernel
theorem own_efgfrom (m : MethodId) (a : Addr) : entryFrame m #[(.ref a)] 1 = mkF m 0 #[.val (.ref a)] [] := by first | (simp [entryFrame, mkF, argsToLocals, Value.category]; done) | rfl
set_option maxRecDepth 65536 in
set_option maxHeartbeats 40000000 in
theorem own_rmgfrom (l : Launch) (Z : State) (a0 : Array Value) (hw : ∀ d ∈ tables_1, d.before a0 Z = true) (a : Addr) (h0 : Heap) (vf : Value) (hvf : vf.isRef = true) (F_from_a : Fld Z h0 a "com/example/pagemark/pagemark/storage/KeyRange" "from" "[B" vf) :
    own_C l Z (⟨"com/example/pagemark/pagemark/storage/KeyRange", "from", "()[B"⟩ : MethodName) prog_39_method_8_code 1 (some (.array .byte)) [] ({ frames := 0, cells := 0, slots := 0, locals := 0 } : Room) #[(.ref a)] h0 (fun v h L => v = some vf ∧ L = [] ∧ h = h0) := by
  refine own_body (plainFor_of_name own_pn1) fun p e s m below meth c s₁ hx hby hml hret hlk hown hnm hZ X0 e0 => ?_
  rw [own_efgfrom m a]
  refine own_go (U' := s₁.setTop (mkF m 1 #[.val (.ref a)] [(.ref a)])) (fun t k => XS.aloadN X0.here hx rfl (hb hby dgfrom_0) rfl rfl k) ?_
  obtain ⟨T1, X1, e1, st1⟩ := getF X0 hx hZ hown (host := "") (Or.inl (hw _ (List.mem_of_getElem? (i := 32) rfl))) Via.refl e0 F_from_a (g := (mkF m 1 #[.val (.ref a)] [(.ref a)])) rfl rfl (hb hby dgfrom_1)
  refine own_go (U' := T1.setTop (mkF m 4 #[.val (.ref a)] [vf])) st1 ?_
  refine own_retA X1 hx (t := (.array .byte)) hret rfl hlk hvf (hb hby dgfrom_4) ?_ (by decide) (by decide)
  exact ⟨rfl, rfl, e1⟩
theorem dgto_0 : decode prog_39_method_9_code 0 = .ok (.aload_n 0, 1) := by decide +kernel
theorem dgto_1 : decode prog_39_method_9_code 1 = .ok (.getfield 13, 3) := by decide +kernel
theorem dgto_4 : decode prog_39_method_9_code 4 = .ok (.areturn, 1) := by decide +kernel
theorem own_efgto (m : MethodId) (a : Addr) : entryFrame m #[(.ref a)] 1 = mkF m 0 #[.val (.ref a)] [] := by first | (simp [entryFrame, mkF, argsToLocals, Value.category]; done) | rfl
set_option maxRecDepth 65536 in
set_option maxHeartbeats 40000000 in
theorem own_rmgto (l : Launch) (Z : State) (a0 : Array Value) (hw : ∀ d ∈ tables_1, d.before a0 Z = true) (a : Addr) (h0 : Heap) (vf : Value) (hvf : vf.isRef = true) (F_to_a : Fld Z h0 a "com/example/pagemark/pagemark/storage/KeyRange" "to" "[B" vf) :
    own_C l Z (⟨"com/example/pagemark/pagemark/storage/KeyRange", "to", "()[B"⟩ : MethodName) prog_39_method_9_code 1 (some (.array .byte)) [] ({ frames := 0, cells := 0, slots := 0, locals := 0 } : Room) #[(.ref a)] h0 (fun v h L => v = some vf ∧ L = [] ∧ h = h0) := by
  refine own_body (plainFor_of_name own_pn1) fun p e s m below meth c s₁ hx hby hml hret hlk hown hnm hZ X0 e0 => ?_
  rw [own_efgto m a]
  refine own_go (U' := s₁.setTop (mkF m 1 #[.val (.ref a)] [(.ref a)])) (fun t k => XS.aloadN X0.here hx rfl (hb hby dgto_0) rfl rfl k) ?_
  obtain ⟨T1, X1, e1, st1⟩ := getF X0 hx hZ hown (host := "") (Or.inl (hw _ (List.mem_of_getElem? (i := 34) rfl))) Via.refl e0 F_to_a (g := (mkF m 1 #[.val (.ref a)] [(.ref a)])) rfl rfl (hb hby dgto_1)
  refine own_go (U' := T1.setTop (mkF m 4 #[.val (.ref a)] [vf])) st1 ?_
  refine own_retA X1 hx (t := (.array .byte)) hret rfl hlk hvf (hb hby dgto_4) ?_ (by decide) (by decide)
  exact ⟨rfl, rfl, e1⟩
def own_first (li : Int32) (lo : List Int32) : Option (List Int32) := if li = (0 : Int32) then own_eop lo lo.length else some lo
def own_end (ui : Int32) (up : List Int32) : Option (List Int32) := if ui = (0 : Int32) then some up else own_eop up up.length
def own_from (li : Int32) (lo : List Int32) : List Int32 := (own_first li lo).getD lo
def own_to (li ui : Int32) (lo up : List Int32) : Option (List Int32) := match own_first li lo with | none => some lo | some _ => own_end ui up
theorem own_eop_len (bs : List Int32) : ∀ k, k ≤ bs.length → ∀ l, own_eop bs k = some l → l.length ≤ bs.length
  | 0, _, l, h => by cases h
  | k + 1, hk, l, h => by
    rw [own_eop] at h
    split at h
    · exact own_eop_len bs k (by omega) l h
    · cases h; simp; omega
theorem dbt_0 : decode prog_39_method_4_code 0 = .ok (.iload_n 1, 1) := by decide +kernel
theorem dbt_1 : decode prog_39_method_4_code 1 = .ok (.ifCond .eq 13, 3) := by decide +kernel
theorem dbt_4 : decode prog_39_method_4_code 4 = .ok (.aload_n 0, 1) := by decide +kernel
theorem dbt_5 : decode prog_39_method_4_code 5 = .ok (.invokevirtual 20, 3) := by decide +kernel
theorem dbt_8 : decode prog_39_method_4_code 8 = .ok (.checkcast 21, 3) := by decide +kernel
theorem dbt_11 : decode prog_39_method_4_code 11 = .ok (.goto 7, 3) := by decide +kernel
theorem dbt_14 : decode prog_39_method_4_code 14 = .ok (.aload_n 0, 1) := by decide +kernel
theorem dbt_15 : decode prog_39_method_4_code 15 = .ok (.invokestatic 25, 3) := by decide +kernel
theorem dbt_18 : decode prog_39_method_4_code 18 = .ok (.astore 4, 2) := by decide +kernel
theorem dbt_20 : decode prog_39_method_4_code 20 = .ok (.iload_n 3, 1) := by decide +kernel
theorem dbt_21 : decode prog_39_method_4_code 21 = .ok (.ifCond .eq 10, 3) := by decide +kernel
theorem dbt_24 : decode prog_39_method_4_code 24 = .ok (.aload_n 2, 1) := by decide +kernel
theorem dbt_25 : decode prog_39_method_4_code 25 = .ok (.invokestatic 25, 3) := by decide +kernel
theorem dbt_28 : decode prog_39_method_4_code 28 = .ok (.goto 10, 3) := by decide +kernel
theorem dbt_31 : decode prog_39_method_4_code 31 = .ok (.aload_n 2, 1) := by decide +kernel
theorem dbt_32 : decode prog_39_method_4_code 32 = .ok (.invokevirtual 20, 3) := by decide +kernel
theorem dbt_35 : decode prog_39_method_4_code 35 = .ok (.checkcast 21, 3) := by decide +kernel
theorem dbt_38 : decode prog_39_method_4_code 38 = .ok (.astore 5, 2) := by decide +kernel
theorem dbt_40 : decode prog_39_method_4_code 40 = .ok (.aload 4, 2) := by decide +kernel
theorem dbt_42 : decode prog_39_method_4_code 42 = .ok (.ifnonnull 25, 3) := by decide +kernel
theorem dbt_45 : decode prog_39_method_4_code 45 = .ok (.new 8, 3) := by decide +kernel
theorem dbt_48 : decode prog_39_method_4_code 48 = .ok (.dup, 1) := by decide +kernel
theorem dbt_49 : decode prog_39_method_4_code 49 = .ok (.aload_n 0, 1) := by decide +kernel
theorem dbt_50 : decode prog_39_method_4_code 50 = .ok (.invokevirtual 20, 3) := by decide +kernel
theorem dbt_53 : decode prog_39_method_4_code 53 = .ok (.checkcast 21, 3) := by decide +kernel
theorem dbt_56 : decode prog_39_method_4_code 56 = .ok (.aload_n 0, 1) := by decide +kernel
theorem dbt_57 : decode prog_39_method_4_code 57 = .ok (.invokevirtual 20, 3) := by decide +kernel
theorem dbt_60 : decode prog_39_method_4_code 60 = .ok (.checkcast 21, 3) := by decide +kernel
theorem dbt_63 : decode prog_39_method_4_code 63 = .ok (.invokespecial 29, 3) := by decide +kernel
theorem dbt_66 : decode prog_39_method_4_code 66 = .ok (.areturn, 1) := by decide +kernel
theorem dbt_67 : decode prog_39_method_4_code 67 = .ok (.new 8, 3) := by decide +kernel
theorem dbt_70 : decode prog_39_method_4_code 70 = .ok (.dup, 1) := by decide +kernel
theorem dbt_71 : decode prog_39_method_4_code 71 = .ok (.aload 4, 2) := by decide +kernel
theorem dbt_73 : decode prog_39_method_4_code 73 = .ok (.aload 5, 2) := by decide +kernel
theorem dbt_75 : decode prog_39_method_4_code 75 = .ok (.invokespecial 29, 3) := by decide +kernel
theorem dbt_78 : decode prog_39_method_4_code 78 = .ok (.areturn, 1) := by decide +kernel
theorem own_efbt (m : MethodId) (a : Addr) (li : Int32) (b : Addr) (ui : Int32) : entryFrame m #[(.ref a), (.int li), (.ref b), (.int ui)] 6 = mkF m 0 #[.val (.ref a), .val (.int li), .val (.ref b), .val (.int ui), .unset, .unset] [] := by first | (simp [entryFrame, mkF, argsToLocals, Value.category]; done) | rfl
set_option maxRecDepth 65536 in
set_option maxHeartbeats 40000000 in
theorem own_rmbt (l : Launch) (Z : State) (a0 : Array Value) (hw : ∀ d ∈ tables_1, d.before a0 Z = true) (a : Addr) (li : Int32) (b : Addr) (ui : Int32) (h0 : Heap) (n0 : Nat) (lo up : List Int32) (ka kb : ClassId) (O : Old Z n0 h0) (hb_a : lo.length ≤ 3) (h8_a : ∀ x ∈ lo, x.toInt8.toInt32 = x) (V_a : own_Ar Z h0 a ka .byte (own_bs lo)) (E_a : Exa Z h0 a "[B") (hb_b : up.length ≤ 3) (h8_b : ∀ x ∈ up, x.toInt8.toInt32 = x) (V_b : own_Ar Z h0 b kb .byte (own_bs up)) (E_b : Exa Z h0 b "[B") :
    own_C l Z (⟨"com/example/pagemark/pagemark/storage/KeyRange", "between", "([BZ[BZ)Lcom/example/pagemark/pagemark/storage/KeyRange;"⟩ : MethodName) prog_39_method_4_code 6 (some (.object "com/example/pagemark/pagemark/storage/KeyRange")) [] ({ frames := 3, cells := 5, slots := 14, locals := 68 } : Room) #[(.ref a), (.int li), (.ref b), (.int ui)] h0 (fun v h L => ∃ r vf vt, v = some (.ref r) ∧ Fr n0 L ∧ Keep h0 h [] ∧ Exa Z h r "com/example/pagemark/pagemark/storage/KeyRange" ∧ Fld Z h r "com/example/pagemark/pagemark/storage/KeyRange" "from" "[B" vf ∧ Fld Z h r "com/example/pagemark/pagemark/storage/KeyRange" "to" "[B" vt ∧ own_OA Z h0.size h (some (own_from li lo)) vf ∧ own_OA Z h0.size h (own_to li ui lo up) vt) := by
  refine own_body (plainFor_of_name own_pn1) fun p e s m below meth c s₁ hx hby hml hret hlk hown hnm hZ X0 e0 => ?_
  rw [own_efbt m a li b ui]
  have N0 := Fr.nil n0
  have K := Keep.refl h0 []
  refine own_go (U' := s₁.setTop (mkF m 1 #[.val (.ref a), .val (.int li), .val (.ref b), .val (.int ui), .unset, .unset] [(.int li)])) (fun t k => XS.iloadN X0.here hx rfl (hb hby dbt_0) rfl k) ?_
  by_cases hli : li = (0 : Int32)
  · refine own_go (U' := s₁.setTop (mkF m 14 #[.val (.ref a), .val (.int li), .val (.ref b), .val (.int ui), .unset, .unset] [])) (fun t k => XS.ifYes X0.here hx rfl (pc0 := 1) (pc' := 14) rfl (hb hby dbt_1) rfl ((if0 _ _).trans (teq hli).1) (by decide) (by decide) k) ?_
    refine own_go (U' := s₁.setTop (mkF m 15 #[.val (.ref a), .val (.int li), .val (.ref b), .val (.int ui), .unset, .unset] [(.ref a)])) (fun t k => XS.aloadN X0.here hx rfl (hb hby dbt_14) rfl rfl k) ?_
    obtain ⟨v1, T1, h1, L1, e1, X1, hQ1, st1⟩ := own_callS X0 hx hZ (y := (⟨"com/example/pagemark/pagemark/storage/KeyRange", "endOfPrefix", "([B)[B"⟩ : MethodName)) hown (hw _ (List.mem_of_getElem? (i := 12) rfl)) (hw _ (List.mem_of_getElem? (i := 13) rfl)) (hw _ (List.mem_of_getElem? (i := 10) rfl)) (hw _ (List.mem_of_getElem? (i := 14) rfl)) (by decide) (own_rmeo l Z a0 hw a h0 n0 lo ka hb_a h8_a O V_a E_a) (W := 0) (by decide) (by decide) (g := (mkF m 15 #[.val (.ref a), .val (.int li), .val (.ref b), .val (.int ui), .unset, .unset] [(.ref a)])) rfl (by rw [hml]; rfl) (argsL := [(.ref a)]) (rest := []) (lenOf own_pd2 rfl) rfl rfl (by show 2 * 0 + _ ≤ _; exact Nat.le_of_eq rfl) (hb hby dbt_15) e0 (by decide) (by decide)
    obtain ⟨v1, rfl, Nq, Kq, P1⟩ := hQ1.oa
    have P1 := P1.mono K.1
    have K := K.trans Kq all0
    have O := O.keep Kq all0
    have V_a := V_a.keep Kq nin0
    have E_a := E_a.keep Kq
    have V_b := V_b.keep Kq nin0
    have E_b := E_b.keep Kq
    have hv1 := P1.isRef
    have N1 := Fr.app N0 Nq
    refine own_go (U' := T1.setTop (mkF m 18 #[.val (.ref a), .val (.int li), .val (.ref b), .val (.int ui), .unset, .unset] [v1])) st1 ?_
    have hf : own_first li lo = own_eop lo lo.length := if_pos hli
    refine own_go (U' := T1.setTop (mkF m 20 #[.val (.ref a), .val (.int li), .val (.ref b), .val (.int ui), .val v1, .unset] [])) (fun t k => XS.astore X1.here hx rfl (hb hby dbt_18) rfl hv1 (l' := #[.val (.ref a), .val (.int li), .val (.ref b), .val (.int ui), .val v1, .unset]) (XS.store1 (o := .unset) rfl (Or.inl rfl) (own_catR hv1)) k) ?_
    refine own_go (U' := T1.setTop (mkF m 21 #[.val (.ref a), .val (.int li), .val (.ref b), .val (.int ui), .val v1, .unset] [(.int ui)])) (fun t k => XS.iloadN X1.here hx rfl (hb hby dbt_20) rfl k) ?_
    by_cases hui : ui = (0 : Int32)
    · refine own_go (U' := T1.setTop (mkF m 31 #[.val (.ref a), .val (.int li), .val (.ref b), .val (.int ui), .val v1, .unset] [])) (fun t k => XS.ifYes X1.here hx rfl (pc0 := 21) (pc' := 31) rfl (hb hby dbt_21) rfl ((if0 _ _).trans (teq hui).1) (by decide) (by decide) k) ?_
      refine own_go (U' := T1.setTop (mkF m 32 #[.val (.ref a), .val (.int li), .val (.ref b), .val (.int ui), .val v1, .unset] [(.ref b)])) (fun t k => XS.aloadN X1.here hx rfl (hb hby dbt_31) rfl rfl k) ?_
      obtain ⟨T2, h2, X2, e2, E2, A2, Y2, st2⟩ := own_cloneB X1 hx hZ hown (hw _ (List.mem_of_getElem? (i := 15) rfl)) (hw _ (List.mem_of_getElem? (i := 16) rfl)) (hw _ (List.mem_of_getElem? (i := 20) rfl)) (hw _ (List.mem_of_getElem? (i := 18) rfl)) (hw _ (List.mem_of_getElem? (i := 19) rfl)) (hw _ (List.mem_of_getElem? (i := 21) rfl)) e1 V_b E_b (g := (mkF m 32 #[.val (.ref a), .val (.int li), .val (.ref b), .val (.int ui), .val v1, .unset] [(.ref b)])) rfl (by rw [hml]; rfl) rfl (hb hby dbt_32) (by decide) (W := 0) (cap := 3) (by show 2 * 0 + _ ≤ _; exact Nat.le_of_eq rfl) (by decide) (by simpa [own_bs] using hb_b) (by decide) (by decide)
      obtain ⟨b2, g2⟩ : ∃ z, z = h1.size := ⟨_, rfl⟩
      rw [← g2] at A2 Y2 st2
      have ne_a_b2 : a ≠ b2 := Nat.ne_of_lt (Nat.lt_of_lt_of_eq V_a.lt g2.symm)
      have ne_b_b2 : b ≠ b2 := Nat.ne_of_lt (Nat.lt_of_lt_of_eq V_b.lt g2.symm)
      have g_b2 : n0 ≤ b2 := Nat.le_trans (Nat.le_trans (Nat.le_of_eq O.1.symm) O.2.1) (Nat.le_of_eq g2.symm)
      have sz_b2 : h0.size ≤ b2 := Nat.le_trans K.1 (Nat.le_of_eq g2.symm)
      have K := K.ext E2
      have O := O.ext E2
      have V_a := V_a.ext E2
      have E_a := E_a.ext E2
      have V_b := V_b.ext E2
      have E_b := E_b.ext E2
      have P1 := P1.ext E2
      have V_b2 := A2
      have E_b2 := Y2
      refine own_go (U' := T2.setTop (mkF m 35 #[.val (.ref a), .val (.int li), .val (.ref b), .val (.int ui), .val v1, .unset] [(.ref b2)])) st2 ?_
      obtain ⟨T3, X3, e3, st3⟩ := castY X2 hx hZ hown (hw _ (List.mem_of_getElem? (i := 22) rfl)) e2 (Ins.self E_b2) (g := (mkF m 35 #[.val (.ref a), .val (.int li), .val (.ref b), .val (.int ui), .val v1, .unset] [(.ref b2)])) rfl rfl (hb hby dbt_35)
      refine own_go (U' := T3.setTop (mkF m 38 #[.val (.ref a), .val (.int li), .val (.ref b), .val (.int ui), .val v1, .unset] [(.ref b2)])) st3 ?_
      have P2 : own_OA Z h0.size h2 (some up) (.ref b2) := ⟨_, _, rfl, sz_b2, V_b2, E_b2⟩
      have hn : own_end ui up = some up := if_pos hui
      refine own_go (U' := T3.setTop (mkF m 40 #[.val (.ref a), .val (.int li), .val (.ref b), .val (.int ui), .val v1, .val (.ref b2)] [])) (fun t k => XS.astore X3.here hx rfl (hb hby dbt_38) rfl rfl (l' := #[.val (.ref a), .val (.int li), .val (.ref b), .val (.int ui), .val v1, .val (.ref b2)]) (XS.store1 (o := .unset) rfl (Or.inl rfl) (own_catR rfl)) k) ?_
      refine own_go (U' := T3.setTop (mkF m 42 #[.val (.ref a), .val (.int li), .val (.ref b), .val (.int ui), .val v1, .val (.ref b2)] [v1])) (fun t k => XS.aload X3.here hx rfl (hb hby dbt_40) rfl hv1 k) ?_
      cases ho : own_eop lo lo.length with
      | none =>
        rw [ho] at P1 hf
        obtain rfl : v1 = .null := P1
        refine own_go (U' := T3.setTop (mkF m 45 #[.val (.ref a), .val (.int li), .val (.ref b), .val (.int ui), .val .null, .val (.ref b2)] [])) (fun t k => XS.ifnonnullNo X3.here hx rfl (hb hby dbt_42) rfl k) ?_
        obtain ⟨T4, h4, X4, e4, E4, A4, D4, -, st4⟩ := newO X3 hx hZ hown (hw _ (List.mem_of_getElem? (i := 24) rfl)) (hw _ (List.mem_of_getElem? (i := 25) rfl)) (hw _ (List.mem_of_getElem? (i := 10) rfl)) e3 (g := (mkF m 45 #[.val (.ref a), .val (.int li), .val (.ref b), .val (.int ui), .val .null, .val (.ref b2)] [])) rfl (hb hby dbt_45) (by decide) (by decide)
        obtain ⟨b4, g4⟩ : ∃ z, z = h2.size := ⟨_, rfl⟩
        rw [← g4] at A4 D4 st4
        have ne_a_b4 : a ≠ b4 := Nat.ne_of_lt (Nat.lt_of_lt_of_eq V_a.lt g4.symm)
        have ne_b_b4 : b ≠ b4 := Nat.ne_of_lt (Nat.lt_of_lt_of_eq V_b.lt g4.symm)
        have g_b4 : n0 ≤ b4 := Nat.le_trans (Nat.le_trans (Nat.le_of_eq O.1.symm) O.2.1) (Nat.le_of_eq g4.symm)
        have sz_b4 : h0.size ≤ b4 := Nat.le_trans K.1 (Nat.le_of_eq g4.symm)
        have K := K.ext E4
        have O := O.ext E4
        have V_a := V_a.ext E4
        have E_a := E_a.ext E4
        have V_b := V_b.ext E4
        have E_b := E_b.ext E4
        have E_b4 := A4
        have F_from_b4 : Fld Z h4 b4 "com/example/pagemark/pagemark/storage/KeyRange" "from" "[B" .null := D4 (Or.inr (hw _ (List.mem_of_getElem? (i := 33) rfl))) (ty := (.array .byte)) (by decide)
        have F_to_b4 : Fld Z h4 b4 "com/example/pagemark/pagemark/storage/KeyRange" "to" "[B" .null := D4 (Or.inr (hw _ (List.mem_of_getElem? (i := 35) rfl))) (ty := (.array .byte)) (by decide)
        refine own_go (U' := T4.setTop (mkF m 48 #[.val (.ref a), .val (.int li), .val (.ref b), .val (.int ui), .val .null, .val (.ref b2)] [(.ref b4)])) st4 ?_
        refine own_go (U' := T4.setTop (mkF m 49 #[.val (.ref a), .val (.int li), .val (.ref b), .val (.int ui), .val .null, .val (.ref b2)] [(.ref b4), (.ref b4)])) (fun t k => XS.dup X4.here hx rfl (hb hby dbt_48) rfl rfl k) ?_
        refine own_go (U' := T4.setTop (mkF m 50 #[.val (.ref a), .val (.int li), .val (.ref b), .val (.int ui), .val .null, .val (.ref b2)] [(.ref a), (.ref b4), (.ref b4)])) (fun t k => XS.aloadN X4.here hx rfl (hb hby dbt_49) rfl rfl k) ?_
        obtain ⟨T5, h5, X5, e5, E5, A5, Y5, st5⟩ := own_cloneB X4 hx hZ hown (hw _ (List.mem_of_getElem? (i := 15) rfl)) (hw _ (List.mem_of_getElem? (i := 16) rfl)) (hw _ (List.mem_of_getElem? (i := 20) rfl)) (hw _ (List.mem_of_getElem? (i := 18) rfl)) (hw _ (List.mem_of_getElem? (i := 19) rfl)) (hw _ (List.mem_of_getElem? (i := 21) rfl)) e4 V_a E_a (g := (mkF m 50 #[.val (.ref a), .val (.int li), .val (.ref b), .val (.int ui), .val .null, .val (.ref b2)] [(.ref a), (.ref b4), (.ref b4)])) rfl (by rw [hml]; rfl) rfl (hb hby dbt_50) (by decide) (W := 2) (cap := 3) (by show 2 * 0 + _ ≤ _; exact Nat.le_of_eq rfl) (by decide) (by simpa [own_bs] using hb_a) (by decide) (by decide)
        obtain ⟨b5, g5⟩ : ∃ z, z = h4.size := ⟨_, rfl⟩
        rw [← g5] at A5 Y5 st5
        have ne_a_b5 : a ≠ b5 := Nat.ne_of_lt (Nat.lt_of_lt_of_eq V_a.lt g5.symm)
        have ne_b_b5 : b ≠ b5 := Nat.ne_of_lt (Nat.lt_of_lt_of_eq V_b.lt g5.symm)
        have ne_b4_b5 : b4 ≠ b5 := Nat.ne_of_lt (Nat.lt_of_lt_of_eq E_b4.lt g5.symm)
        have g_b5 : n0 ≤ b5 := Nat.le_trans (Nat.le_trans (Nat.le_of_eq O.1.symm) O.2.1) (Nat.le_of_eq g5.symm)
        have sz_b5 : h0.size ≤ b5 := Nat.le_trans K.1 (Nat.le_of_eq g5.symm)
        have K := K.ext E5
        have O := O.ext E5
        have V_a := V_a.ext E5
        have E_a := E_a.ext E5
        have V_b := V_b.ext E5
        have E_b := E_b.ext E5
        have E_b4 := E_b4.ext E5
        have F_from_b4 := F_from_b4.ext E5
        have F_to_b4 := F_to_b4.ext E5
        have V_b5 := A5
        have E_b5 := Y5
        refine own_go (U' := T5.setTop (mkF m 53 #[.val (.ref a), .val (.int li), .val (.ref b), .val (.int ui), .val .null, .val (.ref b2)] [(.ref b5), (.ref b4), (.ref b4)])) st5 ?_
        obtain ⟨T6, X6, e6, st6⟩ := castY X5 hx hZ hown (hw _ (List.mem_of_getElem? (i := 22) rfl)) e5 (Ins.self E_b5) (g := (mkF m 53 #[.val (.ref a), .val (.int li), .val (.ref b), .val (.int ui), .val .null, .val (.ref b2)] [(.ref b5), (.ref b4), (.ref b4)])) rfl rfl (hb hby dbt_53)
        refine own_go (U' := T6.setTop (mkF m 56 #[.val (.ref a), .val (.int li), .val (.ref b), .val (.int ui), .val .null, .val (.ref b2)] [(.ref b5), (.ref b4), (.ref b4)])) st6 ?_
        have P3 : own_OA Z h0.size h5 (some lo) (.ref b5) := ⟨_, _, rfl, sz_b5, V_b5, E_b5⟩
        refine own_go (U' := T6.setTop (mkF m 57 #[.val (.ref a), .val (.int li), .val (.ref b), .val (.int ui), .val .null, .val (.ref b2)] [(.ref a), (.ref b5), (.ref b4), (.ref b4)])) (fun t k => XS.aloadN X6.here hx rfl (hb hby dbt_56) rfl rfl k) ?_
        obtain ⟨T7, h7, X7, e7, E7, A7, Y7, st7⟩ := own_cloneB X6 hx hZ hown (hw _ (List.mem_of_getElem? (i := 15) rfl)) (hw _ (List.mem_of_getElem? (i := 16) rfl)) (hw _ (List.mem_of_getElem? (i := 20) rfl)) (hw _ (List.mem_of_getElem? (i := 18) rfl)) (hw _ (List.mem_of_getElem? (i := 19) rfl)) (hw _ (List.mem_of_getElem? (i := 21) rfl)) e6 V_a E_a (g := (mkF m 57 #[.val (.ref a), .val (.int li), .val (.ref b), .val (.int ui), .val .null, .val (.ref b2)] [(.ref a), (.ref b5), (.ref b4), (.ref b4)])) rfl (by rw [hml]; rfl) rfl (hb hby dbt_57) (by decide) (W := 3) (cap := 3) (by show 2 * 0 + _ ≤ _; exact Nat.le_of_eq rfl) (by decide) (by simpa [own_bs] using hb_a) (by decide) (by decide)
        obtain ⟨b7, g7⟩ : ∃ z, z = h5.size := ⟨_, rfl⟩
        rw [← g7] at A7 Y7 st7
        have ne_a_b7 : a ≠ b7 := Nat.ne_of_lt (Nat.lt_of_lt_of_eq V_a.lt g7.symm)
        have ne_b_b7 : b ≠ b7 := Nat.ne_of_lt (Nat.lt_of_lt_of_eq V_b.lt g7.symm)
        have ne_b4_b7 : b4 ≠ b7 := Nat.ne_of_lt (Nat.lt_of_lt_of_eq E_b4.lt g7.symm)
        have g_b7 : n0 ≤ b7 := Nat.le_trans (Nat.le_trans (Nat.le_of_eq O.1.symm) O.2.1) (Nat.le_of_eq g7.symm)
        have sz_b7 : h0.size ≤ b7 := Nat.le_trans K.1 (Nat.le_of_eq g7.symm)
        have K := K.ext E7
        have O := O.ext E7
        have V_a := V_a.ext E7
        have E_a := E_a.ext E7
        have V_b := V_b.ext E7
        have E_b := E_b.ext E7
        have E_b4 := E_b4.ext E7
        have F_from_b4 := F_from_b4.ext E7
        have F_to_b4 := F_to_b4.ext E7
        have P3 := P3.ext E7
        have V_b7 := A7
        have E_b7 := Y7
        refine own_go (U' := T7.setTop (mkF m 60 #[.val (.ref a), .val (.int li), .val (.ref b), .val (.int ui), .val .null, .val (.ref b2)] [(.ref b7), (.ref b5), (.ref b4), (.ref b4)])) st7 ?_
        obtain ⟨T8, X8, e8, st8⟩ := castY X7 hx hZ hown (hw _ (List.mem_of_getElem? (i := 22) rfl)) e7 (Ins.self E_b7) (g := (mkF m 60 #[.val (.ref a), .val (.int li), .val (.ref b), .val (.int ui), .val .null, .val (.ref b2)] [(.ref b7), (.ref b5), (.ref b4), (.ref b4)])) rfl rfl (hb hby dbt_60)
        refine own_go (U' := T8.setTop (mkF m 63 #[.val (.ref a), .val (.int li), .val (.ref b), .val (.int ui), .val .null, .val (.ref b2)] [(.ref b7), (.ref b5), (.ref b4), (.ref b4)])) st8 ?_
        have P4 : own_OA Z h0.size h7 (some lo) (.ref b7) := ⟨_, _, rfl, sz_b7, V_b7, E_b7⟩
        obtain ⟨v9, T9, h9, L9, e9, X9, hQ9, st9⟩ := own_callC X8 hx hZ (y := (⟨"com/example/pagemark/pagemark/storage/KeyRange", "<init>", "([B[B)V"⟩ : MethodName)) rfl hown (hw _ (List.mem_of_getElem? (i := 26) rfl)) (hw _ (List.mem_of_getElem? (i := 27) rfl)) (hw _ (List.mem_of_getElem? (i := 10) rfl)) (hw _ (List.mem_of_getElem? (i := 28) rfl)) (by decide) (a := b4) (own_rmki l Z a0 hw b4 (.ref b5) (.ref b7) h7 rfl rfl n0 g_b4 _ _ E_b4 F_from_b4 F_to_b4) (W := 1) (by decide) (by decide) (g := (mkF m 63 #[.val (.ref a), .val (.int li), .val (.ref b), .val (.int ui), .val .null, .val (.ref b2)] [(.ref b7), (.ref b5), (.ref b4), (.ref b4)])) rfl (by rw [hml]; rfl) (argsL := [(.ref b5), (.ref b7)]) (rest := [(.ref b4)]) (lenOf own_pd4 rfl) rfl rfl (by show 2 * 0 + _ ≤ _; exact Nat.le_of_eq rfl) (hb hby dbt_63) e8 (by decide) (by decide)
        obtain ⟨rfl, Nq, Kq, Ff, Ft⟩ := hQ9
        have P3 := P3.keep1 Kq E_b4 (by decide)
        have P4 := P4.keep1 Kq E_b4 (by decide)
        have K := K.trans Kq (allS (Or.inr sz_b4) all0)
        have O := O.keep Kq (allS g_b4 all0)
        have V_a := V_a.keep Kq (ninS ne_a_b4 nin0)
        have E_a := E_a.keep Kq
        have V_b := V_b.keep Kq (ninS ne_b_b4 nin0)
        have E_b := E_b.keep Kq
        have E_b4 := E_b4.keep Kq
        have N9 := Fr.app N1 Nq
        refine own_go (U' := T9.setTop (mkF m 66 #[.val (.ref a), .val (.int li), .val (.ref b), .val (.int ui), .val .null, .val (.ref b2)] [(.ref b4)])) st9 ?_
        refine own_retA X9 hx (t := (.object "com/example/pagemark/pagemark/storage/KeyRange")) hret rfl hlk rfl (hb hby dbt_66) ?_ (by decide) (by decide)
        rw [e9]
        exact ⟨_, _, _, rfl, N9, K, E_b4, Ff, Ft, ((by rw [own_from, hf]; rfl) : some lo = some (own_from li lo)) ▸ P3, ((by rw [own_to, hf]) : some lo = own_to li ui lo up) ▸ P4⟩
      | some l1 =>
        rw [ho] at P1 hf
        have P1' := P1
        obtain ⟨f1, kf1, rfl, -⟩ := P1'
        refine own_go (U' := T3.setTop (mkF m 67 #[.val (.ref a), .val (.int li), .val (.ref b), .val (.int ui), .val (.ref f1), .val (.ref b2)] [])) (fun t k => XS.ifnonnullYes X3.here hx rfl (pc0 := 42) (pc' := 67) rfl (hb hby dbt_42) rfl (by decide) (by decide) k) ?_
        obtain ⟨T10, h10, X10, e10, E10, A10, D10, -, st10⟩ := newO X3 hx hZ hown (hw _ (List.mem_of_getElem? (i := 24) rfl)) (hw _ (List.mem_of_getElem? (i := 25) rfl)) (hw _ (List.mem_of_getElem? (i := 10) rfl)) e3 (g := (mkF m 67 #[.val (.ref a), .val (.int li), .val (.ref b), .val (.int ui), .val (.ref f1), .val (.ref b2)] [])) rfl (hb hby dbt_67) (by decide) (by decide)
        obtain ⟨b10, g10⟩ : ∃ z, z = h2.size := ⟨_, rfl⟩
        rw [← g10] at A10 D10 st10
        have ne_a_b10 : a ≠ b10 := Nat.ne_of_lt (Nat.lt_of_lt_of_eq V_a.lt g10.symm)
        have ne_b_b10 : b ≠ b10 := Nat.ne_of_lt (Nat.lt_of_lt_of_eq V_b.lt g10.symm)
        have g_b10 : n0 ≤ b10 := Nat.le_trans (Nat.le_trans (Nat.le_of_eq O.1.symm) O.2.1) (Nat.le_of_eq g10.symm)
        have sz_b10 : h0.size ≤ b10 := Nat.le_trans K.1 (Nat.le_of_eq g10.symm)
        have K := K.ext E10
        have O := O.ext E10
        have V_a := V_a.ext E10
        have E_a := E_a.ext E10
        have V_b := V_b.ext E10
        have E_b := E_b.ext E10
        have P1 := P1.ext E10
        have P2 := P2.ext E10
        have E_b10 := A10
        have F_from_b10 : Fld Z h10 b10 "com/example/pagemark/pagemark/storage/KeyRange" "from" "[B" .null := D10 (Or.inr (hw _ (List.mem_of_getElem? (i := 33) rfl))) (ty := (.array .byte)) (by decide)
        have F_to_b10 : Fld Z h10 b10 "com/example/pagemark/pagemark/storage/KeyRange" "to" "[B" .null := D10 (Or.inr (hw _ (List.mem_of_getElem? (i := 35) rfl))) (ty := (.array .byte)) (by decide)
        refine own_go (U' := T10.setTop (mkF m 70 #[.val (.ref a), .val (.int li), .val (.ref b), .val (.int ui), .val (.ref f1), .val (.ref b2)] [(.ref b10)])) st10 ?_
        refine own_go (U' := T10.setTop (mkF m 71 #[.val (.ref a), .val (.int li), .val (.ref b), .val (.int ui), .val (.ref f1), .val (.ref b2)] [(.ref b10), (.ref b10)])) (fun t k => XS.dup X10.here hx rfl (hb hby dbt_70) rfl rfl k) ?_
        refine own_go (U' := T10.setTop (mkF m 73 #[.val (.ref a), .val (.int li), .val (.ref b), .val (.int ui), .val (.ref f1), .val (.ref b2)] [(.ref f1), (.ref b10), (.ref b10)])) (fun t k => XS.aload X10.here hx rfl (hb hby dbt_71) rfl rfl k) ?_
        refine own_go (U' := T10.setTop (mkF m 75 #[.val (.ref a), .val (.int li), .val (.ref b), .val (.int ui), .val (.ref f1), .val (.ref b2)] [(.ref b2), (.ref f1), (.ref b10), (.ref b10)])) (fun t k => XS.aload X10.here hx rfl (hb hby dbt_73) rfl rfl k) ?_
        obtain ⟨v11, T11, h11, L11, e11, X11, hQ11, st11⟩ := own_callC X10 hx hZ (y := (⟨"com/example/pagemark/pagemark/storage/KeyRange", "<init>", "([B[B)V"⟩ : MethodName)) rfl hown (hw _ (List.mem_of_getElem? (i := 26) rfl)) (hw _ (List.mem_of_getElem? (i := 27) rfl)) (hw _ (List.mem_of_getElem? (i := 10) rfl)) (hw _ (List.mem_of_getElem? (i := 28) rfl)) (by decide) (a := b10) (own_rmki l Z a0 hw b10 (.ref f1) (.ref b2) h10 rfl rfl n0 g_b10 _ _ E_b10 F_from_b10 F_to_b10) (W := 1) (by decide) (by decide) (g := (mkF m 75 #[.val (.ref a), .val (.int li), .val (.ref b), .val (.int ui), .val (.ref f1), .val (.ref b2)] [(.ref b2), (.ref f1), (.ref b10), (.ref b10)])) rfl (by rw [hml]; rfl) (argsL := [(.ref f1), (.ref b2)]) (rest := [(.ref b10)]) (lenOf own_pd4 rfl) rfl rfl (by show 2 * 0 + _ ≤ _; exact Nat.le_of_eq rfl) (hb hby dbt_75) e10 (by decide) (by decide)
        obtain ⟨rfl, Nq, Kq, Ff, Ft⟩ := hQ11
        have P1 := P1.keep1 Kq E_b10 (by decide)
        have P2 := P2.keep1 Kq E_b10 (by decide)
        have K := K.trans Kq (allS (Or.inr sz_b10) all0)
        have O := O.keep Kq (allS g_b10 all0)
        have V_a := V_a.keep Kq (ninS ne_a_b10 nin0)
        have E_a := E_a.keep Kq
        have V_b := V_b.keep Kq (ninS ne_b_b10 nin0)
        have E_b := E_b.keep Kq
        have E_b10 := E_b10.keep Kq
        have N11 := Fr.app N1 Nq
        refine own_go (U' := T11.setTop (mkF m 78 #[.val (.ref a), .val (.int li), .val (.ref b), .val (.int ui), .val (.ref f1), .val (.ref b2)] [(.ref b10)])) st11 ?_
        refine own_retA X11 hx (t := (.object "com/example/pagemark/pagemark/storage/KeyRange")) hret rfl hlk rfl (hb hby dbt_78) ?_ (by decide) (by decide)
        rw [e11]
        exact ⟨_, _, _, rfl, N11, K, E_b10, Ff, Ft, ((by rw [own_from, hf]; rfl) : some l1 = some (own_from li lo)) ▸ P1, ((by rw [own_to, hf, ← hn]) : some up = own_to li ui lo up) ▸ P2⟩
    · refine own_go (U' := T1.setTop (mkF m 24 #[.val (.ref a), .val (.int li), .val (.ref b), .val (.int ui), .val v1, .unset] [])) (fun t k => XS.ifNo X1.here hx rfl (hb hby dbt_21) rfl ((if0 _ _).trans (feq hui).1) k) ?_
      refine own_go (U' := T1.setTop (mkF m 25 #[.val (.ref a), .val (.int li), .val (.ref b), .val (.int ui), .val v1, .unset] [(.ref b)])) (fun t k => XS.aloadN X1.here hx rfl (hb hby dbt_24) rfl rfl k) ?_
      obtain ⟨v12, T12, h12, L12, e12, X12, hQ12, st12⟩ := own_callS X1 hx hZ (y := (⟨"com/example/pagemark/pagemark/storage/KeyRange", "endOfPrefix", "([B)[B"⟩ : MethodName)) hown (hw _ (List.mem_of_getElem? (i := 12) rfl)) (hw _ (List.mem_of_getElem? (i := 13) rfl)) (hw _ (List.mem_of_getElem? (i := 10) rfl)) (hw _ (List.mem_of_getElem? (i := 14) rfl)) (by decide) (own_rmeo l Z a0 hw b h1 n0 up kb hb_b h8_b O V_b E_b) (W := 0) (by decide) (by decide) (g := (mkF m 25 #[.val (.ref a), .val (.int li), .val (.ref b), .val (.int ui), .val v1, .unset] [(.ref b)])) rfl (by rw [hml]; rfl) (argsL := [(.ref b)]) (rest := []) (lenOf own_pd2 rfl) rfl rfl (by show 2 * 0 + _ ≤ _; exact Nat.le_of_eq rfl) (hb hby dbt_25) e1 (by decide) (by decide)
      obtain ⟨v2, rfl, Nq, Kq, P2⟩ := hQ12.oa
      have P2 := P2.mono K.1
      have P1 := P1.keep Kq
      have K := K.trans Kq all0
      have O := O.keep Kq all0
      have V_a := V_a.keep Kq nin0
      have E_a := E_a.keep Kq
      have V_b := V_b.keep Kq nin0
      have E_b := E_b.keep Kq
      have hv2 := P2.isRef
      have N12 := Fr.app N1 Nq
      refine own_go (U' := T12.setTop (mkF m 28 #[.val (.ref a), .val (.int li), .val (.ref b), .val (.int ui), .val v1, .unset] [v2])) st12 ?_
      have hn : own_end ui up = own_eop up up.length := if_neg hui
      refine own_go (U' := T12.setTop (mkF m 38 #[.val (.ref a), .val (.int li), .val (.ref b), .val (.int ui), .val v1, .unset] [v2])) (fun t k => XS.goto X12.here hx rfl (pc0 := 28) (pc' := 38) rfl (hb hby dbt_28) (by decide) (by decide) k) ?_
      refine own_go (U' := T12.setTop (mkF m 40 #[.val (.ref a), .val (.int li), .val (.ref b), .val (.int ui), .val v1, .val v2] [])) (fun t k => XS.astore X12.here hx rfl (hb hby dbt_38) rfl hv2 (l' := #[.val (.ref a), .val (.int li), .val (.ref b), .val (.int ui), .val v1, .val v2]) (XS.store1 (o := .unset) rfl (Or.inl rfl) (own_catR hv2)) k) ?_
      refine own_go (U' := T12.setTop (mkF m 42 #[.val (.ref a), .val (.int li), .val (.ref b), .val (.int ui), .val v1, .val v2] [v1])) (fun t k => XS.aload X12.here hx rfl (hb hby dbt_40) rfl hv1 k) ?_
      cases ho : own_eop lo lo.length with
      | none =>
        rw [ho] at P1 hf
        obtain rfl : v1 = .null := P1
        refine own_go (U' := T12.setTop (mkF m 45 #[.val (.ref a), .val (.int li), .val (.ref b), .val (.int ui), .val .null, .val v2] [])) (fun t k => XS.ifnonnullNo X12.here hx rfl (hb hby dbt_42) rfl k) ?_
        obtain ⟨T13, h13, X13, e13, E13, A13, D13, -, st13⟩ := newO X12 hx hZ hown (hw _ (List.mem_of_getElem? (i := 24) rfl)) (hw _ (List.mem_of_getElem? (i := 25) rfl)) (hw _ (List.mem_of_getElem? (i := 10) rfl)) e12 (g := (mkF m 45 #[.val (.ref a), .val (.int li), .val (.ref b), .val (.int ui), .val .null, .val v2] [])) rfl (hb hby dbt_45) (by decide) (by decide)
        obtain ⟨b13, g13⟩ : ∃ z, z = h12.size := ⟨_, rfl⟩
        rw [← g13] at A13 D13 st13
        have ne_a_b13 : a ≠ b13 := Nat.ne_of_lt (Nat.lt_of_lt_of_eq V_a.lt g13.symm)
        have ne_b_b13 : b ≠ b13 := Nat.ne_of_lt (Nat.lt_of_lt_of_eq V_b.lt g13.symm)
        have g_b13 : n0 ≤ b13 := Nat.le_trans (Nat.le_trans (Nat.le_of_eq O.1.symm) O.2.1) (Nat.le_of_eq g13.symm)
        have sz_b13 : h0.size ≤ b13 := Nat.le_trans K.1 (Nat.le_of_eq g13.symm)
        have K := K.ext E13
        have O := O.ext E13
        have V_a := V_a.ext E13
        have E_a := E_a.ext E13
        have V_b := V_b.ext E13
        have E_b := E_b.ext E13
        have E_b13 := A13
        have F_from_b13 : Fld Z h13 b13 "com/example/pagemark/pagemark/storage/KeyRange" "from" "[B" .null := D13 (Or.inr (hw _ (List.mem_of_getElem? (i := 33) rfl))) (ty := (.array .byte)) (by decide)
        have F_to_b13 : Fld Z h13 b13 "com/example/pagemark/pagemark/storage/KeyRange" "to" "[B" .null := D13 (Or.inr (hw _ (List.mem_of_getElem? (i := 35) rfl))) (ty := (.array .byte)) (by decide)
        refine own_go (U' := T13.setTop (mkF m 48 #[.val (.ref a), .val (.int li), .val (.ref b), .val (.int ui), .val .null, .val v2] [(.ref b13)])) st13 ?_
        refine own_go (U' := T13.setTop (mkF m 49 #[.val (.ref a), .val (.int li), .val (.ref b), .val (.int ui), .val .null, .val v2] [(.ref b13), (.ref b13)])) (fun t k => XS.dup X13.here hx rfl (hb hby dbt_48) rfl rfl k) ?_
        refine own_go (U' := T13.setTop (mkF m 50 #[.val (.ref a), .val (.int li), .val (.ref b), .val (.int ui), .val .null, .val v2] [(.ref a), (.ref b13), (.ref b13)])) (fun t k => XS.aloadN X13.here hx rfl (hb hby dbt_49) rfl rfl k) ?_
        obtain ⟨T14, h14, X14, e14, E14, A14, Y14, st14⟩ := own_cloneB X13 hx hZ hown (hw _ (List.mem_of_getElem? (i := 15) rfl)) (hw _ (List.mem_of_getElem? (i := 16) rfl)) (hw _ (List.mem_of_getElem? (i := 20) rfl)) (hw _ (List.mem_of_getElem? (i := 18) rfl)) (hw _ (List.mem_of_getElem? (i := 19) rfl)) (hw _ (List.mem_of_getElem? (i := 21) rfl)) e13 V_a E_a (g := (mkF m 50 #[.val (.ref a), .val (.int li), .val (.ref b), .val (.int ui), .val .null, .val v2] [(.ref a), (.ref b13), (.ref b13)])) rfl (by rw [hml]; rfl) rfl (hb hby dbt_50) (by decide) (W := 2) (cap := 3) (by show 2 * 0 + _ ≤ _; exact Nat.le_of_eq rfl) (by decide) (by simpa [own_bs] using hb_a) (by decide) (by decide)
        obtain ⟨b14, g14⟩ : ∃ z, z = h13.size := ⟨_, rfl⟩
        rw [← g14] at A14 Y14 st14
        have ne_a_b14 : a ≠ b14 := Nat.ne_of_lt (Nat.lt_of_lt_of_eq V_a.lt g14.symm)
        have ne_b_b14 : b ≠ b14 := Nat.ne_of_lt (Nat.lt_of_lt_of_eq V_b.lt g14.symm)
        have ne_b13_b14 : b13 ≠ b14 := Nat.ne_of_lt (Nat.lt_of_lt_of_eq E_b13.lt g14.symm)
        have g_b14 : n0 ≤ b14 := Nat.le_trans (Nat.le_trans (Nat.le_of_eq O.1.symm) O.2.1) (Nat.le_of_eq g14.symm)
        have sz_b14 : h0.size ≤ b14 := Nat.le_trans K.1 (Nat.le_of_eq g14.symm)
        have K := K.ext E14
        have O := O.ext E14
        have V_a := V_a.ext E14
        have E_a := E_a.ext E14
        have V_b := V_b.ext E14
        have E_b := E_b.ext E14
        have E_b13 := E_b13.ext E14
        have F_from_b13 := F_from_b13.ext E14
        have F_to_b13 := F_to_b13.ext E14
        have V_b14 := A14
        have E_b14 := Y14
        refine own_go (U' := T14.setTop (mkF m 53 #[.val (.ref a), .val (.int li), .val (.ref b), .val (.int ui), .val .null, .val v2] [(.ref b14), (.ref b13), (.ref b13)])) st14 ?_
        obtain ⟨T15, X15, e15, st15⟩ := castY X14 hx hZ hown (hw _ (List.mem_of_getElem? (i := 22) rfl)) e14 (Ins.self E_b14) (g := (mkF m 53 #[.val (.ref a), .val (.int li), .val (.ref b), .val (.int ui), .val .null, .val v2] [(.ref b14), (.ref b13), (.ref b13)])) rfl rfl (hb hby dbt_53)
        refine own_go (U' := T15.setTop (mkF m 56 #[.val (.ref a), .val (.int li), .val (.ref b), .val (.int ui), .val .null, .val v2] [(.ref b14), (.ref b13), (.ref b13)])) st15 ?_
        have P3 : own_OA Z h0.size h14 (some lo) (.ref b14) := ⟨_, _, rfl, sz_b14, V_b14, E_b14⟩
        refine own_go (U' := T15.setTop (mkF m 57 #[.val (.ref a), .val (.int li), .val (.ref b), .val (.int ui), .val .null, .val v2] [(.ref a), (.ref b14), (.ref b13), (.ref b13)])) (fun t k => XS.aloadN X15.here hx rfl (hb hby dbt_56) rfl rfl k) ?_
        obtain ⟨T16, h16, X16, e16, E16, A16, Y16, st16⟩ := own_cloneB X15 hx hZ hown (hw _ (List.mem_of_getElem? (i := 15) rfl)) (hw _ (List.mem_of_getElem? (i := 16) rfl)) (hw _ (List.mem_of_getElem? (i := 20) rfl)) (hw _ (List.mem_of_getElem? (i := 18) rfl)) (hw _ (List.mem_of_getElem? (i := 19) rfl)) (hw _ (List.mem_of_getElem? (i := 21) rfl)) e15 V_a E_a (g := (mkF m 57 #[.val (.ref a), .val (.int li), .val (.ref b), .val (.int ui), .val .null, .val v2] [(.ref a), (.ref b14), (.ref b13), (.ref b13)])) rfl (by rw [hml]; rfl) rfl (hb hby dbt_57) (by decide) (W := 3) (cap := 3) (by show 2 * 0 + _ ≤ _; exact Nat.le_of_eq rfl) (by decide) (by simpa [own_bs] using hb_a) (by decide) (by decide)
        obtain ⟨b16, g16⟩ : ∃ z, z = h14.size := ⟨_, rfl⟩
        rw [← g16] at A16 Y16 st16
        have ne_a_b16 : a ≠ b16 := Nat.ne_of_lt (Nat.lt_of_lt_of_eq V_a.lt g16.symm)
        have ne_b_b16 : b ≠ b16 := Nat.ne_of_lt (Nat.lt_of_lt_of_eq V_b.lt g16.symm)
        have ne_b13_b16 : b13 ≠ b16 := Nat.ne_of_lt (Nat.lt_of_lt_of_eq E_b13.lt g16.symm)
        have g_b16 : n0 ≤ b16 := Nat.le_trans (Nat.le_trans (Nat.le_of_eq O.1.symm) O.2.1) (Nat.le_of_eq g16.symm)
        have sz_b16 : h0.size ≤ b16 := Nat.le_trans K.1 (Nat.le_of_eq g16.symm)
        have K := K.ext E16
        have O := O.ext E16
        have V_a := V_a.ext E16
        have E_a := E_a.ext E16
        have V_b := V_b.ext E16
        have E_b := E_b.ext E16
        have E_b13 := E_b13.ext E16
        have F_from_b13 := F_from_b13.ext E16
        have F_to_b13 := F_to_b13.ext E16
        have P3 := P3.ext E16
        have V_b16 := A16
        have E_b16 := Y16
        refine own_go (U' := T16.setTop (mkF m 60 #[.val (.ref a), .val (.int li), .val (.ref b), .val (.int ui), .val .null, .val v2] [(.ref b16), (.ref b14), (.ref b13), (.ref b13)])) st16 ?_
        obtain ⟨T17, X17, e17, st17⟩ := castY X16 hx hZ hown (hw _ (List.mem_of_getElem? (i := 22) rfl)) e16 (Ins.self E_b16) (g := (mkF m 60 #[.val (.ref a), .val (.int li), .val (.ref b), .val (.int ui), .val .null, .val v2] [(.ref b16), (.ref b14), (.ref b13), (.ref b13)])) rfl rfl (hb hby dbt_60)
        refine own_go (U' := T17.setTop (mkF m 63 #[.val (.ref a), .val (.int li), .val (.ref b), .val (.int ui), .val .null, .val v2] [(.ref b16), (.ref b14), (.ref b13), (.ref b13)])) st17 ?_
        have P4 : own_OA Z h0.size h16 (some lo) (.ref b16) := ⟨_, _, rfl, sz_b16, V_b16, E_b16⟩
        obtain ⟨v18, T18, h18, L18, e18, X18, hQ18, st18⟩ := own_callC X17 hx hZ (y := (⟨"com/example/pagemark/pagemark/storage/KeyRange", "<init>", "([B[B)V"⟩ : MethodName)) rfl hown (hw _ (List.mem_of_getElem? (i := 26) rfl)) (hw _ (List.mem_of_getElem? (i := 27) rfl)) (hw _ (List.mem_of_getElem? (i := 10) rfl)) (hw _ (List.mem_of_getElem? (i := 28) rfl)) (by decide) (a := b13) (own_rmki l Z a0 hw b13 (.ref b14) (.ref b16) h16 rfl rfl n0 g_b13 _ _ E_b13 F_from_b13 F_to_b13) (W := 1) (by decide) (by decide) (g := (mkF m 63 #[.val (.ref a), .val (.int li), .val (.ref b), .val (.int ui), .val .null, .val v2] [(.ref b16), (.ref b14), (.ref b13), (.ref b13)])) rfl (by rw [hml]; rfl) (argsL := [(.ref b14), (.ref b16)]) (rest := [(.ref b13)]) (lenOf own_pd4 rfl) rfl rfl (by show 2 * 0 + _ ≤ _; exact Nat.le_of_eq rfl) (hb hby dbt_63) e17 (by decide) (by decide)
        obtain ⟨rfl, Nq, Kq, Ff, Ft⟩ := hQ18
        have P3 := P3.keep1 Kq E_b13 (by decide)
        have P4 := P4.keep1 Kq E_b13 (by decide)
        have K := K.trans Kq (allS (Or.inr sz_b13) all0)
        have O := O.keep Kq (allS g_b13 all0)
        have V_a := V_a.keep Kq (ninS ne_a_b13 nin0)
        have E_a := E_a.keep Kq
        have V_b := V_b.keep Kq (ninS ne_b_b13 nin0)
        have E_b := E_b.keep Kq
        have E_b13 := E_b13.keep Kq
        have N18 := Fr.app N12 Nq
        refine own_go (U' := T18.setTop (mkF m 66 #[.val (.ref a), .val (.int li), .val (.ref b), .val (.int ui), .val .null, .val v2] [(.ref b13)])) st18 ?_
        refine own_retA X18 hx (t := (.object "com/example/pagemark/pagemark/storage/KeyRange")) hret rfl hlk rfl (hb hby dbt_66) ?_ (by decide) (by decide)
        rw [e18]
        exact ⟨_, _, _, rfl, N18, K, E_b13, Ff, Ft, ((by rw [own_from, hf]; rfl) : some lo = some (own_from li lo)) ▸ P3, ((by rw [own_to, hf]) : some lo = own_to li ui lo up) ▸ P4⟩
      | some l1 =>
        rw [ho] at P1 hf
        have P1' := P1
        obtain ⟨f1, kf1, rfl, -⟩ := P1'
        refine own_go (U' := T12.setTop (mkF m 67 #[.val (.ref a), .val (.int li), .val (.ref b), .val (.int ui), .val (.ref f1), .val v2] [])) (fun t k => XS.ifnonnullYes X12.here hx rfl (pc0 := 42) (pc' := 67) rfl (hb hby dbt_42) rfl (by decide) (by decide) k) ?_
        obtain ⟨T19, h19, X19, e19, E19, A19, D19, -, st19⟩ := newO X12 hx hZ hown (hw _ (List.mem_of_getElem? (i := 24) rfl)) (hw _ (List.mem_of_getElem? (i := 25) rfl)) (hw _ (List.mem_of_getElem? (i := 10) rfl)) e12 (g := (mkF m 67 #[.val (.ref a), .val (.int li), .val (.ref b), .val (.int ui), .val (.ref f1), .val v2] [])) rfl (hb hby dbt_67) (by decide) (by decide)
        obtain ⟨b19, g19⟩ : ∃ z, z = h12.size := ⟨_, rfl⟩
        rw [← g19] at A19 D19 st19
        have ne_a_b19 : a ≠ b19 := Nat.ne_of_lt (Nat.lt_of_lt_of_eq V_a.lt g19.symm)
        have ne_b_b19 : b ≠ b19 := Nat.ne_of_lt (Nat.lt_of_lt_of_eq V_b.lt g19.symm)
        have g_b19 : n0 ≤ b19 := Nat.le_trans (Nat.le_trans (Nat.le_of_eq O.1.symm) O.2.1) (Nat.le_of_eq g19.symm)
        have sz_b19 : h0.size ≤ b19 := Nat.le_trans K.1 (Nat.le_of_eq g19.symm)
        have K := K.ext E19
        have O := O.ext E19
        have V_a := V_a.ext E19
        have E_a := E_a.ext E19
        have V_b := V_b.ext E19
        have E_b := E_b.ext E19
        have P1 := P1.ext E19
        have P2 := P2.ext E19
        have E_b19 := A19
        have F_from_b19 : Fld Z h19 b19 "com/example/pagemark/pagemark/storage/KeyRange" "from" "[B" .null := D19 (Or.inr (hw _ (List.mem_of_getElem? (i := 33) rfl))) (ty := (.array .byte)) (by decide)
        have F_to_b19 : Fld Z h19 b19 "com/example/pagemark/pagemark/storage/KeyRange" "to" "[B" .null := D19 (Or.inr (hw _ (List.mem_of_getElem? (i := 35) rfl))) (ty := (.array .byte)) (by decide)
        refine own_go (U' := T19.setTop (mkF m 70 #[.val (.ref a), .val (.int li), .val (.ref b), .val (.int ui), .val (.ref f1), .val v2] [(.ref b19)])) st19 ?_
        refine own_go (U' := T19.setTop (mkF m 71 #[.val (.ref a), .val (.int li), .val (.ref b), .val (.int ui), .val (.ref f1), .val v2] [(.ref b19), (.ref b19)])) (fun t k => XS.dup X19.here hx rfl (hb hby dbt_70) rfl rfl k) ?_
        refine own_go (U' := T19.setTop (mkF m 73 #[.val (.ref a), .val (.int li), .val (.ref b), .val (.int ui), .val (.ref f1), .val v2] [(.ref f1), (.ref b19), (.ref b19)])) (fun t k => XS.aload X19.here hx rfl (hb hby dbt_71) rfl rfl k) ?_
        refine own_go (U' := T19.setTop (mkF m 75 #[.val (.ref a), .val (.int li), .val (.ref b), .val (.int ui), .val (.ref f1), .val v2] [v2, (.ref f1), (.ref b19), (.ref b19)])) (fun t k => XS.aload X19.here hx rfl (hb hby dbt_73) rfl hv2 k) ?_
        obtain ⟨v20, T20, h20, L20, e20, X20, hQ20, st20⟩ := own_callC X19 hx hZ (y := (⟨"com/example/pagemark/pagemark/storage/KeyRange", "<init>", "([B[B)V"⟩ : MethodName)) rfl hown (hw _ (List.mem_of_getElem? (i := 26) rfl)) (hw _ (List.mem_of_getElem? (i := 27) rfl)) (hw _ (List.mem_of_getElem? (i := 10) rfl)) (hw _ (List.mem_of_getElem? (i := 28) rfl)) (by decide) (a := b19) (own_rmki l Z a0 hw b19 (.ref f1) v2 h19 rfl hv2 n0 g_b19 _ _ E_b19 F_from_b19 F_to_b19) (W := 1) (by decide) (by decide) (g := (mkF m 75 #[.val (.ref a), .val (.int li), .val (.ref b), .val (.int ui), .val (.ref f1), .val v2] [v2, (.ref f1), (.ref b19), (.ref b19)])) rfl (by rw [hml]; rfl) (argsL := [(.ref f1), v2]) (rest := [(.ref b19)]) (lenOf own_pd4 rfl) rfl rfl (by show 2 * 0 + _ ≤ _; exact Nat.le_of_eq rfl) (hb hby dbt_75) e19 (by decide) (by decide)
        obtain ⟨rfl, Nq, Kq, Ff, Ft⟩ := hQ20
        have P1 := P1.keep1 Kq E_b19 (by decide)
        have P2 := P2.keep1 Kq E_b19 (by decide)
        have K := K.trans Kq (allS (Or.inr sz_b19) all0)
        have O := O.keep Kq (allS g_b19 all0)
        have V_a := V_a.keep Kq (ninS ne_a_b19 nin0)
        have E_a := E_a.keep Kq
        have V_b := V_b.keep Kq (ninS ne_b_b19 nin0)
        have E_b := E_b.keep Kq
        have E_b19 := E_b19.keep Kq
        have N20 := Fr.app N12 Nq
        refine own_go (U' := T20.setTop (mkF m 78 #[.val (.ref a), .val (.int li), .val (.ref b), .val (.int ui), .val (.ref f1), .val v2] [(.ref b19)])) st20 ?_
        refine own_retA X20 hx (t := (.object "com/example/pagemark/pagemark/storage/KeyRange")) hret rfl hlk rfl (hb hby dbt_78) ?_ (by decide) (by decide)
        rw [e20]
        exact ⟨_, _, _, rfl, N20, K, E_b19, Ff, Ft, ((by rw [own_from, hf]; rfl) : some l1 = some (own_from li lo)) ▸ P1, ((by rw [own_to, hf, ← hn]) : own_eop up up.length = own_to li ui lo up) ▸ P2⟩
  · refine own_go (U' := s₁.setTop (mkF m 4 #[.val (.ref a), .val (.int li), .val (.ref b), .val (.int ui), .unset, .unset] [])) (fun t k => XS.ifNo X0.here hx rfl (hb hby dbt_1) rfl ((if0 _ _).trans (feq hli).1) k) ?_
    refine own_go (U' := s₁.setTop (mkF m 5 #[.val (.ref a), .val (.int li), .val (.ref b), .val (.int ui), .unset, .unset] [(.ref a)])) (fun t k => XS.aloadN X0.here hx rfl (hb hby dbt_4) rfl rfl k) ?_
    obtain ⟨T21, h21, X21, e21, E21, A21, Y21, st21⟩ := own_cloneB X0 hx hZ hown (hw _ (List.mem_of_getElem? (i := 15) rfl)) (hw _ (List.mem_of_getElem? (i := 16) rfl)) (hw _ (List.mem_of_getElem? (i := 20) rfl)) (hw _ (List.mem_of_getElem? (i := 18) rfl)) (hw _ (List.mem_of_getElem? (i := 19) rfl)) (hw _ (List.mem_of_getElem? (i := 21) rfl)) e0 V_a E_a (g := (mkF m 5 #[.val (.ref a), .val (.int li), .val (.ref b), .val (.int ui), .unset, .unset] [(.ref a)])) rfl (by rw [hml]; rfl) rfl (hb hby dbt_5) (by decide) (W := 0) (cap := 3) (by show 2 * 0 + _ ≤ _; exact Nat.le_of_eq rfl) (by decide) (by simpa [own_bs] using hb_a) (by decide) (by decide)
    obtain ⟨b21, g21⟩ : ∃ z, z = h0.size := ⟨_, rfl⟩
    rw [← g21] at A21 Y21 st21
    have ne_a_b21 : a ≠ b21 := Nat.ne_of_lt (Nat.lt_of_lt_of_eq V_a.lt g21.symm)
    have ne_b_b21 : b ≠ b21 := Nat.ne_of_lt (Nat.lt_of_lt_of_eq V_b.lt g21.symm)
    have g_b21 : n0 ≤ b21 := Nat.le_trans (Nat.le_trans (Nat.le_of_eq O.1.symm) O.2.1) (Nat.le_of_eq g21.symm)
    have sz_b21 : h0.size ≤ b21 := Nat.le_trans K.1 (Nat.le_of_eq g21.symm)
    have K := K.ext E21
    have O := O.ext E21
    have V_a := V_a.ext E21
    have E_a := E_a.ext E21
    have V_b := V_b.ext E21
    have E_b := E_b.ext E21
    have V_b21 := A21
    have E_b21 := Y21
    refine own_go (U' := T21.setTop (mkF m 8 #[.val (.ref a), .val (.int li), .val (.ref b), .val (.int ui), .unset, .unset] [(.ref b21)])) st21 ?_
    obtain ⟨T22, X22, e22, st22⟩ := castY X21 hx hZ hown (hw _ (List.mem_of_getElem? (i := 22) rfl)) e21 (Ins.self E_b21) (g := (mkF m 8 #[.val (.ref a), .val (.int li), .val (.ref b), .val (.int ui), .unset, .unset] [(.ref b21)])) rfl rfl (hb hby dbt_8)
    refine own_go (U' := T22.setTop (mkF m 11 #[.val (.ref a), .val (.int li), .val (.ref b), .val (.int ui), .unset, .unset] [(.ref b21)])) st22 ?_
    have P1 : own_OA Z h0.size h21 (some lo) (.ref b21) := ⟨_, _, rfl, sz_b21, V_b21, E_b21⟩
    have hf : own_first li lo = some lo := if_neg hli
    refine own_go (U' := T22.setTop (mkF m 18 #[.val (.ref a), .val (.int li), .val (.ref b), .val (.int ui), .unset, .unset] [(.ref b21)])) (fun t k => XS.goto X22.here hx rfl (pc0 := 11) (pc' := 18) rfl (hb hby dbt_11) (by decide) (by decide) k) ?_
    refine own_go (U' := T22.setTop (mkF m 20 #[.val (.ref a), .val (.int li), .val (.ref b), .val (.int ui), .val (.ref b21), .unset] [])) (fun t k => XS.astore X22.here hx rfl (hb hby dbt_18) rfl rfl (l' := #[.val (.ref a), .val (.int li), .val (.ref b), .val (.int ui), .val (.ref b21), .unset]) (XS.store1 (o := .unset) rfl (Or.inl rfl) (own_catR rfl)) k) ?_
    refine own_go (U' := T22.setTop (mkF m 21 #[.val (.ref a), .val (.int li), .val (.ref b), .val (.int ui), .val (.ref b21), .unset] [(.int ui)])) (fun t k => XS.iloadN X22.here hx rfl (hb hby dbt_20) rfl k) ?_
    by_cases hui : ui = (0 : Int32)
    · refine own_go (U' := T22.setTop (mkF m 31 #[.val (.ref a), .val (.int li), .val (.ref b), .val (.int ui), .val (.ref b21), .unset] [])) (fun t k => XS.ifYes X22.here hx rfl (pc0 := 21) (pc' := 31) rfl (hb hby dbt_21) rfl ((if0 _ _).trans (teq hui).1) (by decide) (by decide) k) ?_
      refine own_go (U' := T22.setTop (mkF m 32 #[.val (.ref a), .val (.int li), .val (.ref b), .val (.int ui), .val (.ref b21), .unset] [(.ref b)])) (fun t k => XS.aloadN X22.here hx rfl (hb hby dbt_31) rfl rfl k) ?_
      obtain ⟨T23, h23, X23, e23, E23, A23, Y23, st23⟩ := own_cloneB X22 hx hZ hown (hw _ (List.mem_of_getElem? (i := 15) rfl)) (hw _ (List.mem_of_getElem? (i := 16) rfl)) (hw _ (List.mem_of_getElem? (i := 20) rfl)) (hw _ (List.mem_of_getElem? (i := 18) rfl)) (hw _ (List.mem_of_getElem? (i := 19) rfl)) (hw _ (List.mem_of_getElem? (i := 21) rfl)) e22 V_b E_b (g := (mkF m 32 #[.val (.ref a), .val (.int li), .val (.ref b), .val (.int ui), .val (.ref b21), .unset] [(.ref b)])) rfl (by rw [hml]; rfl) rfl (hb hby dbt_32) (by decide) (W := 0) (cap := 3) (by show 2 * 0 + _ ≤ _; exact Nat.le_of_eq rfl) (by decide) (by simpa [own_bs] using hb_b) (by decide) (by decide)
      obtain ⟨b23, g23⟩ : ∃ z, z = h21.size := ⟨_, rfl⟩
      rw [← g23] at A23 Y23 st23
      have ne_a_b23 : a ≠ b23 := Nat.ne_of_lt (Nat.lt_of_lt_of_eq V_a.lt g23.symm)
      have ne_b_b23 : b ≠ b23 := Nat.ne_of_lt (Nat.lt_of_lt_of_eq V_b.lt g23.symm)
      have g_b23 : n0 ≤ b23 := Nat.le_trans (Nat.le_trans (Nat.le_of_eq O.1.symm) O.2.1) (Nat.le_of_eq g23.symm)
      have sz_b23 : h0.size ≤ b23 := Nat.le_trans K.1 (Nat.le_of_eq g23.symm)
      have K := K.ext E23
      have O := O.ext E23
      have V_a := V_a.ext E23
      have E_a := E_a.ext E23
      have V_b := V_b.ext E23
      have E_b := E_b.ext E23
      have P1 := P1.ext E23
      have V_b23 := A23
      have E_b23 := Y23
      refine own_go (U' := T23.setTop (mkF m 35 #[.val (.ref a), .val (.int li), .val (.ref b), .val (.int ui), .val (.ref b21), .unset] [(.ref b23)])) st23 ?_
      obtain ⟨T24, X24, e24, st24⟩ := castY X23 hx hZ hown (hw _ (List.mem_of_getElem? (i := 22) rfl)) e23 (Ins.self E_b23) (g := (mkF m 35 #[.val (.ref a), .val (.int li), .val (.ref b), .val (.int ui), .val (.ref b21), .unset] [(.ref b23)])) rfl rfl (hb hby dbt_35)
      refine own_go (U' := T24.setTop (mkF m 38 #[.val (.ref a), .val (.int li), .val (.ref b), .val (.int ui), .val (.ref b21), .unset] [(.ref b23)])) st24 ?_
      have P2 : own_OA Z h0.size h23 (some up) (.ref b23) := ⟨_, _, rfl, sz_b23, V_b23, E_b23⟩
      have hn : own_end ui up = some up := if_pos hui
      refine own_go (U' := T24.setTop (mkF m 40 #[.val (.ref a), .val (.int li), .val (.ref b), .val (.int ui), .val (.ref b21), .val (.ref b23)] [])) (fun t k => XS.astore X24.here hx rfl (hb hby dbt_38) rfl rfl (l' := #[.val (.ref a), .val (.int li), .val (.ref b), .val (.int ui), .val (.ref b21), .val (.ref b23)]) (XS.store1 (o := .unset) rfl (Or.inl rfl) (own_catR rfl)) k) ?_
      refine own_go (U' := T24.setTop (mkF m 42 #[.val (.ref a), .val (.int li), .val (.ref b), .val (.int ui), .val (.ref b21), .val (.ref b23)] [(.ref b21)])) (fun t k => XS.aload X24.here hx rfl (hb hby dbt_40) rfl rfl k) ?_
      refine own_go (U' := T24.setTop (mkF m 67 #[.val (.ref a), .val (.int li), .val (.ref b), .val (.int ui), .val (.ref b21), .val (.ref b23)] [])) (fun t k => XS.ifnonnullYes X24.here hx rfl (pc0 := 42) (pc' := 67) rfl (hb hby dbt_42) rfl (by decide) (by decide) k) ?_
      obtain ⟨T25, h25, X25, e25, E25, A25, D25, -, st25⟩ := newO X24 hx hZ hown (hw _ (List.mem_of_getElem? (i := 24) rfl)) (hw _ (List.mem_of_getElem? (i := 25) rfl)) (hw _ (List.mem_of_getElem? (i := 10) rfl)) e24 (g := (mkF m 67 #[.val (.ref a), .val (.int li), .val (.ref b), .val (.int ui), .val (.ref b21), .val (.ref b23)] [])) rfl (hb hby dbt_67) (by decide) (by decide)
      obtain ⟨b25, g25⟩ : ∃ z, z = h23.size := ⟨_, rfl⟩
      rw [← g25] at A25 D25 st25
      have ne_a_b25 : a ≠ b25 := Nat.ne_of_lt (Nat.lt_of_lt_of_eq V_a.lt g25.symm)
      have ne_b_b25 : b ≠ b25 := Nat.ne_of_lt (Nat.lt_of_lt_of_eq V_b.lt g25.symm)
      have g_b25 : n0 ≤ b25 := Nat.le_trans (Nat.le_trans (Nat.le_of_eq O.1.symm) O.2.1) (Nat.le_of_eq g25.symm)
      have sz_b25 : h0.size ≤ b25 := Nat.le_trans K.1 (Nat.le_of_eq g25.symm)
      have K := K.ext E25
      have O := O.ext E25
      have V_a := V_a.ext E25
      have E_a := E_a.ext E25
      have V_b := V_b.ext E25
      have E_b := E_b.ext E25
      have P1 := P1.ext E25
      have P2 := P2.ext E25
      have E_b25 := A25
      have F_from_b25 : Fld Z h25 b25 "com/example/pagemark/pagemark/storage/KeyRange" "from" "[B" .null := D25 (Or.inr (hw _ (List.mem_of_getElem? (i := 33) rfl))) (ty := (.array .byte)) (by decide)
      have F_to_b25 : Fld Z h25 b25 "com/example/pagemark/pagemark/storage/KeyRange" "to" "[B" .null := D25 (Or.inr (hw _ (List.mem_of_getElem? (i := 35) rfl))) (ty := (.array .byte)) (by decide)
      refine own_go (U' := T25.setTop (mkF m 70 #[.val (.ref a), .val (.int li), .val (.ref b), .val (.int ui), .val (.ref b21), .val (.ref b23)] [(.ref b25)])) st25 ?_
      refine own_go (U' := T25.setTop (mkF m 71 #[.val (.ref a), .val (.int li), .val (.ref b), .val (.int ui), .val (.ref b21), .val (.ref b23)] [(.ref b25), (.ref b25)])) (fun t k => XS.dup X25.here hx rfl (hb hby dbt_70) rfl rfl k) ?_
      refine own_go (U' := T25.setTop (mkF m 73 #[.val (.ref a), .val (.int li), .val (.ref b), .val (.int ui), .val (.ref b21), .val (.ref b23)] [(.ref b21), (.ref b25), (.ref b25)])) (fun t k => XS.aload X25.here hx rfl (hb hby dbt_71) rfl rfl k) ?_
      refine own_go (U' := T25.setTop (mkF m 75 #[.val (.ref a), .val (.int li), .val (.ref b), .val (.int ui), .val (.ref b21), .val (.ref b23)] [(.ref b23), (.ref b21), (.ref b25), (.ref b25)])) (fun t k => XS.aload X25.here hx rfl (hb hby dbt_73) rfl rfl k) ?_
      obtain ⟨v26, T26, h26, L26, e26, X26, hQ26, st26⟩ := own_callC X25 hx hZ (y := (⟨"com/example/pagemark/pagemark/storage/KeyRange", "<init>", "([B[B)V"⟩ : MethodName)) rfl hown (hw _ (List.mem_of_getElem? (i := 26) rfl)) (hw _ (List.mem_of_getElem? (i := 27) rfl)) (hw _ (List.mem_of_getElem? (i := 10) rfl)) (hw _ (List.mem_of_getElem? (i := 28) rfl)) (by decide) (a := b25) (own_rmki l Z a0 hw b25 (.ref b21) (.ref b23) h25 rfl rfl n0 g_b25 _ _ E_b25 F_from_b25 F_to_b25) (W := 1) (by decide) (by decide) (g := (mkF m 75 #[.val (.ref a), .val (.int li), .val (.ref b), .val (.int ui), .val (.ref b21), .val (.ref b23)] [(.ref b23), (.ref b21), (.ref b25), (.ref b25)])) rfl (by rw [hml]; rfl) (argsL := [(.ref b21), (.ref b23)]) (rest := [(.ref b25)]) (lenOf own_pd4 rfl) rfl rfl (by show 2 * 0 + _ ≤ _; exact Nat.le_of_eq rfl) (hb hby dbt_75) e25 (by decide) (by decide)
      obtain ⟨rfl, Nq, Kq, Ff, Ft⟩ := hQ26
      have P1 := P1.keep1 Kq E_b25 (by decide)
      have P2 := P2.keep1 Kq E_b25 (by decide)
      have K := K.trans Kq (allS (Or.inr sz_b25) all0)
      have O := O.keep Kq (allS g_b25 all0)
      have V_a := V_a.keep Kq (ninS ne_a_b25 nin0)
      have E_a := E_a.keep Kq
      have V_b := V_b.keep Kq (ninS ne_b_b25 nin0)
      have E_b := E_b.keep Kq
      have E_b25 := E_b25.keep Kq
      have N26 := Fr.app N0 Nq
      refine own_go (U' := T26.setTop (mkF m 78 #[.val (.ref a), .val (.int li), .val (.ref b), .val (.int ui), .val (.ref b21), .val (.ref b23)] [(.ref b25)])) st26 ?_
      refine own_retA X26 hx (t := (.object "com/example/pagemark/pagemark/storage/KeyRange")) hret rfl hlk rfl (hb hby dbt_78) ?_ (by decide) (by decide)
      rw [e26]
      exact ⟨_, _, _, rfl, N26, K, E_b25, Ff, Ft, ((by rw [own_from, hf]; rfl) : (some lo : Option (List Int32)) = some (own_from li lo)) ▸ P1, ((by rw [own_to, hf, ← hn]) : some up = own_to li ui lo up) ▸ P2⟩
    · refine own_go (U' := T22.setTop (mkF m 24 #[.val (.ref a), .val (.int li), .val (.ref b), .val (.int ui), .val (.ref b21), .unset] [])) (fun t k => XS.ifNo X22.here hx rfl (hb hby dbt_21) rfl ((if0 _ _).trans (feq hui).1) k) ?_
      refine own_go (U' := T22.setTop (mkF m 25 #[.val (.ref a), .val (.int li), .val (.ref b), .val (.int ui), .val (.ref b21), .unset] [(.ref b)])) (fun t k => XS.aloadN X22.here hx rfl (hb hby dbt_24) rfl rfl k) ?_
      obtain ⟨v27, T27, h27, L27, e27, X27, hQ27, st27⟩ := own_callS X22 hx hZ (y := (⟨"com/example/pagemark/pagemark/storage/KeyRange", "endOfPrefix", "([B)[B"⟩ : MethodName)) hown (hw _ (List.mem_of_getElem? (i := 12) rfl)) (hw _ (List.mem_of_getElem? (i := 13) rfl)) (hw _ (List.mem_of_getElem? (i := 10) rfl)) (hw _ (List.mem_of_getElem? (i := 14) rfl)) (by decide) (own_rmeo l Z a0 hw b h21 n0 up kb hb_b h8_b O V_b E_b) (W := 0) (by decide) (by decide) (g := (mkF m 25 #[.val (.ref a), .val (.int li), .val (.ref b), .val (.int ui), .val (.ref b21), .unset] [(.ref b)])) rfl (by rw [hml]; rfl) (argsL := [(.ref b)]) (rest := []) (lenOf own_pd2 rfl) rfl rfl (by show 2 * 0 + _ ≤ _; exact Nat.le_of_eq rfl) (hb hby dbt_25) e22 (by decide) (by decide)
      obtain ⟨v2, rfl, Nq, Kq, P2⟩ := hQ27.oa
      have P2 := P2.mono K.1
      have P1 := P1.keep Kq
      have K := K.trans Kq all0
      have O := O.keep Kq all0
      have V_a := V_a.keep Kq nin0
      have E_a := E_a.keep Kq
      have V_b := V_b.keep Kq nin0
      have E_b := E_b.keep Kq
      have hv2 := P2.isRef
      have N27 := Fr.app N0 Nq
      refine own_go (U' := T27.setTop (mkF m 28 #[.val (.ref a), .val (.int li), .val (.ref b), .val (.int ui), .val (.ref b21), .unset] [v2])) st27 ?_
      have hn : own_end ui up = own_eop up up.length := if_neg hui
      refine own_go (U' := T27.setTop (mkF m 38 #[.val (.ref a), .val (.int li), .val (.ref b), .val (.int ui), .val (.ref b21), .unset] [v2])) (fun t k => XS.goto X27.here hx rfl (pc0 := 28) (pc' := 38) rfl (hb hby dbt_28) (by decide) (by decide) k) ?_
      refine own_go (U' := T27.setTop (mkF m 40 #[.val (.ref a), .val (.int li), .val (.ref b), .val (.int ui), .val (.ref b21), .val v2] [])) (fun t k => XS.astore X27.here hx rfl (hb hby dbt_38) rfl hv2 (l' := #[.val (.ref a), .val (.int li), .val (.ref b), .val (.int ui), .val (.ref b21), .val v2]) (XS.store1 (o := .unset) rfl (Or.inl rfl) (own_catR hv2)) k) ?_
      refine own_go (U' := T27.setTop (mkF m 42 #[.val (.ref a), .val (.int li), .val (.ref b), .val (.int ui), .val (.ref b21), .val v2] [(.ref b21)])) (fun t k => XS.aload X27.here hx rfl (hb hby dbt_40) rfl rfl k) ?_
      refine own_go (U' := T27.setTop (mkF m 67 #[.val (.ref a), .val (.int li), .val (.ref b), .val (.int ui), .val (.ref b21), .val v2] [])) (fun t k => XS.ifnonnullYes X27.here hx rfl (pc0 := 42) (pc' := 67) rfl (hb hby dbt_42) rfl (by decide) (by decide) k) ?_
      obtain ⟨T28, h28, X28, e28, E28, A28, D28, -, st28⟩ := newO X27 hx hZ hown (hw _ (List.mem_of_getElem? (i := 24) rfl)) (hw _ (List.mem_of_getElem? (i := 25) rfl)) (hw _ (List.mem_of_getElem? (i := 10) rfl)) e27 (g := (mkF m 67 #[.val (.ref a), .val (.int li), .val (.ref b), .val (.int ui), .val (.ref b21), .val v2] [])) rfl (hb hby dbt_67) (by decide) (by decide)
      obtain ⟨b28, g28⟩ : ∃ z, z = h27.size := ⟨_, rfl⟩
      rw [← g28] at A28 D28 st28
      have ne_a_b28 : a ≠ b28 := Nat.ne_of_lt (Nat.lt_of_lt_of_eq V_a.lt g28.symm)
      have ne_b_b28 : b ≠ b28 := Nat.ne_of_lt (Nat.lt_of_lt_of_eq V_b.lt g28.symm)
      have g_b28 : n0 ≤ b28 := Nat.le_trans (Nat.le_trans (Nat.le_of_eq O.1.symm) O.2.1) (Nat.le_of_eq g28.symm)
      have sz_b28 : h0.size ≤ b28 := Nat.le_trans K.1 (Nat.le_of_eq g28.symm)
      have K := K.ext E28
      have O := O.ext E28
      have V_a := V_a.ext E28
      have E_a := E_a.ext E28
      have V_b := V_b.ext E28
      have E_b := E_b.ext E28
      have P1 := P1.ext E28
      have P2 := P2.ext E28
      have E_b28 := A28
      have F_from_b28 : Fld Z h28 b28 "com/example/pagemark/pagemark/storage/KeyRange" "from" "[B" .null := D28 (Or.inr (hw _ (List.mem_of_getElem? (i := 33) rfl))) (ty := (.array .byte)) (by decide)
      have F_to_b28 : Fld Z h28 b28 "com/example/pagemark/pagemark/storage/KeyRange" "to" "[B" .null := D28 (Or.inr (hw _ (List.mem_of_getElem? (i := 35) rfl))) (ty := (.array .byte)) (by decide)
      refine own_go (U' := T28.setTop (mkF m 70 #[.val (.ref a), .val (.int li), .val (.ref b), .val (.int ui), .val (.ref b21), .val v2] [(.ref b28)])) st28 ?_
      refine own_go (U' := T28.setTop (mkF m 71 #[.val (.ref a), .val (.int li), .val (.ref b), .val (.int ui), .val (.ref b21), .val v2] [(.ref b28), (.ref b28)])) (fun t k => XS.dup X28.here hx rfl (hb hby dbt_70) rfl rfl k) ?_
      refine own_go (U' := T28.setTop (mkF m 73 #[.val (.ref a), .val (.int li), .val (.ref b), .val (.int ui), .val (.ref b21), .val v2] [(.ref b21), (.ref b28), (.ref b28)])) (fun t k => XS.aload X28.here hx rfl (hb hby dbt_71) rfl rfl k) ?_
      refine own_go (U' := T28.setTop (mkF m 75 #[.val (.ref a), .val (.int li), .val (.ref b), .val (.int ui), .val (.ref b21), .val v2] [v2, (.ref b21), (.ref b28), (.ref b28)])) (fun t k => XS.aload X28.here hx rfl (hb hby dbt_73) rfl hv2 k) ?_
      obtain ⟨v29, T29, h29, L29, e29, X29, hQ29, st29⟩ := own_callC X28 hx hZ (y := (⟨"com/example/pagemark/pagemark/storage/KeyRange", "<init>", "([B[B)V"⟩ : MethodName)) rfl hown (hw _ (List.mem_of_getElem? (i := 26) rfl)) (hw _ (List.mem_of_getElem? (i := 27) rfl)) (hw _ (List.mem_of_getElem? (i := 10) rfl)) (hw _ (List.mem_of_getElem? (i := 28) rfl)) (by decide) (a := b28) (own_rmki l Z a0 hw b28 (.ref b21) v2 h28 rfl hv2 n0 g_b28 _ _ E_b28 F_from_b28 F_to_b28) (W := 1) (by decide) (by decide) (g := (mkF m 75 #[.val (.ref a), .val (.int li), .val (.ref b), .val (.int ui), .val (.ref b21), .val v2] [v2, (.ref b21), (.ref b28), (.ref b28)])) rfl (by rw [hml]; rfl) (argsL := [(.ref b21), v2]) (rest := [(.ref b28)]) (lenOf own_pd4 rfl) rfl rfl (by show 2 * 0 + _ ≤ _; exact Nat.le_of_eq rfl) (hb hby dbt_75) e28 (by decide) (by decide)
      obtain ⟨rfl, Nq, Kq, Ff, Ft⟩ := hQ29
      have P1 := P1.keep1 Kq E_b28 (by decide)
      have P2 := P2.keep1 Kq E_b28 (by decide)
      have K := K.trans Kq (allS (Or.inr sz_b28) all0)
      have O := O.keep Kq (allS g_b28 all0)
      have V_a := V_a.keep Kq (ninS ne_a_b28 nin0)
      have E_a := E_a.keep Kq
      have V_b := V_b.keep Kq (ninS ne_b_b28 nin0)
      have E_b := E_b.keep Kq
      have E_b28 := E_b28.keep Kq
      have N29 := Fr.app N27 Nq
      refine own_go (U' := T29.setTop (mkF m 78 #[.val (.ref a), .val (.int li), .val (.ref b), .val (.int ui), .val (.ref b21), .val v2] [(.ref b28)])) st29 ?_
      refine own_retA X29 hx (t := (.object "com/example/pagemark/pagemark/storage/KeyRange")) hret rfl hlk rfl (hb hby dbt_78) ?_ (by decide) (by decide)
      rw [e29]
      exact ⟨_, _, _, rfl, N29, K, E_b28, Ff, Ft, ((by rw [own_from, hf]; rfl) : (some lo : Option (List Int32)) = some (own_from li lo)) ▸ P1, ((by rw [own_to, hf, ← hn]) : own_eop up up.length = own_to li ui lo up) ▸ P2⟩
set_option maxRecDepth 65536 in
set_option maxHeartbeats 40000000 in
theorem own_tail {p : Program} {l : Launch} {e : Env} {s : State} {m : MethodId} {args : Array Value} {below : List Frame} {meth : Method} {c : Code} {Z : State} {a0 : Array Value} (hx : p.tables.exec = Jvm.exec) (hZ : Z.Warmed39 s.vm) (hw : ∀ d ∈ tables_1, d.before a0 Z = true) (hby : c.code = code) (hml : c.maxLocals = 16) (hown : s.vm.findClass "com/example/pagemark/pagemark/storage/KeyRangeBetweenPinLaw" = some m.cls)  (hret : meth.sig.returnType = some .boolean) (hlk : meth.locks = false) (n0 : Nat) (p1 p2 p3 li ui : Int32) (kl ku : Nat) (hkl : kl ≤ 3) (hku : ku ≤ 3) (a b : Addr) (ka kb : ClassId) (v9 v10 v11 v12 : Value) (hv9 : v9.isRef = true) (hv10 : v10.isRef = true) (n1 : Nat) (h0 : Heap) (T0 : State) (locs : List Loc)
    (X0 : Stand p l e room_1 s m args below meth c T0 locs 6 18) (e0 : T0.heap = h0) (N0 : Fr n0 locs) (O : Old Z n0 h0) (V_a : own_Ar Z h0 a ka .byte (own_bs (own_mk kl p2))) (E_a : Exa Z h0 a "[B") (V_b : own_Ar Z h0 b kb .byte (own_bs (own_mk ku p3))) (E_b : Exa Z h0 b "[B") (P1 : own_OA Z n1 h0 (some (own_from li (own_mk kl p2))) v11) (P2 : own_OA Z n1 h0 (own_to li ui (own_mk kl p2) (own_mk ku p3)) v12) :
    own_Fin p e below s (fun v h L => v = some (.int 1) ∧ Fr n0 L) room_1.cells room_1.slots (T0.setTop (mkF m 128 #[.val (.int p1), .val (.int p2), .val (.int p3), .val (.int li), .val (.int ui), .val (.int (Int32.ofNat kl)), .val (.int (Int32.ofNat ku)), .val (.ref a), .val (.ref b), .val v9, .val v10, .val v11, .val v12, .unset, .unset, .unset] [])) := by
  have hv11 := P1.isRef
  have hv12 := P2.isRef
  have hb_a := own_mk_len kl p2
  have h8_a := own_mk_8 kl p2
  have hb_b := own_mk_len ku p3
  have h8_b := own_mk_8 ku p3
  have hlf : ∀ q, some (own_from li (own_mk kl p2)) = some q → q.length ≤ 3 := by
    intro q hq
    cases hq
    unfold own_from
    cases hf : own_first li (own_mk kl p2) with
    | none => exact hb_a
    | some q =>
      rw [own_first] at hf
      split at hf
      · exact Nat.le_trans (own_eop_len _ _ (Nat.le_refl _) _ hf) hb_a
      · cases hf; exact hb_a
  have hlt : ∀ q, own_to li ui (own_mk kl p2) (own_mk ku p3) = some q → q.length ≤ 3 := by
    intro q hq
    unfold own_to at hq
    split at hq
    · cases hq; exact hb_a
    · rw [own_end] at hq
      split at hq
      · cases hq; exact hb_b
      · exact Nat.le_trans (own_eop_len _ _ (Nat.le_refl _) _ hq) hb_b
  refine own_go (U' := T0.setTop (mkF m 130 #[.val (.int p1), .val (.int p2), .val (.int p3), .val (.int li), .val (.int ui), .val (.int (Int32.ofNat kl)), .val (.int (Int32.ofNat ku)), .val (.ref a), .val (.ref b), .val v9, .val v10, .val v11, .val v12, .unset, .unset, .unset] [(.ref a)])) (fun t k => XS.aload X0.here hx rfl (hb hby at_128) rfl rfl k) ?_
  refine own_go (U' := T0.setTop (mkF m 131 #[.val (.int p1), .val (.int p2), .val (.int p3), .val (.int li), .val (.int ui), .val (.int (Int32.ofNat kl)), .val (.int (Int32.ofNat ku)), .val (.ref a), .val (.ref b), .val v9, .val v10, .val v11, .val v12, .unset, .unset, .unset] [(.int li), (.ref a)])) (fun t k => XS.iloadN X0.here hx rfl (hb hby at_130) rfl k) ?_
  refine own_go (U' := T0.setTop (mkF m 133 #[.val (.int p1), .val (.int p2), .val (.int p3), .val (.int li), .val (.int ui), .val (.int (Int32.ofNat kl)), .val (.int (Int32.ofNat ku)), .val (.ref a), .val (.ref b), .val v9, .val v10, .val v11, .val v12, .unset, .unset, .unset] [(.ref b), (.int li), (.ref a)])) (fun t k => XS.aload X0.here hx rfl (hb hby at_131) rfl rfl k) ?_
  refine own_go (U' := T0.setTop (mkF m 135 #[.val (.int p1), .val (.int p2), .val (.int p3), .val (.int li), .val (.int ui), .val (.int (Int32.ofNat kl)), .val (.int (Int32.ofNat ku)), .val (.ref a), .val (.ref b), .val v9, .val v10, .val v11, .val v12, .unset, .unset, .unset] [(.int ui), (.ref b), (.int li), (.ref a)])) (fun t k => XS.iload X0.here hx rfl (hb hby at_133) rfl k) ?_
  obtain ⟨v1, T1, h1, L1, e1, X1, hQ1, st1⟩ := own_callS X0 hx hZ (y := (⟨"com/example/pagemark/pagemark/storage/KeyRange", "between", "([BZ[BZ)Lcom/example/pagemark/pagemark/storage/KeyRange;"⟩ : MethodName)) hown (hw _ (List.mem_of_getElem? (i := 8) rfl)) (hw _ (List.mem_of_getElem? (i := 9) rfl)) (hw _ (List.mem_of_getElem? (i := 10) rfl)) (hw _ (List.mem_of_getElem? (i := 11) rfl)) (by decide) (own_rmbt l Z a0 hw a li b ui h0 n0 _ _ ka kb O hb_a h8_a V_a E_a hb_b h8_b V_b E_b) (W := 0) (by decide) (by decide) (g := (mkF m 135 #[.val (.int p1), .val (.int p2), .val (.int p3), .val (.int li), .val (.int ui), .val (.int (Int32.ofNat kl)), .val (.int (Int32.ofNat ku)), .val (.ref a), .val (.ref b), .val v9, .val v10, .val v11, .val v12, .unset, .unset, .unset] [(.int ui), (.ref b), (.int li), (.ref a)])) rfl (by rw [hml]; rfl) (argsL := [(.ref a), (.int li), (.ref b), (.int ui)]) (rest := []) (lenOf own_pd7 rfl) rfl rfl (by show 2 * 0 + _ ≤ _; exact Nat.le_of_eq rfl) (hb hby at_135) e0 (by decide) (by decide)
  obtain ⟨r, vf, vt, rfl, Nq, Kq, E_r, F_from_r, F_to_r, P3, P4⟩ := hQ1
  have la : a < h0.size := V_a.lt
  have lb : b < h0.size := V_b.lt
  have P1 := P1.keep Kq
  have P2 := P2.keep Kq
  have O := O.keep Kq all0
  have V_a := V_a.keep Kq nin0
  have E_a := E_a.keep Kq
  have V_b := V_b.keep Kq nin0
  have E_b := E_b.keep Kq
  have hvf := P3.isRef
  have hvt := P4.isRef
  have N1 := Fr.app N0 Nq
  refine own_go (U' := T1.setTop (mkF m 138 #[.val (.int p1), .val (.int p2), .val (.int p3), .val (.int li), .val (.int ui), .val (.int (Int32.ofNat kl)), .val (.int (Int32.ofNat ku)), .val (.ref a), .val (.ref b), .val v9, .val v10, .val v11, .val v12, .unset, .unset, .unset] [(.ref r)])) st1 ?_
  refine own_go (U' := T1.setTop (mkF m 140 #[.val (.int p1), .val (.int p2), .val (.int p3), .val (.int li), .val (.int ui), .val (.int (Int32.ofNat kl)), .val (.int (Int32.ofNat ku)), .val (.ref a), .val (.ref b), .val v9, .val v10, .val v11, .val v12, .val (.ref r), .unset, .unset] [])) (fun t k => XS.astore X1.here hx rfl (hb hby at_138) rfl rfl (l' := #[.val (.int p1), .val (.int p2), .val (.int p3), .val (.int li), .val (.int ui), .val (.int (Int32.ofNat kl)), .val (.int (Int32.ofNat ku)), .val (.ref a), .val (.ref b), .val v9, .val v10, .val v11, .val v12, .val (.ref r), .unset, .unset]) rfl k) ?_
  refine own_go (U' := T1.setTop (mkF m 142 #[.val (.int p1), .val (.int p2), .val (.int p3), .val (.int li), .val (.int ui), .val (.int (Int32.ofNat kl)), .val (.int (Int32.ofNat ku)), .val (.ref a), .val (.ref b), .val v9, .val v10, .val v11, .val v12, .val (.ref r), .unset, .unset] [(.ref r)])) (fun t k => XS.aload X1.here hx rfl (hb hby at_140) rfl rfl k) ?_
  obtain ⟨v2, T2, h2, L2, e2, X2, hQ2, st2⟩ := own_callV X1 hx hZ (y := (⟨"com/example/pagemark/pagemark/storage/KeyRange", "from", "()[B"⟩ : MethodName)) (z := (⟨"com/example/pagemark/pagemark/storage/KeyRange", "from", "()[B"⟩ : MethodName)) hown (hw _ (List.mem_of_getElem? (i := 36) rfl)) (hw _ (List.mem_of_getElem? (i := 37) rfl)) (notFace_of_selects (args := #[]) (mvT hZ (hw _ (List.mem_of_getElem? (i := 39) rfl)))) (hw _ (List.mem_of_getElem? (i := 39) rfl)) (hw _ (List.mem_of_getElem? (i := 38) rfl)) (hw _ (List.mem_of_getElem? (i := 10) rfl)) (hw _ (List.mem_of_getElem? (i := 40) rfl)) (by decide) E_r (own_rmgfrom l Z a0 hw r h1 vf hvf F_from_r) (W := 0) (by decide) (by decide) (g := (mkF m 142 #[.val (.int p1), .val (.int p2), .val (.int p3), .val (.int li), .val (.int ui), .val (.int (Int32.ofNat kl)), .val (.int (Int32.ofNat ku)), .val (.ref a), .val (.ref b), .val v9, .val v10, .val v11, .val v12, .val (.ref r), .unset, .unset] [(.ref r)])) rfl (by rw [hml]; rfl) (argsL := []) (rest := []) (lenOf own_pd5 rfl) rfl rfl (by show 2 * 0 + _ ≤ _; exact Nat.le_of_eq rfl) (hb hby at_142) e1 (by decide) (by decide)
  obtain ⟨rfl, rfl, eh2⟩ := hQ2
  have e2 := e2.trans eh2
  rw [List.append_nil] at X2
  refine own_go (U' := T2.setTop (mkF m 145 #[.val (.int p1), .val (.int p2), .val (.int p3), .val (.int li), .val (.int ui), .val (.int (Int32.ofNat kl)), .val (.int (Int32.ofNat ku)), .val (.ref a), .val (.ref b), .val v9, .val v10, .val v11, .val v12, .val (.ref r), .unset, .unset] [vf])) st2 ?_
  refine own_go (U' := T2.setTop (mkF m 147 #[.val (.int p1), .val (.int p2), .val (.int p3), .val (.int li), .val (.int ui), .val (.int (Int32.ofNat kl)), .val (.int (Int32.ofNat ku)), .val (.ref a), .val (.ref b), .val v9, .val v10, .val v11, .val v12, .val (.ref r), .val vf, .unset] [])) (fun t k => XS.astore X2.here hx rfl (hb hby at_145) rfl hvf (l' := #[.val (.int p1), .val (.int p2), .val (.int p3), .val (.int li), .val (.int ui), .val (.int (Int32.ofNat kl)), .val (.int (Int32.ofNat ku)), .val (.ref a), .val (.ref b), .val v9, .val v10, .val v11, .val v12, .val (.ref r), .val vf, .unset]) (XS.store1 (o := .unset) rfl (Or.inl rfl) (own_catR hvf)) k) ?_
  refine own_go (U' := T2.setTop (mkF m 149 #[.val (.int p1), .val (.int p2), .val (.int p3), .val (.int li), .val (.int ui), .val (.int (Int32.ofNat kl)), .val (.int (Int32.ofNat ku)), .val (.ref a), .val (.ref b), .val v9, .val v10, .val v11, .val v12, .val (.ref r), .val vf, .unset] [(.ref r)])) (fun t k => XS.aload X2.here hx rfl (hb hby at_147) rfl rfl k) ?_
  obtain ⟨v3, T3, h3, L3, e3, X3, hQ3, st3⟩ := own_callV X2 hx hZ (y := (⟨"com/example/pagemark/pagemark/storage/KeyRange", "to", "()[B"⟩ : MethodName)) (z := (⟨"com/example/pagemark/pagemark/storage/KeyRange", "to", "()[B"⟩ : MethodName)) hown (hw _ (List.mem_of_getElem? (i := 41) rfl)) (hw _ (List.mem_of_getElem? (i := 42) rfl)) (notFace_of_selects (args := #[]) (mvT hZ (hw _ (List.mem_of_getElem? (i := 44) rfl)))) (hw _ (List.mem_of_getElem? (i := 44) rfl)) (hw _ (List.mem_of_getElem? (i := 43) rfl)) (hw _ (List.mem_of_getElem? (i := 10) rfl)) (hw _ (List.mem_of_getElem? (i := 45) rfl)) (by decide) E_r (own_rmgto l Z a0 hw r h1 vt hvt F_to_r) (W := 0) (by decide) (by decide) (g := (mkF m 149 #[.val (.int p1), .val (.int p2), .val (.int p3), .val (.int li), .val (.int ui), .val (.int (Int32.ofNat kl)), .val (.int (Int32.ofNat ku)), .val (.ref a), .val (.ref b), .val v9, .val v10, .val v11, .val v12, .val (.ref r), .val vf, .unset] [(.ref r)])) rfl (by rw [hml]; rfl) (argsL := []) (rest := []) (lenOf own_pd5 rfl) rfl rfl (by show 2 * 0 + _ ≤ _; exact Nat.le_of_eq rfl) (hb hby at_149) e2 (by decide) (by decide)
  obtain ⟨rfl, rfl, eh3⟩ := hQ3
  have e3 := e3.trans eh3
  rw [List.append_nil] at X3
  refine own_go (U' := T3.setTop (mkF m 152 #[.val (.int p1), .val (.int p2), .val (.int p3), .val (.int li), .val (.int ui), .val (.int (Int32.ofNat kl)), .val (.int (Int32.ofNat ku)), .val (.ref a), .val (.ref b), .val v9, .val v10, .val v11, .val v12, .val (.ref r), .val vf, .unset] [vt])) st3 ?_
  refine own_go (U' := T3.setTop (mkF m 154 #[.val (.int p1), .val (.int p2), .val (.int p3), .val (.int li), .val (.int ui), .val (.int (Int32.ofNat kl)), .val (.int (Int32.ofNat ku)), .val (.ref a), .val (.ref b), .val v9, .val v10, .val v11, .val v12, .val (.ref r), .val vf, .val vt] [])) (fun t k => XS.astore X3.here hx rfl (hb hby at_152) rfl hvt (l' := #[.val (.int p1), .val (.int p2), .val (.int p3), .val (.int li), .val (.int ui), .val (.int (Int32.ofNat kl)), .val (.int (Int32.ofNat ku)), .val (.ref a), .val (.ref b), .val v9, .val v10, .val v11, .val v12, .val (.ref r), .val vf, .val vt]) (XS.store1 (o := .unset) rfl (Or.inl rfl) (own_catR hvt)) k) ?_
  refine own_go (U' := T3.setTop (mkF m 156 #[.val (.int p1), .val (.int p2), .val (.int p3), .val (.int li), .val (.int ui), .val (.int (Int32.ofNat kl)), .val (.int (Int32.ofNat ku)), .val (.ref a), .val (.ref b), .val v9, .val v10, .val v11, .val v12, .val (.ref r), .val vf, .val vt] [vf])) (fun t k => XS.aload X3.here hx rfl (hb hby at_154) rfl hvf k) ?_
  refine own_go (U' := T3.setTop (mkF m 158 #[.val (.int p1), .val (.int p2), .val (.int p3), .val (.int li), .val (.int ui), .val (.int (Int32.ofNat kl)), .val (.int (Int32.ofNat ku)), .val (.ref a), .val (.ref b), .val v9, .val v10, .val v11, .val v12, .val (.ref r), .val vf, .val vt] [v11, vf])) (fun t k => XS.aload X3.here hx rfl (hb hby at_156) rfl hv11 k) ?_
  obtain ⟨v4, T4, h4, L4, e4, X4, hQ4, st4⟩ := own_callS X3 hx hZ (y := (⟨"com/example/pagemark/pagemark/storage/KeyRangeBetweenPinLaw", "same", "([B[B)Z"⟩ : MethodName)) hown (hw _ (List.mem_of_getElem? (i := 46) rfl)) (hw _ (List.mem_of_getElem? (i := 47) rfl)) (hw _ (List.mem_of_getElem? (i := 2) rfl)) (hw _ (List.mem_of_getElem? (i := 48) rfl)) (by decide) (own_rmsm l Z a0 hw vf v11 h1 _ _ _ hlf P3 P1) (W := 0) (by decide) (by decide) (g := (mkF m 158 #[.val (.int p1), .val (.int p2), .val (.int p3), .val (.int li), .val (.int ui), .val (.int (Int32.ofNat kl)), .val (.int (Int32.ofNat ku)), .val (.ref a), .val (.ref b), .val v9, .val v10, .val v11, .val v12, .val (.ref r), .val vf, .val vt] [v11, vf])) rfl (by rw [hml]; rfl) (argsL := [vf, v11]) (rest := []) (lenOf own_pd6 rfl) rfl rfl (by show 2 * 0 + _ ≤ _; exact Nat.le_of_eq rfl) (hb hby at_158) e3 (by decide) (by decide)
  obtain ⟨rfl, rfl, eh4⟩ := hQ4
  have e4 := e4.trans eh4
  rw [List.append_nil] at X4
  refine own_go (U' := T4.setTop (mkF m 161 #[.val (.int p1), .val (.int p2), .val (.int p3), .val (.int li), .val (.int ui), .val (.int (Int32.ofNat kl)), .val (.int (Int32.ofNat ku)), .val (.ref a), .val (.ref b), .val v9, .val v10, .val v11, .val v12, .val (.ref r), .val vf, .val vt] [(.int (1 : Int32))])) st4 ?_
  refine own_go (U' := T4.setTop (mkF m 166 #[.val (.int p1), .val (.int p2), .val (.int p3), .val (.int li), .val (.int ui), .val (.int (Int32.ofNat kl)), .val (.int (Int32.ofNat ku)), .val (.ref a), .val (.ref b), .val v9, .val v10, .val v11, .val v12, .val (.ref r), .val vf, .val vt] [])) (fun t k => XS.ifYes X4.here hx rfl (pc0 := 161) (pc' := 166) rfl (hb hby at_161) rfl ((if0 _ _).trans (feq (by decide)).2) (by decide) (by decide) k) ?_
  refine own_go (U' := T4.setTop (mkF m 168 #[.val (.int p1), .val (.int p2), .val (.int p3), .val (.int li), .val (.int ui), .val (.int (Int32.ofNat kl)), .val (.int (Int32.ofNat ku)), .val (.ref a), .val (.ref b), .val v9, .val v10, .val v11, .val v12, .val (.ref r), .val vf, .val vt] [vt])) (fun t k => XS.aload X4.here hx rfl (hb hby at_166) rfl hvt k) ?_
  refine own_go (U' := T4.setTop (mkF m 170 #[.val (.int p1), .val (.int p2), .val (.int p3), .val (.int li), .val (.int ui), .val (.int (Int32.ofNat kl)), .val (.int (Int32.ofNat ku)), .val (.ref a), .val (.ref b), .val v9, .val v10, .val v11, .val v12, .val (.ref r), .val vf, .val vt] [v12, vt])) (fun t k => XS.aload X4.here hx rfl (hb hby at_168) rfl hv12 k) ?_
  obtain ⟨v5, T5, h5, L5, e5, X5, hQ5, st5⟩ := own_callS X4 hx hZ (y := (⟨"com/example/pagemark/pagemark/storage/KeyRangeBetweenPinLaw", "same", "([B[B)Z"⟩ : MethodName)) hown (hw _ (List.mem_of_getElem? (i := 46) rfl)) (hw _ (List.mem_of_getElem? (i := 47) rfl)) (hw _ (List.mem_of_getElem? (i := 2) rfl)) (hw _ (List.mem_of_getElem? (i := 48) rfl)) (by decide) (own_rmsm l Z a0 hw vt v12 h1 _ _ _ hlt P4 P2) (W := 0) (by decide) (by decide) (g := (mkF m 170 #[.val (.int p1), .val (.int p2), .val (.int p3), .val (.int li), .val (.int ui), .val (.int (Int32.ofNat kl)), .val (.int (Int32.ofNat ku)), .val (.ref a), .val (.ref b), .val v9, .val v10, .val v11, .val v12, .val (.ref r), .val vf, .val vt] [v12, vt])) rfl (by rw [hml]; rfl) (argsL := [vt, v12]) (rest := []) (lenOf own_pd6 rfl) rfl rfl (by show 2 * 0 + _ ≤ _; exact Nat.le_of_eq rfl) (hb hby at_170) e4 (by decide) (by decide)
  obtain ⟨rfl, rfl, eh5⟩ := hQ5
  have e5 := e5.trans eh5
  rw [List.append_nil] at X5
  refine own_go (U' := T5.setTop (mkF m 173 #[.val (.int p1), .val (.int p2), .val (.int p3), .val (.int li), .val (.int ui), .val (.int (Int32.ofNat kl)), .val (.int (Int32.ofNat ku)), .val (.ref a), .val (.ref b), .val v9, .val v10, .val v11, .val v12, .val (.ref r), .val vf, .val vt] [(.int (1 : Int32))])) st5 ?_
  refine own_go (U' := T5.setTop (mkF m 178 #[.val (.int p1), .val (.int p2), .val (.int p3), .val (.int li), .val (.int ui), .val (.int (Int32.ofNat kl)), .val (.int (Int32.ofNat ku)), .val (.ref a), .val (.ref b), .val v9, .val v10, .val v11, .val v12, .val (.ref r), .val vf, .val vt] [])) (fun t k => XS.ifYes X5.here hx rfl (pc0 := 173) (pc' := 178) rfl (hb hby at_173) rfl ((if0 _ _).trans (feq (by decide)).2) (by decide) (by decide) k) ?_
  refine own_go (U' := T5.setTop (mkF m 180 #[.val (.int p1), .val (.int p2), .val (.int p3), .val (.int li), .val (.int ui), .val (.int (Int32.ofNat kl)), .val (.int (Int32.ofNat ku)), .val (.ref a), .val (.ref b), .val v9, .val v10, .val v11, .val v12, .val (.ref r), .val vf, .val vt] [vf])) (fun t k => XS.aload X5.here hx rfl (hb hby at_178) rfl hvf k) ?_
  refine own_go (U' := T5.setTop (mkF m 182 #[.val (.int p1), .val (.int p2), .val (.int p3), .val (.int li), .val (.int ui), .val (.int (Int32.ofNat kl)), .val (.int (Int32.ofNat ku)), .val (.ref a), .val (.ref b), .val v9, .val v10, .val v11, .val v12, .val (.ref r), .val vf, .val vt] [(.ref a), vf])) (fun t k => XS.aload X5.here hx rfl (hb hby at_180) rfl rfl k) ?_
  refine own_go (U' := T5.setTop (mkF m 185 #[.val (.int p1), .val (.int p2), .val (.int p3), .val (.int li), .val (.int ui), .val (.int (Int32.ofNat kl)), .val (.int (Int32.ofNat ku)), .val (.ref a), .val (.ref b), .val v9, .val v10, .val v11, .val v12, .val (.ref r), .val vf, .val vt] [])) (fun t k => Jvm.RoadKit.acmp (g := (mkF m 182 #[.val (.int p1), .val (.int p2), .val (.int p3), .val (.int li), .val (.int ui), .val (.int (Int32.ofNat kl)), .val (.int (Int32.ofNat ku)), .val (.ref a), .val (.ref b), .val v9, .val v10, .val v11, .val v12, .val (.ref r), .val vf, .val vt] [(.ref a), vf])) X5 hx rfl hvf rfl (pc0 := 182) (pc' := 185) (same := false) rfl (hb hby at_182) rfl (decide_eq_false (P3.ne la)) (by decide) (by decide) k) ?_
  refine own_go (U' := T5.setTop (mkF m 187 #[.val (.int p1), .val (.int p2), .val (.int p3), .val (.int li), .val (.int ui), .val (.int (Int32.ofNat kl)), .val (.int (Int32.ofNat ku)), .val (.ref a), .val (.ref b), .val v9, .val v10, .val v11, .val v12, .val (.ref r), .val vf, .val vt] [vf])) (fun t k => XS.aload X5.here hx rfl (hb hby at_185) rfl hvf k) ?_
  refine own_go (U' := T5.setTop (mkF m 189 #[.val (.int p1), .val (.int p2), .val (.int p3), .val (.int li), .val (.int ui), .val (.int (Int32.ofNat kl)), .val (.int (Int32.ofNat ku)), .val (.ref a), .val (.ref b), .val v9, .val v10, .val v11, .val v12, .val (.ref r), .val vf, .val vt] [(.ref b), vf])) (fun t k => XS.aload X5.here hx rfl (hb hby at_187) rfl rfl k) ?_
  refine own_go (U' := T5.setTop (mkF m 194 #[.val (.int p1), .val (.int p2), .val (.int p3), .val (.int li), .val (.int ui), .val (.int (Int32.ofNat kl)), .val (.int (Int32.ofNat ku)), .val (.ref a), .val (.ref b), .val v9, .val v10, .val v11, .val v12, .val (.ref r), .val vf, .val vt] [])) (fun t k => Jvm.RoadKit.acmp (g := (mkF m 189 #[.val (.int p1), .val (.int p2), .val (.int p3), .val (.int li), .val (.int ui), .val (.int (Int32.ofNat kl)), .val (.int (Int32.ofNat ku)), .val (.ref a), .val (.ref b), .val v9, .val v10, .val v11, .val v12, .val (.ref r), .val vf, .val vt] [(.ref b), vf])) X5 hx rfl hvf rfl (pc0 := 189) (pc' := 194) (same := false) rfl (hb hby at_189) rfl (decide_eq_false (P3.ne lb)) (by decide) (by decide) k) ?_
  refine own_go (U' := T5.setTop (mkF m 196 #[.val (.int p1), .val (.int p2), .val (.int p3), .val (.int li), .val (.int ui), .val (.int (Int32.ofNat kl)), .val (.int (Int32.ofNat ku)), .val (.ref a), .val (.ref b), .val v9, .val v10, .val v11, .val v12, .val (.ref r), .val vf, .val vt] [vt])) (fun t k => XS.aload X5.here hx rfl (hb hby at_194) rfl hvt k) ?_
  have P4' := P4
  cases ho : own_to li ui (own_mk kl p2) (own_mk ku p3) with
  | none =>
    rw [ho] at P4'
    obtain rfl : vt = .null := P4'
    refine own_go (U' := T5.setTop (mkF m 215 #[.val (.int p1), .val (.int p2), .val (.int p3), .val (.int li), .val (.int ui), .val (.int (Int32.ofNat kl)), .val (.int (Int32.ofNat ku)), .val (.ref a), .val (.ref b), .val v9, .val v10, .val v11, .val v12, .val (.ref r), .val vf, .val .null] [])) (fun t k => XS.ifnullYes X5.here hx rfl (pc0 := 196) (pc' := 215) rfl (hb hby at_196) rfl (by decide) (by decide) k) ?_
    refine own_go (U' := T5.setTop (mkF m 217 #[.val (.int p1), .val (.int p2), .val (.int p3), .val (.int li), .val (.int ui), .val (.int (Int32.ofNat kl)), .val (.int (Int32.ofNat ku)), .val (.ref a), .val (.ref b), .val v9, .val v10, .val v11, .val v12, .val (.ref r), .val vf, .val .null] [(.ref a)])) (fun t k => XS.aload X5.here hx rfl (hb hby at_215) rfl rfl k) ?_
    refine own_go (U' := T5.setTop (mkF m 219 #[.val (.int p1), .val (.int p2), .val (.int p3), .val (.int li), .val (.int ui), .val (.int (Int32.ofNat kl)), .val (.int (Int32.ofNat ku)), .val (.ref a), .val (.ref b), .val v9, .val v10, .val v11, .val v12, .val (.ref r), .val vf, .val .null] [(.int (Int32.ofNat kl)), (.ref a)])) (fun t k => XS.iload X5.here hx rfl (hb hby at_217) rfl k) ?_
    refine own_go (U' := T5.setTop (mkF m 220 #[.val (.int p1), .val (.int p2), .val (.int p3), .val (.int li), .val (.int ui), .val (.int (Int32.ofNat kl)), .val (.int (Int32.ofNat ku)), .val (.ref a), .val (.ref b), .val v9, .val v10, .val v11, .val v12, .val (.ref r), .val vf, .val .null] [(.int p2), (.int (Int32.ofNat kl)), (.ref a)])) (fun t k => XS.iloadN X5.here hx rfl (hb hby at_219) rfl k) ?_
    obtain ⟨v6, T6, h6, L6, e6, X6, hQ6, st6⟩ := own_callS X5 hx hZ (y := (⟨"com/example/pagemark/pagemark/storage/KeyRangeBetweenPinLaw", "mk", "(II)[B"⟩ : MethodName)) hown (hw _ (List.mem_of_getElem? (i := 0) rfl)) (hw _ (List.mem_of_getElem? (i := 1) rfl)) (hw _ (List.mem_of_getElem? (i := 2) rfl)) (hw _ (List.mem_of_getElem? (i := 3) rfl)) (by decide) (own_rmmk l Z a0 hw kl p2 h1 n0 O hkl) (W := 1) (by decide) (by decide) (g := (mkF m 220 #[.val (.int p1), .val (.int p2), .val (.int p3), .val (.int li), .val (.int ui), .val (.int (Int32.ofNat kl)), .val (.int (Int32.ofNat ku)), .val (.ref a), .val (.ref b), .val v9, .val v10, .val v11, .val v12, .val (.ref r), .val vf, .val .null] [(.int p2), (.int (Int32.ofNat kl)), (.ref a)])) rfl (by rw [hml]; rfl) (argsL := [(.int (Int32.ofNat kl)), (.int p2)]) (rest := [(.ref a)]) (lenOf own_pd3 rfl) rfl rfl (by show 2 * 0 + _ ≤ _; exact Nat.le_of_eq rfl) (hb hby at_220) e5 (by decide) (by decide)
    obtain ⟨x6, kx6, rfl, Nq, Kq, sz_x, g_x, Vx6, Ex6⟩ := hQ6
    have O := O.keep Kq all0
    have V_a := V_a.keep Kq nin0
    have E_a := E_a.keep Kq
    have V_b := V_b.keep Kq nin0
    have E_b := E_b.keep Kq
    have N6 := Fr.app N1 Nq
    refine own_go (U' := T6.setTop (mkF m 223 #[.val (.int p1), .val (.int p2), .val (.int p3), .val (.int li), .val (.int ui), .val (.int (Int32.ofNat kl)), .val (.int (Int32.ofNat ku)), .val (.ref a), .val (.ref b), .val v9, .val v10, .val v11, .val v12, .val (.ref r), .val vf, .val .null] [(.ref x6), (.ref a)])) st6 ?_
    obtain ⟨v7, T7, h7, L7, e7, X7, hQ7, st7⟩ := own_callS X6 hx hZ (y := (⟨"com/example/pagemark/pagemark/storage/KeyRangeBetweenPinLaw", "same", "([B[B)Z"⟩ : MethodName)) hown (hw _ (List.mem_of_getElem? (i := 46) rfl)) (hw _ (List.mem_of_getElem? (i := 47) rfl)) (hw _ (List.mem_of_getElem? (i := 2) rfl)) (hw _ (List.mem_of_getElem? (i := 48) rfl)) (by decide) (own_rmsa l Z a0 hw a x6 h6 _ _ _ hb_a V_a Vx6) (W := 0) (by decide) (by decide) (g := (mkF m 223 #[.val (.int p1), .val (.int p2), .val (.int p3), .val (.int li), .val (.int ui), .val (.int (Int32.ofNat kl)), .val (.int (Int32.ofNat ku)), .val (.ref a), .val (.ref b), .val v9, .val v10, .val v11, .val v12, .val (.ref r), .val vf, .val .null] [(.ref x6), (.ref a)])) rfl (by rw [hml]; rfl) (argsL := [(.ref a), (.ref x6)]) (rest := []) (lenOf own_pd6 rfl) rfl rfl (by show 2 * 0 + _ ≤ _; exact Nat.le_of_eq rfl) (hb hby at_223) e6 (by decide) (by decide)
    obtain ⟨rfl, rfl, eh7⟩ := hQ7
    have e7 := e7.trans eh7
    rw [List.append_nil] at X7
    refine own_go (U' := T7.setTop (mkF m 226 #[.val (.int p1), .val (.int p2), .val (.int p3), .val (.int li), .val (.int ui), .val (.int (Int32.ofNat kl)), .val (.int (Int32.ofNat ku)), .val (.ref a), .val (.ref b), .val v9, .val v10, .val v11, .val v12, .val (.ref r), .val vf, .val .null] [(.int (1 : Int32))])) st7 ?_
    refine own_go (U' := T7.setTop (mkF m 231 #[.val (.int p1), .val (.int p2), .val (.int p3), .val (.int li), .val (.int ui), .val (.int (Int32.ofNat kl)), .val (.int (Int32.ofNat ku)), .val (.ref a), .val (.ref b), .val v9, .val v10, .val v11, .val v12, .val (.ref r), .val vf, .val .null] [])) (fun t k => XS.ifYes X7.here hx rfl (pc0 := 226) (pc' := 231) rfl (hb hby at_226) rfl ((if0 _ _).trans (feq (by decide)).2) (by decide) (by decide) k) ?_
    refine own_go (U' := T7.setTop (mkF m 233 #[.val (.int p1), .val (.int p2), .val (.int p3), .val (.int li), .val (.int ui), .val (.int (Int32.ofNat kl)), .val (.int (Int32.ofNat ku)), .val (.ref a), .val (.ref b), .val v9, .val v10, .val v11, .val v12, .val (.ref r), .val vf, .val .null] [(.ref b)])) (fun t k => XS.aload X7.here hx rfl (hb hby at_231) rfl rfl k) ?_
    refine own_go (U' := T7.setTop (mkF m 235 #[.val (.int p1), .val (.int p2), .val (.int p3), .val (.int li), .val (.int ui), .val (.int (Int32.ofNat kl)), .val (.int (Int32.ofNat ku)), .val (.ref a), .val (.ref b), .val v9, .val v10, .val v11, .val v12, .val (.ref r), .val vf, .val .null] [(.int (Int32.ofNat ku)), (.ref b)])) (fun t k => XS.iload X7.here hx rfl (hb hby at_233) rfl k) ?_
    refine own_go (U' := T7.setTop (mkF m 236 #[.val (.int p1), .val (.int p2), .val (.int p3), .val (.int li), .val (.int ui), .val (.int (Int32.ofNat kl)), .val (.int (Int32.ofNat ku)), .val (.ref a), .val (.ref b), .val v9, .val v10, .val v11, .val v12, .val (.ref r), .val vf, .val .null] [(.int p3), (.int (Int32.ofNat ku)), (.ref b)])) (fun t k => XS.iloadN X7.here hx rfl (hb hby at_235) rfl k) ?_
    obtain ⟨v8, T8, h8, L8, e8, X8, hQ8, st8⟩ := own_callS X7 hx hZ (y := (⟨"com/example/pagemark/pagemark/storage/KeyRangeBetweenPinLaw", "mk", "(II)[B"⟩ : MethodName)) hown (hw _ (List.mem_of_getElem? (i := 0) rfl)) (hw _ (List.mem_of_getElem? (i := 1) rfl)) (hw _ (List.mem_of_getElem? (i := 2) rfl)) (hw _ (List.mem_of_getElem? (i := 3) rfl)) (by decide) (own_rmmk l Z a0 hw ku p3 h6 n0 O hku) (W := 1) (by decide) (by decide) (g := (mkF m 236 #[.val (.int p1), .val (.int p2), .val (.int p3), .val (.int li), .val (.int ui), .val (.int (Int32.ofNat kl)), .val (.int (Int32.ofNat ku)), .val (.ref a), .val (.ref b), .val v9, .val v10, .val v11, .val v12, .val (.ref r), .val vf, .val .null] [(.int p3), (.int (Int32.ofNat ku)), (.ref b)])) rfl (by rw [hml]; rfl) (argsL := [(.int (Int32.ofNat ku)), (.int p3)]) (rest := [(.ref b)]) (lenOf own_pd3 rfl) rfl rfl (by show 2 * 0 + _ ≤ _; exact Nat.le_of_eq rfl) (hb hby at_236) e7 (by decide) (by decide)
    obtain ⟨x8, kx8, rfl, Nq, Kq, sz_x, g_x, Vx8, Ex8⟩ := hQ8
    have O := O.keep Kq all0
    have V_a := V_a.keep Kq nin0
    have E_a := E_a.keep Kq
    have V_b := V_b.keep Kq nin0
    have E_b := E_b.keep Kq
    have N8 := Fr.app N6 Nq
    refine own_go (U' := T8.setTop (mkF m 239 #[.val (.int p1), .val (.int p2), .val (.int p3), .val (.int li), .val (.int ui), .val (.int (Int32.ofNat kl)), .val (.int (Int32.ofNat ku)), .val (.ref a), .val (.ref b), .val v9, .val v10, .val v11, .val v12, .val (.ref r), .val vf, .val .null] [(.ref x8), (.ref b)])) st8 ?_
    obtain ⟨v9, T9, h9, L9, e9, X9, hQ9, st9⟩ := own_callS X8 hx hZ (y := (⟨"com/example/pagemark/pagemark/storage/KeyRangeBetweenPinLaw", "same", "([B[B)Z"⟩ : MethodName)) hown (hw _ (List.mem_of_getElem? (i := 46) rfl)) (hw _ (List.mem_of_getElem? (i := 47) rfl)) (hw _ (List.mem_of_getElem? (i := 2) rfl)) (hw _ (List.mem_of_getElem? (i := 48) rfl)) (by decide) (own_rmsa l Z a0 hw b x8 h8 _ _ _ hb_b V_b Vx8) (W := 0) (by decide) (by decide) (g := (mkF m 239 #[.val (.int p1), .val (.int p2), .val (.int p3), .val (.int li), .val (.int ui), .val (.int (Int32.ofNat kl)), .val (.int (Int32.ofNat ku)), .val (.ref a), .val (.ref b), .val v9, .val v10, .val v11, .val v12, .val (.ref r), .val vf, .val .null] [(.ref x8), (.ref b)])) rfl (by rw [hml]; rfl) (argsL := [(.ref b), (.ref x8)]) (rest := []) (lenOf own_pd6 rfl) rfl rfl (by show 2 * 0 + _ ≤ _; exact Nat.le_of_eq rfl) (hb hby at_239) e8 (by decide) (by decide)
    obtain ⟨rfl, rfl, eh9⟩ := hQ9
    have e9 := e9.trans eh9
    rw [List.append_nil] at X9
    refine own_go (U' := T9.setTop (mkF m 242 #[.val (.int p1), .val (.int p2), .val (.int p3), .val (.int li), .val (.int ui), .val (.int (Int32.ofNat kl)), .val (.int (Int32.ofNat ku)), .val (.ref a), .val (.ref b), .val v9, .val v10, .val v11, .val v12, .val (.ref r), .val vf, .val .null] [(.int (1 : Int32))])) st9 ?_
    refine own_retN X9 hx (t := .boolean) hret (by simp) hlk (hb hby at_242) ?_ (by decide) (by decide)
    exact ⟨rfl, N8⟩
  | some lt =>
    rw [ho] at P4'
    have P5 := P4'
    obtain ⟨t1, kt1, rfl, -⟩ := P5
    refine own_go (U' := T5.setTop (mkF m 199 #[.val (.int p1), .val (.int p2), .val (.int p3), .val (.int li), .val (.int ui), .val (.int (Int32.ofNat kl)), .val (.int (Int32.ofNat ku)), .val (.ref a), .val (.ref b), .val v9, .val v10, .val v11, .val v12, .val (.ref r), .val vf, .val (.ref t1)] [])) (fun t k => XS.ifnullNo X5.here hx rfl (hb hby at_196) rfl k) ?_
    refine own_go (U' := T5.setTop (mkF m 201 #[.val (.int p1), .val (.int p2), .val (.int p3), .val (.int li), .val (.int ui), .val (.int (Int32.ofNat kl)), .val (.int (Int32.ofNat ku)), .val (.ref a), .val (.ref b), .val v9, .val v10, .val v11, .val v12, .val (.ref r), .val vf, .val (.ref t1)] [(.ref t1)])) (fun t k => XS.aload X5.here hx rfl (hb hby at_199) rfl rfl k) ?_
    refine own_go (U' := T5.setTop (mkF m 203 #[.val (.int p1), .val (.int p2), .val (.int p3), .val (.int li), .val (.int ui), .val (.int (Int32.ofNat kl)), .val (.int (Int32.ofNat ku)), .val (.ref a), .val (.ref b), .val v9, .val v10, .val v11, .val v12, .val (.ref r), .val vf, .val (.ref t1)] [(.ref a), (.ref t1)])) (fun t k => XS.aload X5.here hx rfl (hb hby at_201) rfl rfl k) ?_
    refine own_go (U' := T5.setTop (mkF m 206 #[.val (.int p1), .val (.int p2), .val (.int p3), .val (.int li), .val (.int ui), .val (.int (Int32.ofNat kl)), .val (.int (Int32.ofNat ku)), .val (.ref a), .val (.ref b), .val v9, .val v10, .val v11, .val v12, .val (.ref r), .val vf, .val (.ref t1)] [])) (fun t k => Jvm.RoadKit.acmp (g := (mkF m 203 #[.val (.int p1), .val (.int p2), .val (.int p3), .val (.int li), .val (.int ui), .val (.int (Int32.ofNat kl)), .val (.int (Int32.ofNat ku)), .val (.ref a), .val (.ref b), .val v9, .val v10, .val v11, .val v12, .val (.ref r), .val vf, .val (.ref t1)] [(.ref a), (.ref t1)])) X5 hx rfl rfl rfl (pc0 := 203) (pc' := 206) (same := false) rfl (hb hby at_203) rfl (decide_eq_false fun q => (fun q => P4'.ne la (congrArg Value.ref q)) (Value.ref.inj q)) (by decide) (by decide) k) ?_
    refine own_go (U' := T5.setTop (mkF m 208 #[.val (.int p1), .val (.int p2), .val (.int p3), .val (.int li), .val (.int ui), .val (.int (Int32.ofNat kl)), .val (.int (Int32.ofNat ku)), .val (.ref a), .val (.ref b), .val v9, .val v10, .val v11, .val v12, .val (.ref r), .val vf, .val (.ref t1)] [(.ref t1)])) (fun t k => XS.aload X5.here hx rfl (hb hby at_206) rfl rfl k) ?_
    refine own_go (U' := T5.setTop (mkF m 210 #[.val (.int p1), .val (.int p2), .val (.int p3), .val (.int li), .val (.int ui), .val (.int (Int32.ofNat kl)), .val (.int (Int32.ofNat ku)), .val (.ref a), .val (.ref b), .val v9, .val v10, .val v11, .val v12, .val (.ref r), .val vf, .val (.ref t1)] [(.ref b), (.ref t1)])) (fun t k => XS.aload X5.here hx rfl (hb hby at_208) rfl rfl k) ?_
    refine own_go (U' := T5.setTop (mkF m 215 #[.val (.int p1), .val (.int p2), .val (.int p3), .val (.int li), .val (.int ui), .val (.int (Int32.ofNat kl)), .val (.int (Int32.ofNat ku)), .val (.ref a), .val (.ref b), .val v9, .val v10, .val v11, .val v12, .val (.ref r), .val vf, .val (.ref t1)] [])) (fun t k => Jvm.RoadKit.acmp (g := (mkF m 210 #[.val (.int p1), .val (.int p2), .val (.int p3), .val (.int li), .val (.int ui), .val (.int (Int32.ofNat kl)), .val (.int (Int32.ofNat ku)), .val (.ref a), .val (.ref b), .val v9, .val v10, .val v11, .val v12, .val (.ref r), .val vf, .val (.ref t1)] [(.ref b), (.ref t1)])) X5 hx rfl rfl rfl (pc0 := 210) (pc' := 215) (same := false) rfl (hb hby at_210) rfl (decide_eq_false fun q => (fun q => P4'.ne lb (congrArg Value.ref q)) (Value.ref.inj q)) (by decide) (by decide) k) ?_
    refine own_go (U' := T5.setTop (mkF m 217 #[.val (.int p1), .val (.int p2), .val (.int p3), .val (.int li), .val (.int ui), .val (.int (Int32.ofNat kl)), .val (.int (Int32.ofNat ku)), .val (.ref a), .val (.ref b), .val v9, .val v10, .val v11, .val v12, .val (.ref r), .val vf, .val (.ref t1)] [(.ref a)])) (fun t k => XS.aload X5.here hx rfl (hb hby at_215) rfl rfl k) ?_
    refine own_go (U' := T5.setTop (mkF m 219 #[.val (.int p1), .val (.int p2), .val (.int p3), .val (.int li), .val (.int ui), .val (.int (Int32.ofNat kl)), .val (.int (Int32.ofNat ku)), .val (.ref a), .val (.ref b), .val v9, .val v10, .val v11, .val v12, .val (.ref r), .val vf, .val (.ref t1)] [(.int (Int32.ofNat kl)), (.ref a)])) (fun t k => XS.iload X5.here hx rfl (hb hby at_217) rfl k) ?_
    refine own_go (U' := T5.setTop (mkF m 220 #[.val (.int p1), .val (.int p2), .val (.int p3), .val (.int li), .val (.int ui), .val (.int (Int32.ofNat kl)), .val (.int (Int32.ofNat ku)), .val (.ref a), .val (.ref b), .val v9, .val v10, .val v11, .val v12, .val (.ref r), .val vf, .val (.ref t1)] [(.int p2), (.int (Int32.ofNat kl)), (.ref a)])) (fun t k => XS.iloadN X5.here hx rfl (hb hby at_219) rfl k) ?_
    obtain ⟨v10, T10, h10, L10, e10, X10, hQ10, st10⟩ := own_callS X5 hx hZ (y := (⟨"com/example/pagemark/pagemark/storage/KeyRangeBetweenPinLaw", "mk", "(II)[B"⟩ : MethodName)) hown (hw _ (List.mem_of_getElem? (i := 0) rfl)) (hw _ (List.mem_of_getElem? (i := 1) rfl)) (hw _ (List.mem_of_getElem? (i := 2) rfl)) (hw _ (List.mem_of_getElem? (i := 3) rfl)) (by decide) (own_rmmk l Z a0 hw kl p2 h1 n0 O hkl) (W := 1) (by decide) (by decide) (g := (mkF m 220 #[.val (.int p1), .val (.int p2), .val (.int p3), .val (.int li), .val (.int ui), .val (.int (Int32.ofNat kl)), .val (.int (Int32.ofNat ku)), .val (.ref a), .val (.ref b), .val v9, .val v10, .val v11, .val v12, .val (.ref r), .val vf, .val (.ref t1)] [(.int p2), (.int (Int32.ofNat kl)), (.ref a)])) rfl (by rw [hml]; rfl) (argsL := [(.int (Int32.ofNat kl)), (.int p2)]) (rest := [(.ref a)]) (lenOf own_pd3 rfl) rfl rfl (by show 2 * 0 + _ ≤ _; exact Nat.le_of_eq rfl) (hb hby at_220) e5 (by decide) (by decide)
    obtain ⟨x10, kx10, rfl, Nq, Kq, sz_x, g_x, Vx10, Ex10⟩ := hQ10
    have O := O.keep Kq all0
    have V_a := V_a.keep Kq nin0
    have E_a := E_a.keep Kq
    have V_b := V_b.keep Kq nin0
    have E_b := E_b.keep Kq
    have N10 := Fr.app N1 Nq
    refine own_go (U' := T10.setTop (mkF m 223 #[.val (.int p1), .val (.int p2), .val (.int p3), .val (.int li), .val (.int ui), .val (.int (Int32.ofNat kl)), .val (.int (Int32.ofNat ku)), .val (.ref a), .val (.ref b), .val v9, .val v10, .val v11, .val v12, .val (.ref r), .val vf, .val (.ref t1)] [(.ref x10), (.ref a)])) st10 ?_
    obtain ⟨v11, T11, h11, L11, e11, X11, hQ11, st11⟩ := own_callS X10 hx hZ (y := (⟨"com/example/pagemark/pagemark/storage/KeyRangeBetweenPinLaw", "same", "([B[B)Z"⟩ : MethodName)) hown (hw _ (List.mem_of_getElem? (i := 46) rfl)) (hw _ (List.mem_of_getElem? (i := 47) rfl)) (hw _ (List.mem_of_getElem? (i := 2) rfl)) (hw _ (List.mem_of_getElem? (i := 48) rfl)) (by decide) (own_rmsa l Z a0 hw a x10 h10 _ _ _ hb_a V_a Vx10) (W := 0) (by decide) (by decide) (g := (mkF m 223 #[.val (.int p1), .val (.int p2), .val (.int p3), .val (.int li), .val (.int ui), .val (.int (Int32.ofNat kl)), .val (.int (Int32.ofNat ku)), .val (.ref a), .val (.ref b), .val v9, .val v10, .val v11, .val v12, .val (.ref r), .val vf, .val (.ref t1)] [(.ref x10), (.ref a)])) rfl (by rw [hml]; rfl) (argsL := [(.ref a), (.ref x10)]) (rest := []) (lenOf own_pd6 rfl) rfl rfl (by show 2 * 0 + _ ≤ _; exact Nat.le_of_eq rfl) (hb hby at_223) e10 (by decide) (by decide)
    obtain ⟨rfl, rfl, eh11⟩ := hQ11
    have e11 := e11.trans eh11
    rw [List.append_nil] at X11
    refine own_go (U' := T11.setTop (mkF m 226 #[.val (.int p1), .val (.int p2), .val (.int p3), .val (.int li), .val (.int ui), .val (.int (Int32.ofNat kl)), .val (.int (Int32.ofNat ku)), .val (.ref a), .val (.ref b), .val v9, .val v10, .val v11, .val v12, .val (.ref r), .val vf, .val (.ref t1)] [(.int (1 : Int32))])) st11 ?_
    refine own_go (U' := T11.setTop (mkF m 231 #[.val (.int p1), .val (.int p2), .val (.int p3), .val (.int li), .val (.int ui), .val (.int (Int32.ofNat kl)), .val (.int (Int32.ofNat ku)), .val (.ref a), .val (.ref b), .val v9, .val v10, .val v11, .val v12, .val (.ref r), .val vf, .val (.ref t1)] [])) (fun t k => XS.ifYes X11.here hx rfl (pc0 := 226) (pc' := 231) rfl (hb hby at_226) rfl ((if0 _ _).trans (feq (by decide)).2) (by decide) (by decide) k) ?_
    refine own_go (U' := T11.setTop (mkF m 233 #[.val (.int p1), .val (.int p2), .val (.int p3), .val (.int li), .val (.int ui), .val (.int (Int32.ofNat kl)), .val (.int (Int32.ofNat ku)), .val (.ref a), .val (.ref b), .val v9, .val v10, .val v11, .val v12, .val (.ref r), .val vf, .val (.ref t1)] [(.ref b)])) (fun t k => XS.aload X11.here hx rfl (hb hby at_231) rfl rfl k) ?_
    refine own_go (U' := T11.setTop (mkF m 235 #[.val (.int p1), .val (.int p2), .val (.int p3), .val (.int li), .val (.int ui), .val (.int (Int32.ofNat kl)), .val (.int (Int32.ofNat ku)), .val (.ref a), .val (.ref b), .val v9, .val v10, .val v11, .val v12, .val (.ref r), .val vf, .val (.ref t1)] [(.int (Int32.ofNat ku)), (.ref b)])) (fun t k => XS.iload X11.here hx rfl (hb hby at_233) rfl k) ?_
    refine own_go (U' := T11.setTop (mkF m 236 #[.val (.int p1), .val (.int p2), .val (.int p3), .val (.int li), .val (.int ui), .val (.int (Int32.ofNat kl)), .val (.int (Int32.ofNat ku)), .val (.ref a), .val (.ref b), .val v9, .val v10, .val v11, .val v12, .val (.ref r), .val vf, .val (.ref t1)] [(.int p3), (.int (Int32.ofNat ku)), (.ref b)])) (fun t k => XS.iloadN X11.here hx rfl (hb hby at_235) rfl k) ?_
    obtain ⟨v12, T12, h12, L12, e12, X12, hQ12, st12⟩ := own_callS X11 hx hZ (y := (⟨"com/example/pagemark/pagemark/storage/KeyRangeBetweenPinLaw", "mk", "(II)[B"⟩ : MethodName)) hown (hw _ (List.mem_of_getElem? (i := 0) rfl)) (hw _ (List.mem_of_getElem? (i := 1) rfl)) (hw _ (List.mem_of_getElem? (i := 2) rfl)) (hw _ (List.mem_of_getElem? (i := 3) rfl)) (by decide) (own_rmmk l Z a0 hw ku p3 h10 n0 O hku) (W := 1) (by decide) (by decide) (g := (mkF m 236 #[.val (.int p1), .val (.int p2), .val (.int p3), .val (.int li), .val (.int ui), .val (.int (Int32.ofNat kl)), .val (.int (Int32.ofNat ku)), .val (.ref a), .val (.ref b), .val v9, .val v10, .val v11, .val v12, .val (.ref r), .val vf, .val (.ref t1)] [(.int p3), (.int (Int32.ofNat ku)), (.ref b)])) rfl (by rw [hml]; rfl) (argsL := [(.int (Int32.ofNat ku)), (.int p3)]) (rest := [(.ref b)]) (lenOf own_pd3 rfl) rfl rfl (by show 2 * 0 + _ ≤ _; exact Nat.le_of_eq rfl) (hb hby at_236) e11 (by decide) (by decide)
    obtain ⟨x12, kx12, rfl, Nq, Kq, sz_x, g_x, Vx12, Ex12⟩ := hQ12
    have O := O.keep Kq all0
    have V_a := V_a.keep Kq nin0
    have E_a := E_a.keep Kq
    have V_b := V_b.keep Kq nin0
    have E_b := E_b.keep Kq
    have N12 := Fr.app N10 Nq
    refine own_go (U' := T12.setTop (mkF m 239 #[.val (.int p1), .val (.int p2), .val (.int p3), .val (.int li), .val (.int ui), .val (.int (Int32.ofNat kl)), .val (.int (Int32.ofNat ku)), .val (.ref a), .val (.ref b), .val v9, .val v10, .val v11, .val v12, .val (.ref r), .val vf, .val (.ref t1)] [(.ref x12), (.ref b)])) st12 ?_
    obtain ⟨v13, T13, h13, L13, e13, X13, hQ13, st13⟩ := own_callS X12 hx hZ (y := (⟨"com/example/pagemark/pagemark/storage/KeyRangeBetweenPinLaw", "same", "([B[B)Z"⟩ : MethodName)) hown (hw _ (List.mem_of_getElem? (i := 46) rfl)) (hw _ (List.mem_of_getElem? (i := 47) rfl)) (hw _ (List.mem_of_getElem? (i := 2) rfl)) (hw _ (List.mem_of_getElem? (i := 48) rfl)) (by decide) (own_rmsa l Z a0 hw b x12 h12 _ _ _ hb_b V_b Vx12) (W := 0) (by decide) (by decide) (g := (mkF m 239 #[.val (.int p1), .val (.int p2), .val (.int p3), .val (.int li), .val (.int ui), .val (.int (Int32.ofNat kl)), .val (.int (Int32.ofNat ku)), .val (.ref a), .val (.ref b), .val v9, .val v10, .val v11, .val v12, .val (.ref r), .val vf, .val (.ref t1)] [(.ref x12), (.ref b)])) rfl (by rw [hml]; rfl) (argsL := [(.ref b), (.ref x12)]) (rest := []) (lenOf own_pd6 rfl) rfl rfl (by show 2 * 0 + _ ≤ _; exact Nat.le_of_eq rfl) (hb hby at_239) e12 (by decide) (by decide)
    obtain ⟨rfl, rfl, eh13⟩ := hQ13
    have e13 := e13.trans eh13
    rw [List.append_nil] at X13
    refine own_go (U' := T13.setTop (mkF m 242 #[.val (.int p1), .val (.int p2), .val (.int p3), .val (.int li), .val (.int ui), .val (.int (Int32.ofNat kl)), .val (.int (Int32.ofNat ku)), .val (.ref a), .val (.ref b), .val v9, .val v10, .val v11, .val v12, .val (.ref r), .val vf, .val (.ref t1)] [(.int (1 : Int32))])) st13 ?_
    refine own_retN X13 hx (t := .boolean) hret (by simp) hlk (hb hby at_242) ?_ (by decide) (by decide)
    exact ⟨rfl, N12⟩
theorem own_ef0 (m : MethodId) (p1 p2 p3 : Int32) : entryFrame m #[(.int p1), (.int p2), (.int p3)] maxLocals = mkF m 0 #[.val (.int p1), .val (.int p2), .val (.int p3), .unset, .unset, .unset, .unset, .unset, .unset, .unset, .unset, .unset, .unset, .unset, .unset, .unset] [] := by first | (simp [entryFrame, mkF, argsToLocals, Value.category, maxLocals]; done) | rfl
set_option maxRecDepth 65536 in
set_option maxHeartbeats 40000000 in
theorem own_rm0 (l : Launch) (Z : State) (a0 : Array Value) (hw : ∀ d ∈ tables_1, d.before a0 Z = true) (ws : List Jvm.Cond) (p1 p2 p3 : Int32) (h0 : Heap) (n0 : Nat) (O : Old Z n0 h0) :
    own_C l Z x code maxLocals ret ws room_1 #[(.int p1), (.int p2), (.int p3)] h0 (fun v h L => v = some (.int 1) ∧ Fr n0 L) := by
  refine own_body (plainFor_of_name own_pn2) fun p e s m below meth c s₁ hx hby hml hret hlk hown hnm hZ X0 e0 => ?_
  rw [own_ef0 m p1 p2 p3]
  have hml : c.maxLocals = 16 := hml
  have hret : meth.sig.returnType = some .boolean := hret
  have N0 := Fr.nil n0
  refine own_go (U' := s₁.setTop (mkF m 1 #[.val (.int p1), .val (.int p2), .val (.int p3), .unset, .unset, .unset, .unset, .unset, .unset, .unset, .unset, .unset, .unset, .unset, .unset, .unset] [(.int p1)])) (fun t k => XS.iloadN X0.here hx rfl (hb hby at_0) rfl k) ?_
  refine own_go (U' := s₁.setTop (mkF m 2 #[.val (.int p1), .val (.int p2), .val (.int p3), .unset, .unset, .unset, .unset, .unset, .unset, .unset, .unset, .unset, .unset, .unset, .unset, .unset] [(.int (1 : Int32)), (.int p1)])) (fun t k => XS.iconst X0.here hx rfl (hb hby at_1) k) ?_
  refine own_go (U' := s₁.setTop (mkF m 3 #[.val (.int p1), .val (.int p2), .val (.int p3), .unset, .unset, .unset, .unset, .unset, .unset, .unset, .unset, .unset, .unset, .unset, .unset, .unset] [(.int (p1 &&& (1 : Int32)))])) (fun t k => XS.iand X0.here hx rfl (hb hby at_2) rfl k) ?_
  refine own_go (U' := s₁.setTop (mkF m 11 #[.val (.int p1), .val (.int p2), .val (.int p3), .unset, .unset, .unset, .unset, .unset, .unset, .unset, .unset, .unset, .unset, .unset, .unset, .unset] [(.int (if (p1 &&& (1 : Int32)) = (0 : Int32) then (0 : Int32) else (1 : Int32)))])) (fun t k => ?_) ?_
  · show Steps p.tables e below (s₁.setTop (mkF m 3 #[.val (.int p1), .val (.int p2), .val (.int p3), .unset, .unset, .unset, .unset, .unset, .unset, .unset, .unset, .unset, .unset, .unset, .unset, .unset] [(.int (p1 &&& (1 : Int32)))])) _
    by_cases hd3 : (p1 &&& (1 : Int32)) = (0 : Int32)
    · simp only [if_pos hd3] at k
      refine XS.ifYes X0.here hx rfl (pc0 := 3) (pc' := 10) rfl (hb hby at_3) rfl ((if0 _ _).trans (teq hd3).1) (by decide) (by decide) ?_
      show Steps p.tables e below (s₁.setTop (mkF m 10 #[.val (.int p1), .val (.int p2), .val (.int p3), .unset, .unset, .unset, .unset, .unset, .unset, .unset, .unset, .unset, .unset, .unset, .unset, .unset] [])) _
      refine XS.iconst X0.here hx rfl (hb hby at_10) ?_
      show Steps p.tables e below (s₁.setTop (mkF m 11 #[.val (.int p1), .val (.int p2), .val (.int p3), .unset, .unset, .unset, .unset, .unset, .unset, .unset, .unset, .unset, .unset, .unset, .unset, .unset] [(.int (0 : Int32))])) _
      exact k
    · simp only [if_neg hd3] at k
      refine XS.ifNo X0.here hx rfl (hb hby at_3) rfl ((if0 _ _).trans (feq hd3).1) ?_
      show Steps p.tables e below (s₁.setTop (mkF m 6 #[.val (.int p1), .val (.int p2), .val (.int p3), .unset, .unset, .unset, .unset, .unset, .unset, .unset, .unset, .unset, .unset, .unset, .unset, .unset] [])) _
      refine XS.iconst X0.here hx rfl (hb hby at_6) ?_
      show Steps p.tables e below (s₁.setTop (mkF m 7 #[.val (.int p1), .val (.int p2), .val (.int p3), .unset, .unset, .unset, .unset, .unset, .unset, .unset, .unset, .unset, .unset, .unset, .unset, .unset] [(.int (1 : Int32))])) _
      refine XS.goto X0.here hx rfl (pc0 := 7) (pc' := 11) rfl (hb hby at_7) (by decide) (by decide) ?_
      show Steps p.tables e below (s₁.setTop (mkF m 11 #[.val (.int p1), .val (.int p2), .val (.int p3), .unset, .unset, .unset, .unset, .unset, .unset, .unset, .unset, .unset, .unset, .unset, .unset, .unset] [(.int (1 : Int32))])) _
      exact k
  generalize hv_li : (if (p1 &&& (1 : Int32)) = (0 : Int32) then (0 : Int32) else (1 : Int32)) = li
  refine own_go (U' := s₁.setTop (mkF m 12 #[.val (.int p1), .val (.int p2), .val (.int p3), .val (.int li), .unset, .unset, .unset, .unset, .unset, .unset, .unset, .unset, .unset, .unset, .unset, .unset] [])) (fun t k => XS.istoreN X0.here hx rfl (hb hby at_11) rfl (l' := #[.val (.int p1), .val (.int p2), .val (.int p3), .val (.int li), .unset, .unset, .unset, .unset, .unset, .unset, .unset, .unset, .unset, .unset, .unset, .unset]) rfl k) ?_
  refine own_go (U' := s₁.setTop (mkF m 13 #[.val (.int p1), .val (.int p2), .val (.int p3), .val (.int li), .unset, .unset, .unset, .unset, .unset, .unset, .unset, .unset, .unset, .unset, .unset, .unset] [(.int p1)])) (fun t k => XS.iloadN X0.here hx rfl (hb hby at_12) rfl k) ?_
  refine own_go (U' := s₁.setTop (mkF m 14 #[.val (.int p1), .val (.int p2), .val (.int p3), .val (.int li), .unset, .unset, .unset, .unset, .unset, .unset, .unset, .unset, .unset, .unset, .unset, .unset] [(.int (2 : Int32)), (.int p1)])) (fun t k => XS.iconst X0.here hx rfl (hb hby at_13) k) ?_
  refine own_go (U' := s₁.setTop (mkF m 15 #[.val (.int p1), .val (.int p2), .val (.int p3), .val (.int li), .unset, .unset, .unset, .unset, .unset, .unset, .unset, .unset, .unset, .unset, .unset, .unset] [(.int (p1 &&& (2 : Int32)))])) (fun t k => XS.iand X0.here hx rfl (hb hby at_14) rfl k) ?_
  refine own_go (U' := s₁.setTop (mkF m 23 #[.val (.int p1), .val (.int p2), .val (.int p3), .val (.int li), .unset, .unset, .unset, .unset, .unset, .unset, .unset, .unset, .unset, .unset, .unset, .unset] [(.int (if (p1 &&& (2 : Int32)) = (0 : Int32) then (0 : Int32) else (1 : Int32)))])) (fun t k => ?_) ?_
  · show Steps p.tables e below (s₁.setTop (mkF m 15 #[.val (.int p1), .val (.int p2), .val (.int p3), .val (.int li), .unset, .unset, .unset, .unset, .unset, .unset, .unset, .unset, .unset, .unset, .unset, .unset] [(.int (p1 &&& (2 : Int32)))])) _
    by_cases hd15 : (p1 &&& (2 : Int32)) = (0 : Int32)
    · simp only [if_pos hd15] at k
      refine XS.ifYes X0.here hx rfl (pc0 := 15) (pc' := 22) rfl (hb hby at_15) rfl ((if0 _ _).trans (teq hd15).1) (by decide) (by decide) ?_
      show Steps p.tables e below (s₁.setTop (mkF m 22 #[.val (.int p1), .val (.int p2), .val (.int p3), .val (.int li), .unset, .unset, .unset, .unset, .unset, .unset, .unset, .unset, .unset, .unset, .unset, .unset] [])) _
      refine XS.iconst X0.here hx rfl (hb hby at_22) ?_
      show Steps p.tables e below (s₁.setTop (mkF m 23 #[.val (.int p1), .val (.int p2), .val (.int p3), .val (.int li), .unset, .unset, .unset, .unset, .unset, .unset, .unset, .unset, .unset, .unset, .unset, .unset] [(.int (0 : Int32))])) _
      exact k
    · simp only [if_neg hd15] at k
      refine XS.ifNo X0.here hx rfl (hb hby at_15) rfl ((if0 _ _).trans (feq hd15).1) ?_
      show Steps p.tables e below (s₁.setTop (mkF m 18 #[.val (.int p1), .val (.int p2), .val (.int p3), .val (.int li), .unset, .unset, .unset, .unset, .unset, .unset, .unset, .unset, .unset, .unset, .unset, .unset] [])) _
      refine XS.iconst X0.here hx rfl (hb hby at_18) ?_
      show Steps p.tables e below (s₁.setTop (mkF m 19 #[.val (.int p1), .val (.int p2), .val (.int p3), .val (.int li), .unset, .unset, .unset, .unset, .unset, .unset, .unset, .unset, .unset, .unset, .unset, .unset] [(.int (1 : Int32))])) _
      refine XS.goto X0.here hx rfl (pc0 := 19) (pc' := 23) rfl (hb hby at_19) (by decide) (by decide) ?_
      show Steps p.tables e below (s₁.setTop (mkF m 23 #[.val (.int p1), .val (.int p2), .val (.int p3), .val (.int li), .unset, .unset, .unset, .unset, .unset, .unset, .unset, .unset, .unset, .unset, .unset, .unset] [(.int (1 : Int32))])) _
      exact k
  generalize hv_ui : (if (p1 &&& (2 : Int32)) = (0 : Int32) then (0 : Int32) else (1 : Int32)) = ui
  refine own_go (U' := s₁.setTop (mkF m 25 #[.val (.int p1), .val (.int p2), .val (.int p3), .val (.int li), .val (.int ui), .unset, .unset, .unset, .unset, .unset, .unset, .unset, .unset, .unset, .unset, .unset] [])) (fun t k => XS.istore X0.here hx rfl (hb hby at_23) rfl (l' := #[.val (.int p1), .val (.int p2), .val (.int p3), .val (.int li), .val (.int ui), .unset, .unset, .unset, .unset, .unset, .unset, .unset, .unset, .unset, .unset, .unset]) rfl k) ?_
  refine own_go (U' := s₁.setTop (mkF m 26 #[.val (.int p1), .val (.int p2), .val (.int p3), .val (.int li), .val (.int ui), .unset, .unset, .unset, .unset, .unset, .unset, .unset, .unset, .unset, .unset, .unset] [(.int p1)])) (fun t k => XS.iloadN X0.here hx rfl (hb hby at_25) rfl k) ?_
  refine own_go (U' := s₁.setTop (mkF m 27 #[.val (.int p1), .val (.int p2), .val (.int p3), .val (.int li), .val (.int ui), .unset, .unset, .unset, .unset, .unset, .unset, .unset, .unset, .unset, .unset, .unset] [(.int (2 : Int32)), (.int p1)])) (fun t k => XS.iconst X0.here hx rfl (hb hby at_26) k) ?_
  refine own_go (U' := s₁.setTop (mkF m 28 #[.val (.int p1), .val (.int p2), .val (.int p3), .val (.int li), .val (.int ui), .unset, .unset, .unset, .unset, .unset, .unset, .unset, .unset, .unset, .unset, .unset] [(.int ((p1.toUInt32 >>> ((2 : Int32) &&& 31).toUInt32).toInt32))])) (fun t k => XS.iushr X0.here hx rfl (hb hby at_27) rfl k) ?_
  refine own_go (U' := s₁.setTop (mkF m 29 #[.val (.int p1), .val (.int p2), .val (.int p3), .val (.int li), .val (.int ui), .unset, .unset, .unset, .unset, .unset, .unset, .unset, .unset, .unset, .unset, .unset] [(.int (3 : Int32)), (.int ((p1.toUInt32 >>> ((2 : Int32) &&& 31).toUInt32).toInt32))])) (fun t k => XS.iconst X0.here hx rfl (hb hby at_28) k) ?_
  refine own_go (U' := s₁.setTop (mkF m 30 #[.val (.int p1), .val (.int p2), .val (.int p3), .val (.int li), .val (.int ui), .unset, .unset, .unset, .unset, .unset, .unset, .unset, .unset, .unset, .unset, .unset] [(.int (((p1.toUInt32 >>> ((2 : Int32) &&& 31).toUInt32).toInt32) &&& (3 : Int32)))])) (fun t k => XS.iand X0.here hx rfl (hb hby at_29) rfl k) ?_
  obtain ⟨kl, hkl, ekl⟩ := own_three ((p1.toUInt32 >>> ((2 : Int32) &&& 31).toUInt32).toInt32)
  rw [ekl]
  refine own_go (U' := s₁.setTop (mkF m 32 #[.val (.int p1), .val (.int p2), .val (.int p3), .val (.int li), .val (.int ui), .val (.int (Int32.ofNat kl)), .unset, .unset, .unset, .unset, .unset, .unset, .unset, .unset, .unset, .unset] [])) (fun t k => XS.istore X0.here hx rfl (hb hby at_30) rfl (l' := #[.val (.int p1), .val (.int p2), .val (.int p3), .val (.int li), .val (.int ui), .val (.int (Int32.ofNat kl)), .unset, .unset, .unset, .unset, .unset, .unset, .unset, .unset, .unset, .unset]) rfl k) ?_
  refine own_go (U' := s₁.setTop (mkF m 33 #[.val (.int p1), .val (.int p2), .val (.int p3), .val (.int li), .val (.int ui), .val (.int (Int32.ofNat kl)), .unset, .unset, .unset, .unset, .unset, .unset, .unset, .unset, .unset, .unset] [(.int p1)])) (fun t k => XS.iloadN X0.here hx rfl (hb hby at_32) rfl k) ?_
  refine own_go (U' := s₁.setTop (mkF m 34 #[.val (.int p1), .val (.int p2), .val (.int p3), .val (.int li), .val (.int ui), .val (.int (Int32.ofNat kl)), .unset, .unset, .unset, .unset, .unset, .unset, .unset, .unset, .unset, .unset] [(.int (4 : Int32)), (.int p1)])) (fun t k => XS.iconst X0.here hx rfl (hb hby at_33) k) ?_
  refine own_go (U' := s₁.setTop (mkF m 35 #[.val (.int p1), .val (.int p2), .val (.int p3), .val (.int li), .val (.int ui), .val (.int (Int32.ofNat kl)), .unset, .unset, .unset, .unset, .unset, .unset, .unset, .unset, .unset, .unset] [(.int ((p1.toUInt32 >>> ((4 : Int32) &&& 31).toUInt32).toInt32))])) (fun t k => XS.iushr X0.here hx rfl (hb hby at_34) rfl k) ?_
  refine own_go (U' := s₁.setTop (mkF m 36 #[.val (.int p1), .val (.int p2), .val (.int p3), .val (.int li), .val (.int ui), .val (.int (Int32.ofNat kl)), .unset, .unset, .unset, .unset, .unset, .unset, .unset, .unset, .unset, .unset] [(.int (3 : Int32)), (.int ((p1.toUInt32 >>> ((4 : Int32) &&& 31).toUInt32).toInt32))])) (fun t k => XS.iconst X0.here hx rfl (hb hby at_35) k) ?_
  refine own_go (U' := s₁.setTop (mkF m 37 #[.val (.int p1), .val (.int p2), .val (.int p3), .val (.int li), .val (.int ui), .val (.int (Int32.ofNat kl)), .unset, .unset, .unset, .unset, .unset, .unset, .unset, .unset, .unset, .unset] [(.int (((p1.toUInt32 >>> ((4 : Int32) &&& 31).toUInt32).toInt32) &&& (3 : Int32)))])) (fun t k => XS.iand X0.here hx rfl (hb hby at_36) rfl k) ?_
  obtain ⟨ku, hku, eku⟩ := own_three ((p1.toUInt32 >>> ((4 : Int32) &&& 31).toUInt32).toInt32)
  rw [eku]
  refine own_go (U' := s₁.setTop (mkF m 39 #[.val (.int p1), .val (.int p2), .val (.int p3), .val (.int li), .val (.int ui), .val (.int (Int32.ofNat kl)), .val (.int (Int32.ofNat ku)), .unset, .unset, .unset, .unset, .unset, .unset, .unset, .unset, .unset] [])) (fun t k => XS.istore X0.here hx rfl (hb hby at_37) rfl (l' := #[.val (.int p1), .val (.int p2), .val (.int p3), .val (.int li), .val (.int ui), .val (.int (Int32.ofNat kl)), .val (.int (Int32.ofNat ku)), .unset, .unset, .unset, .unset, .unset, .unset, .unset, .unset, .unset]) rfl k) ?_
  refine own_go (U' := s₁.setTop (mkF m 41 #[.val (.int p1), .val (.int p2), .val (.int p3), .val (.int li), .val (.int ui), .val (.int (Int32.ofNat kl)), .val (.int (Int32.ofNat ku)), .unset, .unset, .unset, .unset, .unset, .unset, .unset, .unset, .unset] [(.int (Int32.ofNat kl))])) (fun t k => XS.iload X0.here hx rfl (hb hby at_39) rfl k) ?_
  refine own_go (U' := s₁.setTop (mkF m 42 #[.val (.int p1), .val (.int p2), .val (.int p3), .val (.int li), .val (.int ui), .val (.int (Int32.ofNat kl)), .val (.int (Int32.ofNat ku)), .unset, .unset, .unset, .unset, .unset, .unset, .unset, .unset, .unset] [(.int p2), (.int (Int32.ofNat kl))])) (fun t k => XS.iloadN X0.here hx rfl (hb hby at_41) rfl k) ?_
  have hb_a := own_mk_len kl p2
  have h8_a := own_mk_8 kl p2
  have hb_b := own_mk_len ku p3
  have h8_b := own_mk_8 ku p3
  obtain ⟨v1, T1, h1, L1, e1, X1, hQ1, st1⟩ := own_callS X0 hx hZ (y := (⟨"com/example/pagemark/pagemark/storage/KeyRangeBetweenPinLaw", "mk", "(II)[B"⟩ : MethodName)) hown (hw _ (List.mem_of_getElem? (i := 0) rfl)) (hw _ (List.mem_of_getElem? (i := 1) rfl)) (hw _ (List.mem_of_getElem? (i := 2) rfl)) (hw _ (List.mem_of_getElem? (i := 3) rfl)) (by decide) (own_rmmk l Z a0 hw kl p2 h0 n0 O hkl) (W := 0) (by decide) (by decide) (g := (mkF m 42 #[.val (.int p1), .val (.int p2), .val (.int p3), .val (.int li), .val (.int ui), .val (.int (Int32.ofNat kl)), .val (.int (Int32.ofNat ku)), .unset, .unset, .unset, .unset, .unset, .unset, .unset, .unset, .unset] [(.int p2), (.int (Int32.ofNat kl))])) rfl (by rw [hml]; rfl) (argsL := [(.int (Int32.ofNat kl)), (.int p2)]) (rest := []) (lenOf own_pd3 rfl) rfl rfl (by show 2 * 0 + _ ≤ _; exact Nat.le_of_eq rfl) (hb hby at_42) e0 (by decide) (by decide)
  obtain ⟨a, ka, rfl, Nq, Kq, sz_a, g_a, V_a, E_a⟩ := hQ1
  have O := O.keep Kq all0
  have N1 := Fr.app N0 Nq
  refine own_go (U' := T1.setTop (mkF m 45 #[.val (.int p1), .val (.int p2), .val (.int p3), .val (.int li), .val (.int ui), .val (.int (Int32.ofNat kl)), .val (.int (Int32.ofNat ku)), .unset, .unset, .unset, .unset, .unset, .unset, .unset, .unset, .unset] [(.ref a)])) st1 ?_
  refine own_go (U' := T1.setTop (mkF m 47 #[.val (.int p1), .val (.int p2), .val (.int p3), .val (.int li), .val (.int ui), .val (.int (Int32.ofNat kl)), .val (.int (Int32.ofNat ku)), .val (.ref a), .unset, .unset, .unset, .unset, .unset, .unset, .unset, .unset] [])) (fun t k => XS.astore X1.here hx rfl (hb hby at_45) rfl rfl (l' := #[.val (.int p1), .val (.int p2), .val (.int p3), .val (.int li), .val (.int ui), .val (.int (Int32.ofNat kl)), .val (.int (Int32.ofNat ku)), .val (.ref a), .unset, .unset, .unset, .unset, .unset, .unset, .unset, .unset]) rfl k) ?_
  refine own_go (U' := T1.setTop (mkF m 49 #[.val (.int p1), .val (.int p2), .val (.int p3), .val (.int li), .val (.int ui), .val (.int (Int32.ofNat kl)), .val (.int (Int32.ofNat ku)), .val (.ref a), .unset, .unset, .unset, .unset, .unset, .unset, .unset, .unset] [(.int (Int32.ofNat ku))])) (fun t k => XS.iload X1.here hx rfl (hb hby at_47) rfl k) ?_
  refine own_go (U' := T1.setTop (mkF m 50 #[.val (.int p1), .val (.int p2), .val (.int p3), .val (.int li), .val (.int ui), .val (.int (Int32.ofNat kl)), .val (.int (Int32.ofNat ku)), .val (.ref a), .unset, .unset, .unset, .unset, .unset, .unset, .unset, .unset] [(.int p3), (.int (Int32.ofNat ku))])) (fun t k => XS.iloadN X1.here hx rfl (hb hby at_49) rfl k) ?_
  obtain ⟨v2, T2, h2, L2, e2, X2, hQ2, st2⟩ := own_callS X1 hx hZ (y := (⟨"com/example/pagemark/pagemark/storage/KeyRangeBetweenPinLaw", "mk", "(II)[B"⟩ : MethodName)) hown (hw _ (List.mem_of_getElem? (i := 0) rfl)) (hw _ (List.mem_of_getElem? (i := 1) rfl)) (hw _ (List.mem_of_getElem? (i := 2) rfl)) (hw _ (List.mem_of_getElem? (i := 3) rfl)) (by decide) (own_rmmk l Z a0 hw ku p3 h1 n0 O hku) (W := 0) (by decide) (by decide) (g := (mkF m 50 #[.val (.int p1), .val (.int p2), .val (.int p3), .val (.int li), .val (.int ui), .val (.int (Int32.ofNat kl)), .val (.int (Int32.ofNat ku)), .val (.ref a), .unset, .unset, .unset, .unset, .unset, .unset, .unset, .unset] [(.int p3), (.int (Int32.ofNat ku))])) rfl (by rw [hml]; rfl) (argsL := [(.int (Int32.ofNat ku)), (.int p3)]) (rest := []) (lenOf own_pd3 rfl) rfl rfl (by show 2 * 0 + _ ≤ _; exact Nat.le_of_eq rfl) (hb hby at_50) e1 (by decide) (by decide)
  obtain ⟨b, kb, rfl, Nq, Kq, sz_b, g_b, V_b, E_b⟩ := hQ2
  have O := O.keep Kq all0
  have V_a := V_a.keep Kq nin0
  have E_a := E_a.keep Kq
  have N2 := Fr.app N1 Nq
  refine own_go (U' := T2.setTop (mkF m 53 #[.val (.int p1), .val (.int p2), .val (.int p3), .val (.int li), .val (.int ui), .val (.int (Int32.ofNat kl)), .val (.int (Int32.ofNat ku)), .val (.ref a), .unset, .unset, .unset, .unset, .unset, .unset, .unset, .unset] [(.ref b)])) st2 ?_
  refine own_go (U' := T2.setTop (mkF m 55 #[.val (.int p1), .val (.int p2), .val (.int p3), .val (.int li), .val (.int ui), .val (.int (Int32.ofNat kl)), .val (.int (Int32.ofNat ku)), .val (.ref a), .val (.ref b), .unset, .unset, .unset, .unset, .unset, .unset, .unset] [])) (fun t k => XS.astore X2.here hx rfl (hb hby at_53) rfl rfl (l' := #[.val (.int p1), .val (.int p2), .val (.int p3), .val (.int li), .val (.int ui), .val (.int (Int32.ofNat kl)), .val (.int (Int32.ofNat ku)), .val (.ref a), .val (.ref b), .unset, .unset, .unset, .unset, .unset, .unset, .unset]) rfl k) ?_
  refine own_go (U' := T2.setTop (mkF m 56 #[.val (.int p1), .val (.int p2), .val (.int p3), .val (.int li), .val (.int ui), .val (.int (Int32.ofNat kl)), .val (.int (Int32.ofNat ku)), .val (.ref a), .val (.ref b), .unset, .unset, .unset, .unset, .unset, .unset, .unset] [(.int li)])) (fun t k => XS.iloadN X2.here hx rfl (hb hby at_55) rfl k) ?_
  by_cases hli : li = (0 : Int32)
  · refine own_go (U' := T2.setTop (mkF m 68 #[.val (.int p1), .val (.int p2), .val (.int p3), .val (.int li), .val (.int ui), .val (.int (Int32.ofNat kl)), .val (.int (Int32.ofNat ku)), .val (.ref a), .val (.ref b), .unset, .unset, .unset, .unset, .unset, .unset, .unset] [])) (fun t k => XS.ifYes X2.here hx rfl (pc0 := 56) (pc' := 68) rfl (hb hby at_56) rfl ((if0 _ _).trans (teq hli).1) (by decide) (by decide) k) ?_
    refine own_go (U' := T2.setTop (mkF m 70 #[.val (.int p1), .val (.int p2), .val (.int p3), .val (.int li), .val (.int ui), .val (.int (Int32.ofNat kl)), .val (.int (Int32.ofNat ku)), .val (.ref a), .val (.ref b), .unset, .unset, .unset, .unset, .unset, .unset, .unset] [(.ref a)])) (fun t k => XS.aload X2.here hx rfl (hb hby at_68) rfl rfl k) ?_
    obtain ⟨v3, T3, h3, L3, e3, X3, hQ3, st3⟩ := own_callS X2 hx hZ (y := (⟨"com/example/pagemark/pagemark/storage/KeyRangeBetweenPinLaw", "eop", "([B)[B"⟩ : MethodName)) hown (hw _ (List.mem_of_getElem? (i := 5) rfl)) (hw _ (List.mem_of_getElem? (i := 6) rfl)) (hw _ (List.mem_of_getElem? (i := 2) rfl)) (hw _ (List.mem_of_getElem? (i := 7) rfl)) (by decide) (own_rmle l Z a0 hw a h2 n0 (own_mk kl p2) ka hb_a h8_a O V_a E_a) (W := 0) (by decide) (by decide) (g := (mkF m 70 #[.val (.int p1), .val (.int p2), .val (.int p3), .val (.int li), .val (.int ui), .val (.int (Int32.ofNat kl)), .val (.int (Int32.ofNat ku)), .val (.ref a), .val (.ref b), .unset, .unset, .unset, .unset, .unset, .unset, .unset] [(.ref a)])) rfl (by rw [hml]; rfl) (argsL := [(.ref a)]) (rest := []) (lenOf own_pd2 rfl) rfl rfl (by show 2 * 0 + _ ≤ _; exact Nat.le_of_eq rfl) (hb hby at_70) e2 (by decide) (by decide)
    obtain ⟨v1, rfl, Nq, Kq, P1⟩ := hQ3.oa
    have P1 := P1.mono (Nat.zero_le _)
    have O := O.keep Kq all0
    have V_a := V_a.keep Kq nin0
    have E_a := E_a.keep Kq
    have V_b := V_b.keep Kq nin0
    have E_b := E_b.keep Kq
    have hv1 := P1.isRef
    have N3 := Fr.app N2 Nq
    refine own_go (U' := T3.setTop (mkF m 73 #[.val (.int p1), .val (.int p2), .val (.int p3), .val (.int li), .val (.int ui), .val (.int (Int32.ofNat kl)), .val (.int (Int32.ofNat ku)), .val (.ref a), .val (.ref b), .unset, .unset, .unset, .unset, .unset, .unset, .unset] [v1])) st3 ?_
    have hf : own_first li (own_mk kl p2) = own_eop (own_mk kl p2) (own_mk kl p2).length := if_pos hli
    refine own_go (U' := T3.setTop (mkF m 75 #[.val (.int p1), .val (.int p2), .val (.int p3), .val (.int li), .val (.int ui), .val (.int (Int32.ofNat kl)), .val (.int (Int32.ofNat ku)), .val (.ref a), .val (.ref b), .val v1, .unset, .unset, .unset, .unset, .unset, .unset] [])) (fun t k => XS.astore X3.here hx rfl (hb hby at_73) rfl hv1 (l' := #[.val (.int p1), .val (.int p2), .val (.int p3), .val (.int li), .val (.int ui), .val (.int (Int32.ofNat kl)), .val (.int (Int32.ofNat ku)), .val (.ref a), .val (.ref b), .val v1, .unset, .unset, .unset, .unset, .unset, .unset]) (XS.store1 (o := .unset) rfl (Or.inl rfl) (own_catR hv1)) k) ?_
    refine own_go (U' := T3.setTop (mkF m 77 #[.val (.int p1), .val (.int p2), .val (.int p3), .val (.int li), .val (.int ui), .val (.int (Int32.ofNat kl)), .val (.int (Int32.ofNat ku)), .val (.ref a), .val (.ref b), .val v1, .unset, .unset, .unset, .unset, .unset, .unset] [(.int ui)])) (fun t k => XS.iload X3.here hx rfl (hb hby at_75) rfl k) ?_
    by_cases hui : ui = (0 : Int32)
    · refine own_go (U' := T3.setTop (mkF m 88 #[.val (.int p1), .val (.int p2), .val (.int p3), .val (.int li), .val (.int ui), .val (.int (Int32.ofNat kl)), .val (.int (Int32.ofNat ku)), .val (.ref a), .val (.ref b), .val v1, .unset, .unset, .unset, .unset, .unset, .unset] [])) (fun t k => XS.ifYes X3.here hx rfl (pc0 := 77) (pc' := 88) rfl (hb hby at_77) rfl ((if0 _ _).trans (teq hui).1) (by decide) (by decide) k) ?_
      refine own_go (U' := T3.setTop (mkF m 90 #[.val (.int p1), .val (.int p2), .val (.int p3), .val (.int li), .val (.int ui), .val (.int (Int32.ofNat kl)), .val (.int (Int32.ofNat ku)), .val (.ref a), .val (.ref b), .val v1, .unset, .unset, .unset, .unset, .unset, .unset] [(.int (Int32.ofNat ku))])) (fun t k => XS.iload X3.here hx rfl (hb hby at_88) rfl k) ?_
      refine own_go (U' := T3.setTop (mkF m 91 #[.val (.int p1), .val (.int p2), .val (.int p3), .val (.int li), .val (.int ui), .val (.int (Int32.ofNat kl)), .val (.int (Int32.ofNat ku)), .val (.ref a), .val (.ref b), .val v1, .unset, .unset, .unset, .unset, .unset, .unset] [(.int p3), (.int (Int32.ofNat ku))])) (fun t k => XS.iloadN X3.here hx rfl (hb hby at_90) rfl k) ?_
      obtain ⟨v4, T4, h4, L4, e4, X4, hQ4, st4⟩ := own_callS X3 hx hZ (y := (⟨"com/example/pagemark/pagemark/storage/KeyRangeBetweenPinLaw", "mk", "(II)[B"⟩ : MethodName)) hown (hw _ (List.mem_of_getElem? (i := 0) rfl)) (hw _ (List.mem_of_getElem? (i := 1) rfl)) (hw _ (List.mem_of_getElem? (i := 2) rfl)) (hw _ (List.mem_of_getElem? (i := 3) rfl)) (by decide) (own_rmmk l Z a0 hw ku p3 h3 n0 O hku) (W := 0) (by decide) (by decide) (g := (mkF m 91 #[.val (.int p1), .val (.int p2), .val (.int p3), .val (.int li), .val (.int ui), .val (.int (Int32.ofNat kl)), .val (.int (Int32.ofNat ku)), .val (.ref a), .val (.ref b), .val v1, .unset, .unset, .unset, .unset, .unset, .unset] [(.int p3), (.int (Int32.ofNat ku))])) rfl (by rw [hml]; rfl) (argsL := [(.int (Int32.ofNat ku)), (.int p3)]) (rest := []) (lenOf own_pd3 rfl) rfl rfl (by show 2 * 0 + _ ≤ _; exact Nat.le_of_eq rfl) (hb hby at_91) e3 (by decide) (by decide)
      obtain ⟨d, kd, rfl, Nq, Kq, sz_d, g_d, V_d, E_d⟩ := hQ4
      have P1 := P1.keep Kq
      have O := O.keep Kq all0
      have V_a := V_a.keep Kq nin0
      have E_a := E_a.keep Kq
      have V_b := V_b.keep Kq nin0
      have E_b := E_b.keep Kq
      have N4 := Fr.app N3 Nq
      have P2 : own_OA Z 0 h4 (some (own_mk ku p3)) (.ref d) := ⟨_, _, rfl, Nat.zero_le _, V_d, E_d⟩
      refine own_go (U' := T4.setTop (mkF m 94 #[.val (.int p1), .val (.int p2), .val (.int p3), .val (.int li), .val (.int ui), .val (.int (Int32.ofNat kl)), .val (.int (Int32.ofNat ku)), .val (.ref a), .val (.ref b), .val v1, .unset, .unset, .unset, .unset, .unset, .unset] [(.ref d)])) st4 ?_
      have hn : own_end ui (own_mk ku p3) = some (own_mk ku p3) := if_pos hui
      refine own_go (U' := T4.setTop (mkF m 96 #[.val (.int p1), .val (.int p2), .val (.int p3), .val (.int li), .val (.int ui), .val (.int (Int32.ofNat kl)), .val (.int (Int32.ofNat ku)), .val (.ref a), .val (.ref b), .val v1, .val (.ref d), .unset, .unset, .unset, .unset, .unset] [])) (fun t k => XS.astore X4.here hx rfl (hb hby at_94) rfl rfl (l' := #[.val (.int p1), .val (.int p2), .val (.int p3), .val (.int li), .val (.int ui), .val (.int (Int32.ofNat kl)), .val (.int (Int32.ofNat ku)), .val (.ref a), .val (.ref b), .val v1, .val (.ref d), .unset, .unset, .unset, .unset, .unset]) (XS.store1 (o := .unset) rfl (Or.inl rfl) (own_catR rfl)) k) ?_
      refine own_go (U' := T4.setTop (mkF m 98 #[.val (.int p1), .val (.int p2), .val (.int p3), .val (.int li), .val (.int ui), .val (.int (Int32.ofNat kl)), .val (.int (Int32.ofNat ku)), .val (.ref a), .val (.ref b), .val v1, .val (.ref d), .unset, .unset, .unset, .unset, .unset] [v1])) (fun t k => XS.aload X4.here hx rfl (hb hby at_96) rfl hv1 k) ?_
      cases ho : own_eop (own_mk kl p2) (own_mk kl p2).length with
      | none =>
        rw [ho] at P1 hf
        obtain rfl : v1 = .null := P1
        refine own_go (U' := T4.setTop (mkF m 101 #[.val (.int p1), .val (.int p2), .val (.int p3), .val (.int li), .val (.int ui), .val (.int (Int32.ofNat kl)), .val (.int (Int32.ofNat ku)), .val (.ref a), .val (.ref b), .val .null, .val (.ref d), .unset, .unset, .unset, .unset, .unset] [])) (fun t k => XS.ifnonnullNo X4.here hx rfl (hb hby at_98) rfl k) ?_
        refine own_go (U' := T4.setTop (mkF m 103 #[.val (.int p1), .val (.int p2), .val (.int p3), .val (.int li), .val (.int ui), .val (.int (Int32.ofNat kl)), .val (.int (Int32.ofNat ku)), .val (.ref a), .val (.ref b), .val .null, .val (.ref d), .unset, .unset, .unset, .unset, .unset] [(.int (Int32.ofNat kl))])) (fun t k => XS.iload X4.here hx rfl (hb hby at_101) rfl k) ?_
        refine own_go (U' := T4.setTop (mkF m 104 #[.val (.int p1), .val (.int p2), .val (.int p3), .val (.int li), .val (.int ui), .val (.int (Int32.ofNat kl)), .val (.int (Int32.ofNat ku)), .val (.ref a), .val (.ref b), .val .null, .val (.ref d), .unset, .unset, .unset, .unset, .unset] [(.int p2), (.int (Int32.ofNat kl))])) (fun t k => XS.iloadN X4.here hx rfl (hb hby at_103) rfl k) ?_
        obtain ⟨v5, T5, h5, L5, e5, X5, hQ5, st5⟩ := own_callS X4 hx hZ (y := (⟨"com/example/pagemark/pagemark/storage/KeyRangeBetweenPinLaw", "mk", "(II)[B"⟩ : MethodName)) hown (hw _ (List.mem_of_getElem? (i := 0) rfl)) (hw _ (List.mem_of_getElem? (i := 1) rfl)) (hw _ (List.mem_of_getElem? (i := 2) rfl)) (hw _ (List.mem_of_getElem? (i := 3) rfl)) (by decide) (own_rmmk l Z a0 hw kl p2 h4 n0 O hkl) (W := 0) (by decide) (by decide) (g := (mkF m 104 #[.val (.int p1), .val (.int p2), .val (.int p3), .val (.int li), .val (.int ui), .val (.int (Int32.ofNat kl)), .val (.int (Int32.ofNat ku)), .val (.ref a), .val (.ref b), .val .null, .val (.ref d), .unset, .unset, .unset, .unset, .unset] [(.int p2), (.int (Int32.ofNat kl))])) rfl (by rw [hml]; rfl) (argsL := [(.int (Int32.ofNat kl)), (.int p2)]) (rest := []) (lenOf own_pd3 rfl) rfl rfl (by show 2 * 0 + _ ≤ _; exact Nat.le_of_eq rfl) (hb hby at_104) e4 (by decide) (by decide)
        obtain ⟨e1, ke1, rfl, Nq, Kq, sz_e1, g_e1, V_e1, E_e1⟩ := hQ5
        have O := O.keep Kq all0
        have V_a := V_a.keep Kq nin0
        have E_a := E_a.keep Kq
        have V_b := V_b.keep Kq nin0
        have E_b := E_b.keep Kq
        have N5 := Fr.app N4 Nq
        have P3 : own_OA Z 0 h5 (some (own_mk kl p2)) (.ref e1) := ⟨_, _, rfl, Nat.zero_le _, V_e1, E_e1⟩
        refine own_go (U' := T5.setTop (mkF m 107 #[.val (.int p1), .val (.int p2), .val (.int p3), .val (.int li), .val (.int ui), .val (.int (Int32.ofNat kl)), .val (.int (Int32.ofNat ku)), .val (.ref a), .val (.ref b), .val .null, .val (.ref d), .unset, .unset, .unset, .unset, .unset] [(.ref e1)])) st5 ?_
        refine own_go (U' := T5.setTop (mkF m 109 #[.val (.int p1), .val (.int p2), .val (.int p3), .val (.int li), .val (.int ui), .val (.int (Int32.ofNat kl)), .val (.int (Int32.ofNat ku)), .val (.ref a), .val (.ref b), .val .null, .val (.ref d), .val (.ref e1), .unset, .unset, .unset, .unset] [])) (fun t k => XS.astore X5.here hx rfl (hb hby at_107) rfl rfl (l' := #[.val (.int p1), .val (.int p2), .val (.int p3), .val (.int li), .val (.int ui), .val (.int (Int32.ofNat kl)), .val (.int (Int32.ofNat ku)), .val (.ref a), .val (.ref b), .val .null, .val (.ref d), .val (.ref e1), .unset, .unset, .unset, .unset]) (XS.store1 (o := .unset) rfl (Or.inl rfl) (own_catR rfl)) k) ?_
        refine own_go (U' := T5.setTop (mkF m 111 #[.val (.int p1), .val (.int p2), .val (.int p3), .val (.int li), .val (.int ui), .val (.int (Int32.ofNat kl)), .val (.int (Int32.ofNat ku)), .val (.ref a), .val (.ref b), .val .null, .val (.ref d), .val (.ref e1), .unset, .unset, .unset, .unset] [(.int (Int32.ofNat kl))])) (fun t k => XS.iload X5.here hx rfl (hb hby at_109) rfl k) ?_
        refine own_go (U' := T5.setTop (mkF m 112 #[.val (.int p1), .val (.int p2), .val (.int p3), .val (.int li), .val (.int ui), .val (.int (Int32.ofNat kl)), .val (.int (Int32.ofNat ku)), .val (.ref a), .val (.ref b), .val .null, .val (.ref d), .val (.ref e1), .unset, .unset, .unset, .unset] [(.int p2), (.int (Int32.ofNat kl))])) (fun t k => XS.iloadN X5.here hx rfl (hb hby at_111) rfl k) ?_
        obtain ⟨v6, T6, h6, L6, e6, X6, hQ6, st6⟩ := own_callS X5 hx hZ (y := (⟨"com/example/pagemark/pagemark/storage/KeyRangeBetweenPinLaw", "mk", "(II)[B"⟩ : MethodName)) hown (hw _ (List.mem_of_getElem? (i := 0) rfl)) (hw _ (List.mem_of_getElem? (i := 1) rfl)) (hw _ (List.mem_of_getElem? (i := 2) rfl)) (hw _ (List.mem_of_getElem? (i := 3) rfl)) (by decide) (own_rmmk l Z a0 hw kl p2 h5 n0 O hkl) (W := 0) (by decide) (by decide) (g := (mkF m 112 #[.val (.int p1), .val (.int p2), .val (.int p3), .val (.int li), .val (.int ui), .val (.int (Int32.ofNat kl)), .val (.int (Int32.ofNat ku)), .val (.ref a), .val (.ref b), .val .null, .val (.ref d), .val (.ref e1), .unset, .unset, .unset, .unset] [(.int p2), (.int (Int32.ofNat kl))])) rfl (by rw [hml]; rfl) (argsL := [(.int (Int32.ofNat kl)), (.int p2)]) (rest := []) (lenOf own_pd3 rfl) rfl rfl (by show 2 * 0 + _ ≤ _; exact Nat.le_of_eq rfl) (hb hby at_112) e5 (by decide) (by decide)
        obtain ⟨e2, ke2, rfl, Nq, Kq, sz_e2, g_e2, V_e2, E_e2⟩ := hQ6
        have P3 := P3.keep Kq
        have O := O.keep Kq all0
        have V_a := V_a.keep Kq nin0
        have E_a := E_a.keep Kq
        have V_b := V_b.keep Kq nin0
        have E_b := E_b.keep Kq
        have N6 := Fr.app N5 Nq
        have P4 : own_OA Z 0 h6 (some (own_mk kl p2)) (.ref e2) := ⟨_, _, rfl, Nat.zero_le _, V_e2, E_e2⟩
        refine own_go (U' := T6.setTop (mkF m 115 #[.val (.int p1), .val (.int p2), .val (.int p3), .val (.int li), .val (.int ui), .val (.int (Int32.ofNat kl)), .val (.int (Int32.ofNat ku)), .val (.ref a), .val (.ref b), .val .null, .val (.ref d), .val (.ref e1), .unset, .unset, .unset, .unset] [(.ref e2)])) st6 ?_
        refine own_go (U' := T6.setTop (mkF m 117 #[.val (.int p1), .val (.int p2), .val (.int p3), .val (.int li), .val (.int ui), .val (.int (Int32.ofNat kl)), .val (.int (Int32.ofNat ku)), .val (.ref a), .val (.ref b), .val .null, .val (.ref d), .val (.ref e1), .val (.ref e2), .unset, .unset, .unset] [])) (fun t k => XS.astore X6.here hx rfl (hb hby at_115) rfl rfl (l' := #[.val (.int p1), .val (.int p2), .val (.int p3), .val (.int li), .val (.int ui), .val (.int (Int32.ofNat kl)), .val (.int (Int32.ofNat ku)), .val (.ref a), .val (.ref b), .val .null, .val (.ref d), .val (.ref e1), .val (.ref e2), .unset, .unset, .unset]) (XS.store1 (o := .unset) rfl (Or.inl rfl) (own_catR rfl)) k) ?_
        refine own_go (U' := T6.setTop (mkF m 128 #[.val (.int p1), .val (.int p2), .val (.int p3), .val (.int li), .val (.int ui), .val (.int (Int32.ofNat kl)), .val (.int (Int32.ofNat ku)), .val (.ref a), .val (.ref b), .val .null, .val (.ref d), .val (.ref e1), .val (.ref e2), .unset, .unset, .unset] [])) (fun t k => XS.goto X6.here hx rfl (pc0 := 117) (pc' := 128) rfl (hb hby at_117) (by decide) (by decide) k) ?_
        refine own_tail hx hZ hw hby hml hown hret hlk n0 p1 p2 p3 li ui kl ku hkl hku a b ka kb _ _ _ _ rfl rfl 0 h6 T6 _ (own_mono X6 (by decide) (by decide)) e6 N6 O V_a E_a V_b E_b (((by rw [own_from, hf]; rfl) : (some (own_mk kl p2) : Option (List Int32)) = some (own_from li (own_mk kl p2))) ▸ P3) (((by rw [own_to, hf]) : some (own_mk kl p2) = own_to li ui (own_mk kl p2) (own_mk ku p3)) ▸ P4)
      | some l1 =>
        rw [ho] at P1 hf
        have P1' := P1
        obtain ⟨f1, kf1, rfl, -⟩ := P1'
        refine own_go (U' := T4.setTop (mkF m 120 #[.val (.int p1), .val (.int p2), .val (.int p3), .val (.int li), .val (.int ui), .val (.int (Int32.ofNat kl)), .val (.int (Int32.ofNat ku)), .val (.ref a), .val (.ref b), .val (.ref f1), .val (.ref d), .unset, .unset, .unset, .unset, .unset] [])) (fun t k => XS.ifnonnullYes X4.here hx rfl (pc0 := 98) (pc' := 120) rfl (hb hby at_98) rfl (by decide) (by decide) k) ?_
        refine own_go (U' := T4.setTop (mkF m 122 #[.val (.int p1), .val (.int p2), .val (.int p3), .val (.int li), .val (.int ui), .val (.int (Int32.ofNat kl)), .val (.int (Int32.ofNat ku)), .val (.ref a), .val (.ref b), .val (.ref f1), .val (.ref d), .unset, .unset, .unset, .unset, .unset] [(.ref f1)])) (fun t k => XS.aload X4.here hx rfl (hb hby at_120) rfl rfl k) ?_
        refine own_go (U' := T4.setTop (mkF m 124 #[.val (.int p1), .val (.int p2), .val (.int p3), .val (.int li), .val (.int ui), .val (.int (Int32.ofNat kl)), .val (.int (Int32.ofNat ku)), .val (.ref a), .val (.ref b), .val (.ref f1), .val (.ref d), .val (.ref f1), .unset, .unset, .unset, .unset] [])) (fun t k => XS.astore X4.here hx rfl (hb hby at_122) rfl rfl (l' := #[.val (.int p1), .val (.int p2), .val (.int p3), .val (.int li), .val (.int ui), .val (.int (Int32.ofNat kl)), .val (.int (Int32.ofNat ku)), .val (.ref a), .val (.ref b), .val (.ref f1), .val (.ref d), .val (.ref f1), .unset, .unset, .unset, .unset]) rfl k) ?_
        refine own_go (U' := T4.setTop (mkF m 126 #[.val (.int p1), .val (.int p2), .val (.int p3), .val (.int li), .val (.int ui), .val (.int (Int32.ofNat kl)), .val (.int (Int32.ofNat ku)), .val (.ref a), .val (.ref b), .val (.ref f1), .val (.ref d), .val (.ref f1), .unset, .unset, .unset, .unset] [(.ref d)])) (fun t k => XS.aload X4.here hx rfl (hb hby at_124) rfl rfl k) ?_
        refine own_go (U' := T4.setTop (mkF m 128 #[.val (.int p1), .val (.int p2), .val (.int p3), .val (.int li), .val (.int ui), .val (.int (Int32.ofNat kl)), .val (.int (Int32.ofNat ku)), .val (.ref a), .val (.ref b), .val (.ref f1), .val (.ref d), .val (.ref f1), .val (.ref d), .unset, .unset, .unset] [])) (fun t k => XS.astore X4.here hx rfl (hb hby at_126) rfl rfl (l' := #[.val (.int p1), .val (.int p2), .val (.int p3), .val (.int li), .val (.int ui), .val (.int (Int32.ofNat kl)), .val (.int (Int32.ofNat ku)), .val (.ref a), .val (.ref b), .val (.ref f1), .val (.ref d), .val (.ref f1), .val (.ref d), .unset, .unset, .unset]) (XS.store1 (o := .unset) rfl (Or.inl rfl) (own_catR rfl)) k) ?_
        refine own_tail hx hZ hw hby hml hown hret hlk n0 p1 p2 p3 li ui kl ku hkl hku a b ka kb _ _ _ _ rfl rfl 0 h4 T4 _ (own_mono X4 (by decide) (by decide)) e4 N4 O V_a E_a V_b E_b (((by rw [own_from, hf]; rfl) : some l1 = some (own_from li (own_mk kl p2))) ▸ P1) (((by rw [own_to, hf, ← hn]) : some (own_mk ku p3) = own_to li ui (own_mk kl p2) (own_mk ku p3)) ▸ P2)
    · refine own_go (U' := T3.setTop (mkF m 80 #[.val (.int p1), .val (.int p2), .val (.int p3), .val (.int li), .val (.int ui), .val (.int (Int32.ofNat kl)), .val (.int (Int32.ofNat ku)), .val (.ref a), .val (.ref b), .val v1, .unset, .unset, .unset, .unset, .unset, .unset] [])) (fun t k => XS.ifNo X3.here hx rfl (hb hby at_77) rfl ((if0 _ _).trans (feq hui).1) k) ?_
      refine own_go (U' := T3.setTop (mkF m 82 #[.val (.int p1), .val (.int p2), .val (.int p3), .val (.int li), .val (.int ui), .val (.int (Int32.ofNat kl)), .val (.int (Int32.ofNat ku)), .val (.ref a), .val (.ref b), .val v1, .unset, .unset, .unset, .unset, .unset, .unset] [(.ref b)])) (fun t k => XS.aload X3.here hx rfl (hb hby at_80) rfl rfl k) ?_
      obtain ⟨v7, T7, h7, L7, e7, X7, hQ7, st7⟩ := own_callS X3 hx hZ (y := (⟨"com/example/pagemark/pagemark/storage/KeyRangeBetweenPinLaw", "eop", "([B)[B"⟩ : MethodName)) hown (hw _ (List.mem_of_getElem? (i := 5) rfl)) (hw _ (List.mem_of_getElem? (i := 6) rfl)) (hw _ (List.mem_of_getElem? (i := 2) rfl)) (hw _ (List.mem_of_getElem? (i := 7) rfl)) (by decide) (own_rmle l Z a0 hw b h3 n0 (own_mk ku p3) kb hb_b h8_b O V_b E_b) (W := 0) (by decide) (by decide) (g := (mkF m 82 #[.val (.int p1), .val (.int p2), .val (.int p3), .val (.int li), .val (.int ui), .val (.int (Int32.ofNat kl)), .val (.int (Int32.ofNat ku)), .val (.ref a), .val (.ref b), .val v1, .unset, .unset, .unset, .unset, .unset, .unset] [(.ref b)])) rfl (by rw [hml]; rfl) (argsL := [(.ref b)]) (rest := []) (lenOf own_pd2 rfl) rfl rfl (by show 2 * 0 + _ ≤ _; exact Nat.le_of_eq rfl) (hb hby at_82) e3 (by decide) (by decide)
      obtain ⟨v2, rfl, Nq, Kq, P2⟩ := hQ7.oa
      have P2 := P2.mono (Nat.zero_le _)
      have P1 := P1.keep Kq
      have O := O.keep Kq all0
      have V_a := V_a.keep Kq nin0
      have E_a := E_a.keep Kq
      have V_b := V_b.keep Kq nin0
      have E_b := E_b.keep Kq
      have hv2 := P2.isRef
      have N7 := Fr.app N3 Nq
      refine own_go (U' := T7.setTop (mkF m 85 #[.val (.int p1), .val (.int p2), .val (.int p3), .val (.int li), .val (.int ui), .val (.int (Int32.ofNat kl)), .val (.int (Int32.ofNat ku)), .val (.ref a), .val (.ref b), .val v1, .unset, .unset, .unset, .unset, .unset, .unset] [v2])) st7 ?_
      have hn : own_end ui (own_mk ku p3) = own_eop (own_mk ku p3) (own_mk ku p3).length := if_neg hui
      refine own_go (U' := T7.setTop (mkF m 94 #[.val (.int p1), .val (.int p2), .val (.int p3), .val (.int li), .val (.int ui), .val (.int (Int32.ofNat kl)), .val (.int (Int32.ofNat ku)), .val (.ref a), .val (.ref b), .val v1, .unset, .unset, .unset, .unset, .unset, .unset] [v2])) (fun t k => XS.goto X7.here hx rfl (pc0 := 85) (pc' := 94) rfl (hb hby at_85) (by decide) (by decide) k) ?_
      refine own_go (U' := T7.setTop (mkF m 96 #[.val (.int p1), .val (.int p2), .val (.int p3), .val (.int li), .val (.int ui), .val (.int (Int32.ofNat kl)), .val (.int (Int32.ofNat ku)), .val (.ref a), .val (.ref b), .val v1, .val v2, .unset, .unset, .unset, .unset, .unset] [])) (fun t k => XS.astore X7.here hx rfl (hb hby at_94) rfl hv2 (l' := #[.val (.int p1), .val (.int p2), .val (.int p3), .val (.int li), .val (.int ui), .val (.int (Int32.ofNat kl)), .val (.int (Int32.ofNat ku)), .val (.ref a), .val (.ref b), .val v1, .val v2, .unset, .unset, .unset, .unset, .unset]) (XS.store1 (o := .unset) rfl (Or.inl rfl) (own_catR hv2)) k) ?_
      refine own_go (U' := T7.setTop (mkF m 98 #[.val (.int p1), .val (.int p2), .val (.int p3), .val (.int li), .val (.int ui), .val (.int (Int32.ofNat kl)), .val (.int (Int32.ofNat ku)), .val (.ref a), .val (.ref b), .val v1, .val v2, .unset, .unset, .unset, .unset, .unset] [v1])) (fun t k => XS.aload X7.here hx rfl (hb hby at_96) rfl hv1 k) ?_
      cases ho : own_eop (own_mk kl p2) (own_mk kl p2).length with
      | none =>
        rw [ho] at P1 hf
        obtain rfl : v1 = .null := P1
        refine own_go (U' := T7.setTop (mkF m 101 #[.val (.int p1), .val (.int p2), .val (.int p3), .val (.int li), .val (.int ui), .val (.int (Int32.ofNat kl)), .val (.int (Int32.ofNat ku)), .val (.ref a), .val (.ref b), .val .null, .val v2, .unset, .unset, .unset, .unset, .unset] [])) (fun t k => XS.ifnonnullNo X7.here hx rfl (hb hby at_98) rfl k) ?_
        refine own_go (U' := T7.setTop (mkF m 103 #[.val (.int p1), .val (.int p2), .val (.int p3), .val (.int li), .val (.int ui), .val (.int (Int32.ofNat kl)), .val (.int (Int32.ofNat ku)), .val (.ref a), .val (.ref b), .val .null, .val v2, .unset, .unset, .unset, .unset, .unset] [(.int (Int32.ofNat kl))])) (fun t k => XS.iload X7.here hx rfl (hb hby at_101) rfl k) ?_
        refine own_go (U' := T7.setTop (mkF m 104 #[.val (.int p1), .val (.int p2), .val (.int p3), .val (.int li), .val (.int ui), .val (.int (Int32.ofNat kl)), .val (.int (Int32.ofNat ku)), .val (.ref a), .val (.ref b), .val .null, .val v2, .unset, .unset, .unset, .unset, .unset] [(.int p2), (.int (Int32.ofNat kl))])) (fun t k => XS.iloadN X7.here hx rfl (hb hby at_103) rfl k) ?_
        obtain ⟨v8, T8, h8, L8, e8, X8, hQ8, st8⟩ := own_callS X7 hx hZ (y := (⟨"com/example/pagemark/pagemark/storage/KeyRangeBetweenPinLaw", "mk", "(II)[B"⟩ : MethodName)) hown (hw _ (List.mem_of_getElem? (i := 0) rfl)) (hw _ (List.mem_of_getElem? (i := 1) rfl)) (hw _ (List.mem_of_getElem? (i := 2) rfl)) (hw _ (List.mem_of_getElem? (i := 3) rfl)) (by decide) (own_rmmk l Z a0 hw kl p2 h7 n0 O hkl) (W := 0) (by decide) (by decide) (g := (mkF m 104 #[.val (.int p1), .val (.int p2), .val (.int p3), .val (.int li), .val (.int ui), .val (.int (Int32.ofNat kl)), .val (.int (Int32.ofNat ku)), .val (.ref a), .val (.ref b), .val .null, .val v2, .unset, .unset, .unset, .unset, .unset] [(.int p2), (.int (Int32.ofNat kl))])) rfl (by rw [hml]; rfl) (argsL := [(.int (Int32.ofNat kl)), (.int p2)]) (rest := []) (lenOf own_pd3 rfl) rfl rfl (by show 2 * 0 + _ ≤ _; exact Nat.le_of_eq rfl) (hb hby at_104) e7 (by decide) (by decide)
        obtain ⟨e1, ke1, rfl, Nq, Kq, sz_e1, g_e1, V_e1, E_e1⟩ := hQ8
        have O := O.keep Kq all0
        have V_a := V_a.keep Kq nin0
        have E_a := E_a.keep Kq
        have V_b := V_b.keep Kq nin0
        have E_b := E_b.keep Kq
        have N8 := Fr.app N7 Nq
        have P3 : own_OA Z 0 h8 (some (own_mk kl p2)) (.ref e1) := ⟨_, _, rfl, Nat.zero_le _, V_e1, E_e1⟩
        refine own_go (U' := T8.setTop (mkF m 107 #[.val (.int p1), .val (.int p2), .val (.int p3), .val (.int li), .val (.int ui), .val (.int (Int32.ofNat kl)), .val (.int (Int32.ofNat ku)), .val (.ref a), .val (.ref b), .val .null, .val v2, .unset, .unset, .unset, .unset, .unset] [(.ref e1)])) st8 ?_
        refine own_go (U' := T8.setTop (mkF m 109 #[.val (.int p1), .val (.int p2), .val (.int p3), .val (.int li), .val (.int ui), .val (.int (Int32.ofNat kl)), .val (.int (Int32.ofNat ku)), .val (.ref a), .val (.ref b), .val .null, .val v2, .val (.ref e1), .unset, .unset, .unset, .unset] [])) (fun t k => XS.astore X8.here hx rfl (hb hby at_107) rfl rfl (l' := #[.val (.int p1), .val (.int p2), .val (.int p3), .val (.int li), .val (.int ui), .val (.int (Int32.ofNat kl)), .val (.int (Int32.ofNat ku)), .val (.ref a), .val (.ref b), .val .null, .val v2, .val (.ref e1), .unset, .unset, .unset, .unset]) (XS.store1 (o := .unset) rfl (Or.inl rfl) (own_catR rfl)) k) ?_
        refine own_go (U' := T8.setTop (mkF m 111 #[.val (.int p1), .val (.int p2), .val (.int p3), .val (.int li), .val (.int ui), .val (.int (Int32.ofNat kl)), .val (.int (Int32.ofNat ku)), .val (.ref a), .val (.ref b), .val .null, .val v2, .val (.ref e1), .unset, .unset, .unset, .unset] [(.int (Int32.ofNat kl))])) (fun t k => XS.iload X8.here hx rfl (hb hby at_109) rfl k) ?_
        refine own_go (U' := T8.setTop (mkF m 112 #[.val (.int p1), .val (.int p2), .val (.int p3), .val (.int li), .val (.int ui), .val (.int (Int32.ofNat kl)), .val (.int (Int32.ofNat ku)), .val (.ref a), .val (.ref b), .val .null, .val v2, .val (.ref e1), .unset, .unset, .unset, .unset] [(.int p2), (.int (Int32.ofNat kl))])) (fun t k => XS.iloadN X8.here hx rfl (hb hby at_111) rfl k) ?_
        obtain ⟨v9, T9, h9, L9, e9, X9, hQ9, st9⟩ := own_callS X8 hx hZ (y := (⟨"com/example/pagemark/pagemark/storage/KeyRangeBetweenPinLaw", "mk", "(II)[B"⟩ : MethodName)) hown (hw _ (List.mem_of_getElem? (i := 0) rfl)) (hw _ (List.mem_of_getElem? (i := 1) rfl)) (hw _ (List.mem_of_getElem? (i := 2) rfl)) (hw _ (List.mem_of_getElem? (i := 3) rfl)) (by decide) (own_rmmk l Z a0 hw kl p2 h8 n0 O hkl) (W := 0) (by decide) (by decide) (g := (mkF m 112 #[.val (.int p1), .val (.int p2), .val (.int p3), .val (.int li), .val (.int ui), .val (.int (Int32.ofNat kl)), .val (.int (Int32.ofNat ku)), .val (.ref a), .val (.ref b), .val .null, .val v2, .val (.ref e1), .unset, .unset, .unset, .unset] [(.int p2), (.int (Int32.ofNat kl))])) rfl (by rw [hml]; rfl) (argsL := [(.int (Int32.ofNat kl)), (.int p2)]) (rest := []) (lenOf own_pd3 rfl) rfl rfl (by show 2 * 0 + _ ≤ _; exact Nat.le_of_eq rfl) (hb hby at_112) e8 (by decide) (by decide)
        obtain ⟨e2, ke2, rfl, Nq, Kq, sz_e2, g_e2, V_e2, E_e2⟩ := hQ9
        have P3 := P3.keep Kq
        have O := O.keep Kq all0
        have V_a := V_a.keep Kq nin0
        have E_a := E_a.keep Kq
        have V_b := V_b.keep Kq nin0
        have E_b := E_b.keep Kq
        have N9 := Fr.app N8 Nq
        have P4 : own_OA Z 0 h9 (some (own_mk kl p2)) (.ref e2) := ⟨_, _, rfl, Nat.zero_le _, V_e2, E_e2⟩
        refine own_go (U' := T9.setTop (mkF m 115 #[.val (.int p1), .val (.int p2), .val (.int p3), .val (.int li), .val (.int ui), .val (.int (Int32.ofNat kl)), .val (.int (Int32.ofNat ku)), .val (.ref a), .val (.ref b), .val .null, .val v2, .val (.ref e1), .unset, .unset, .unset, .unset] [(.ref e2)])) st9 ?_
        refine own_go (U' := T9.setTop (mkF m 117 #[.val (.int p1), .val (.int p2), .val (.int p3), .val (.int li), .val (.int ui), .val (.int (Int32.ofNat kl)), .val (.int (Int32.ofNat ku)), .val (.ref a), .val (.ref b), .val .null, .val v2, .val (.ref e1), .val (.ref e2), .unset, .unset, .unset] [])) (fun t k => XS.astore X9.here hx rfl (hb hby at_115) rfl rfl (l' := #[.val (.int p1), .val (.int p2), .val (.int p3), .val (.int li), .val (.int ui), .val (.int (Int32.ofNat kl)), .val (.int (Int32.ofNat ku)), .val (.ref a), .val (.ref b), .val .null, .val v2, .val (.ref e1), .val (.ref e2), .unset, .unset, .unset]) (XS.store1 (o := .unset) rfl (Or.inl rfl) (own_catR rfl)) k) ?_
        refine own_go (U' := T9.setTop (mkF m 128 #[.val (.int p1), .val (.int p2), .val (.int p3), .val (.int li), .val (.int ui), .val (.int (Int32.ofNat kl)), .val (.int (Int32.ofNat ku)), .val (.ref a), .val (.ref b), .val .null, .val v2, .val (.ref e1), .val (.ref e2), .unset, .unset, .unset] [])) (fun t k => XS.goto X9.here hx rfl (pc0 := 117) (pc' := 128) rfl (hb hby at_117) (by decide) (by decide) k) ?_
        refine own_tail hx hZ hw hby hml hown hret hlk n0 p1 p2 p3 li ui kl ku hkl hku a b ka kb _ _ _ _ rfl hv2 0 h9 T9 _ (own_mono X9 (by decide) (by decide)) e9 N9 O V_a E_a V_b E_b (((by rw [own_from, hf]; rfl) : (some (own_mk kl p2) : Option (List Int32)) = some (own_from li (own_mk kl p2))) ▸ P3) (((by rw [own_to, hf]) : some (own_mk kl p2) = own_to li ui (own_mk kl p2) (own_mk ku p3)) ▸ P4)
      | some l1 =>
        rw [ho] at P1 hf
        have P1' := P1
        obtain ⟨f1, kf1, rfl, -⟩ := P1'
        refine own_go (U' := T7.setTop (mkF m 120 #[.val (.int p1), .val (.int p2), .val (.int p3), .val (.int li), .val (.int ui), .val (.int (Int32.ofNat kl)), .val (.int (Int32.ofNat ku)), .val (.ref a), .val (.ref b), .val (.ref f1), .val v2, .unset, .unset, .unset, .unset, .unset] [])) (fun t k => XS.ifnonnullYes X7.here hx rfl (pc0 := 98) (pc' := 120) rfl (hb hby at_98) rfl (by decide) (by decide) k) ?_
        refine own_go (U' := T7.setTop (mkF m 122 #[.val (.int p1), .val (.int p2), .val (.int p3), .val (.int li), .val (.int ui), .val (.int (Int32.ofNat kl)), .val (.int (Int32.ofNat ku)), .val (.ref a), .val (.ref b), .val (.ref f1), .val v2, .unset, .unset, .unset, .unset, .unset] [(.ref f1)])) (fun t k => XS.aload X7.here hx rfl (hb hby at_120) rfl rfl k) ?_
        refine own_go (U' := T7.setTop (mkF m 124 #[.val (.int p1), .val (.int p2), .val (.int p3), .val (.int li), .val (.int ui), .val (.int (Int32.ofNat kl)), .val (.int (Int32.ofNat ku)), .val (.ref a), .val (.ref b), .val (.ref f1), .val v2, .val (.ref f1), .unset, .unset, .unset, .unset] [])) (fun t k => XS.astore X7.here hx rfl (hb hby at_122) rfl rfl (l' := #[.val (.int p1), .val (.int p2), .val (.int p3), .val (.int li), .val (.int ui), .val (.int (Int32.ofNat kl)), .val (.int (Int32.ofNat ku)), .val (.ref a), .val (.ref b), .val (.ref f1), .val v2, .val (.ref f1), .unset, .unset, .unset, .unset]) rfl k) ?_
        refine own_go (U' := T7.setTop (mkF m 126 #[.val (.int p1), .val (.int p2), .val (.int p3), .val (.int li), .val (.int ui), .val (.int (Int32.ofNat kl)), .val (.int (Int32.ofNat ku)), .val (.ref a), .val (.ref b), .val (.ref f1), .val v2, .val (.ref f1), .unset, .unset, .unset, .unset] [v2])) (fun t k => XS.aload X7.here hx rfl (hb hby at_124) rfl hv2 k) ?_
        refine own_go (U' := T7.setTop (mkF m 128 #[.val (.int p1), .val (.int p2), .val (.int p3), .val (.int li), .val (.int ui), .val (.int (Int32.ofNat kl)), .val (.int (Int32.ofNat ku)), .val (.ref a), .val (.ref b), .val (.ref f1), .val v2, .val (.ref f1), .val v2, .unset, .unset, .unset] [])) (fun t k => XS.astore X7.here hx rfl (hb hby at_126) rfl hv2 (l' := #[.val (.int p1), .val (.int p2), .val (.int p3), .val (.int li), .val (.int ui), .val (.int (Int32.ofNat kl)), .val (.int (Int32.ofNat ku)), .val (.ref a), .val (.ref b), .val (.ref f1), .val v2, .val (.ref f1), .val v2, .unset, .unset, .unset]) (XS.store1 (o := .unset) rfl (Or.inl rfl) (own_catR hv2)) k) ?_
        refine own_tail hx hZ hw hby hml hown hret hlk n0 p1 p2 p3 li ui kl ku hkl hku a b ka kb _ _ _ _ rfl hv2 0 h7 T7 _ (own_mono X7 (by decide) (by decide)) e7 N7 O V_a E_a V_b E_b (((by rw [own_from, hf]; rfl) : some l1 = some (own_from li (own_mk kl p2))) ▸ P1) (((by rw [own_to, hf, ← hn]) : own_eop (own_mk ku p3) (own_mk ku p3).length = own_to li ui (own_mk kl p2) (own_mk ku p3)) ▸ P2)
  · refine own_go (U' := T2.setTop (mkF m 59 #[.val (.int p1), .val (.int p2), .val (.int p3), .val (.int li), .val (.int ui), .val (.int (Int32.ofNat kl)), .val (.int (Int32.ofNat ku)), .val (.ref a), .val (.ref b), .unset, .unset, .unset, .unset, .unset, .unset, .unset] [])) (fun t k => XS.ifNo X2.here hx rfl (hb hby at_56) rfl ((if0 _ _).trans (feq hli).1) k) ?_
    refine own_go (U' := T2.setTop (mkF m 61 #[.val (.int p1), .val (.int p2), .val (.int p3), .val (.int li), .val (.int ui), .val (.int (Int32.ofNat kl)), .val (.int (Int32.ofNat ku)), .val (.ref a), .val (.ref b), .unset, .unset, .unset, .unset, .unset, .unset, .unset] [(.int (Int32.ofNat kl))])) (fun t k => XS.iload X2.here hx rfl (hb hby at_59) rfl k) ?_
    refine own_go (U' := T2.setTop (mkF m 62 #[.val (.int p1), .val (.int p2), .val (.int p3), .val (.int li), .val (.int ui), .val (.int (Int32.ofNat kl)), .val (.int (Int32.ofNat ku)), .val (.ref a), .val (.ref b), .unset, .unset, .unset, .unset, .unset, .unset, .unset] [(.int p2), (.int (Int32.ofNat kl))])) (fun t k => XS.iloadN X2.here hx rfl (hb hby at_61) rfl k) ?_
    obtain ⟨v10, T10, h10, L10, e10, X10, hQ10, st10⟩ := own_callS X2 hx hZ (y := (⟨"com/example/pagemark/pagemark/storage/KeyRangeBetweenPinLaw", "mk", "(II)[B"⟩ : MethodName)) hown (hw _ (List.mem_of_getElem? (i := 0) rfl)) (hw _ (List.mem_of_getElem? (i := 1) rfl)) (hw _ (List.mem_of_getElem? (i := 2) rfl)) (hw _ (List.mem_of_getElem? (i := 3) rfl)) (by decide) (own_rmmk l Z a0 hw kl p2 h2 n0 O hkl) (W := 0) (by decide) (by decide) (g := (mkF m 62 #[.val (.int p1), .val (.int p2), .val (.int p3), .val (.int li), .val (.int ui), .val (.int (Int32.ofNat kl)), .val (.int (Int32.ofNat ku)), .val (.ref a), .val (.ref b), .unset, .unset, .unset, .unset, .unset, .unset, .unset] [(.int p2), (.int (Int32.ofNat kl))])) rfl (by rw [hml]; rfl) (argsL := [(.int (Int32.ofNat kl)), (.int p2)]) (rest := []) (lenOf own_pd3 rfl) rfl rfl (by show 2 * 0 + _ ≤ _; exact Nat.le_of_eq rfl) (hb hby at_62) e2 (by decide) (by decide)
    obtain ⟨c, kc, rfl, Nq, Kq, sz_c, g_c, V_c, E_c⟩ := hQ10
    have O := O.keep Kq all0
    have V_a := V_a.keep Kq nin0
    have E_a := E_a.keep Kq
    have V_b := V_b.keep Kq nin0
    have E_b := E_b.keep Kq
    have N10 := Fr.app N2 Nq
    have P1 : own_OA Z 0 h10 (some (own_mk kl p2)) (.ref c) := ⟨_, _, rfl, Nat.zero_le _, V_c, E_c⟩
    refine own_go (U' := T10.setTop (mkF m 65 #[.val (.int p1), .val (.int p2), .val (.int p3), .val (.int li), .val (.int ui), .val (.int (Int32.ofNat kl)), .val (.int (Int32.ofNat ku)), .val (.ref a), .val (.ref b), .unset, .unset, .unset, .unset, .unset, .unset, .unset] [(.ref c)])) st10 ?_
    have hf : own_first li (own_mk kl p2) = some (own_mk kl p2) := if_neg hli
    refine own_go (U' := T10.setTop (mkF m 73 #[.val (.int p1), .val (.int p2), .val (.int p3), .val (.int li), .val (.int ui), .val (.int (Int32.ofNat kl)), .val (.int (Int32.ofNat ku)), .val (.ref a), .val (.ref b), .unset, .unset, .unset, .unset, .unset, .unset, .unset] [(.ref c)])) (fun t k => XS.goto X10.here hx rfl (pc0 := 65) (pc' := 73) rfl (hb hby at_65) (by decide) (by decide) k) ?_
    refine own_go (U' := T10.setTop (mkF m 75 #[.val (.int p1), .val (.int p2), .val (.int p3), .val (.int li), .val (.int ui), .val (.int (Int32.ofNat kl)), .val (.int (Int32.ofNat ku)), .val (.ref a), .val (.ref b), .val (.ref c), .unset, .unset, .unset, .unset, .unset, .unset] [])) (fun t k => XS.astore X10.here hx rfl (hb hby at_73) rfl rfl (l' := #[.val (.int p1), .val (.int p2), .val (.int p3), .val (.int li), .val (.int ui), .val (.int (Int32.ofNat kl)), .val (.int (Int32.ofNat ku)), .val (.ref a), .val (.ref b), .val (.ref c), .unset, .unset, .unset, .unset, .unset, .unset]) (XS.store1 (o := .unset) rfl (Or.inl rfl) (own_catR rfl)) k) ?_
    refine own_go (U' := T10.setTop (mkF m 77 #[.val (.int p1), .val (.int p2), .val (.int p3), .val (.int li), .val (.int ui), .val (.int (Int32.ofNat kl)), .val (.int (Int32.ofNat ku)), .val (.ref a), .val (.ref b), .val (.ref c), .unset, .unset, .unset, .unset, .unset, .unset] [(.int ui)])) (fun t k => XS.iload X10.here hx rfl (hb hby at_75) rfl k) ?_
    by_cases hui : ui = (0 : Int32)
    · refine own_go (U' := T10.setTop (mkF m 88 #[.val (.int p1), .val (.int p2), .val (.int p3), .val (.int li), .val (.int ui), .val (.int (Int32.ofNat kl)), .val (.int (Int32.ofNat ku)), .val (.ref a), .val (.ref b), .val (.ref c), .unset, .unset, .unset, .unset, .unset, .unset] [])) (fun t k => XS.ifYes X10.here hx rfl (pc0 := 77) (pc' := 88) rfl (hb hby at_77) rfl ((if0 _ _).trans (teq hui).1) (by decide) (by decide) k) ?_
      refine own_go (U' := T10.setTop (mkF m 90 #[.val (.int p1), .val (.int p2), .val (.int p3), .val (.int li), .val (.int ui), .val (.int (Int32.ofNat kl)), .val (.int (Int32.ofNat ku)), .val (.ref a), .val (.ref b), .val (.ref c), .unset, .unset, .unset, .unset, .unset, .unset] [(.int (Int32.ofNat ku))])) (fun t k => XS.iload X10.here hx rfl (hb hby at_88) rfl k) ?_
      refine own_go (U' := T10.setTop (mkF m 91 #[.val (.int p1), .val (.int p2), .val (.int p3), .val (.int li), .val (.int ui), .val (.int (Int32.ofNat kl)), .val (.int (Int32.ofNat ku)), .val (.ref a), .val (.ref b), .val (.ref c), .unset, .unset, .unset, .unset, .unset, .unset] [(.int p3), (.int (Int32.ofNat ku))])) (fun t k => XS.iloadN X10.here hx rfl (hb hby at_90) rfl k) ?_
      obtain ⟨v11, T11, h11, L11, e11, X11, hQ11, st11⟩ := own_callS X10 hx hZ (y := (⟨"com/example/pagemark/pagemark/storage/KeyRangeBetweenPinLaw", "mk", "(II)[B"⟩ : MethodName)) hown (hw _ (List.mem_of_getElem? (i := 0) rfl)) (hw _ (List.mem_of_getElem? (i := 1) rfl)) (hw _ (List.mem_of_getElem? (i := 2) rfl)) (hw _ (List.mem_of_getElem? (i := 3) rfl)) (by decide) (own_rmmk l Z a0 hw ku p3 h10 n0 O hku) (W := 0) (by decide) (by decide) (g := (mkF m 91 #[.val (.int p1), .val (.int p2), .val (.int p3), .val (.int li), .val (.int ui), .val (.int (Int32.ofNat kl)), .val (.int (Int32.ofNat ku)), .val (.ref a), .val (.ref b), .val (.ref c), .unset, .unset, .unset, .unset, .unset, .unset] [(.int p3), (.int (Int32.ofNat ku))])) rfl (by rw [hml]; rfl) (argsL := [(.int (Int32.ofNat ku)), (.int p3)]) (rest := []) (lenOf own_pd3 rfl) rfl rfl (by show 2 * 0 + _ ≤ _; exact Nat.le_of_eq rfl) (hb hby at_91) e10 (by decide) (by decide)
      obtain ⟨d, kd, rfl, Nq, Kq, sz_d, g_d, V_d, E_d⟩ := hQ11
      have P1 := P1.keep Kq
      have O := O.keep Kq all0
      have V_a := V_a.keep Kq nin0
      have E_a := E_a.keep Kq
      have V_b := V_b.keep Kq nin0
      have E_b := E_b.keep Kq
      have N11 := Fr.app N10 Nq
      have P2 : own_OA Z 0 h11 (some (own_mk ku p3)) (.ref d) := ⟨_, _, rfl, Nat.zero_le _, V_d, E_d⟩
      refine own_go (U' := T11.setTop (mkF m 94 #[.val (.int p1), .val (.int p2), .val (.int p3), .val (.int li), .val (.int ui), .val (.int (Int32.ofNat kl)), .val (.int (Int32.ofNat ku)), .val (.ref a), .val (.ref b), .val (.ref c), .unset, .unset, .unset, .unset, .unset, .unset] [(.ref d)])) st11 ?_
      have hn : own_end ui (own_mk ku p3) = some (own_mk ku p3) := if_pos hui
      refine own_go (U' := T11.setTop (mkF m 96 #[.val (.int p1), .val (.int p2), .val (.int p3), .val (.int li), .val (.int ui), .val (.int (Int32.ofNat kl)), .val (.int (Int32.ofNat ku)), .val (.ref a), .val (.ref b), .val (.ref c), .val (.ref d), .unset, .unset, .unset, .unset, .unset] [])) (fun t k => XS.astore X11.here hx rfl (hb hby at_94) rfl rfl (l' := #[.val (.int p1), .val (.int p2), .val (.int p3), .val (.int li), .val (.int ui), .val (.int (Int32.ofNat kl)), .val (.int (Int32.ofNat ku)), .val (.ref a), .val (.ref b), .val (.ref c), .val (.ref d), .unset, .unset, .unset, .unset, .unset]) (XS.store1 (o := .unset) rfl (Or.inl rfl) (own_catR rfl)) k) ?_
      refine own_go (U' := T11.setTop (mkF m 98 #[.val (.int p1), .val (.int p2), .val (.int p3), .val (.int li), .val (.int ui), .val (.int (Int32.ofNat kl)), .val (.int (Int32.ofNat ku)), .val (.ref a), .val (.ref b), .val (.ref c), .val (.ref d), .unset, .unset, .unset, .unset, .unset] [(.ref c)])) (fun t k => XS.aload X11.here hx rfl (hb hby at_96) rfl rfl k) ?_
      refine own_go (U' := T11.setTop (mkF m 120 #[.val (.int p1), .val (.int p2), .val (.int p3), .val (.int li), .val (.int ui), .val (.int (Int32.ofNat kl)), .val (.int (Int32.ofNat ku)), .val (.ref a), .val (.ref b), .val (.ref c), .val (.ref d), .unset, .unset, .unset, .unset, .unset] [])) (fun t k => XS.ifnonnullYes X11.here hx rfl (pc0 := 98) (pc' := 120) rfl (hb hby at_98) rfl (by decide) (by decide) k) ?_
      refine own_go (U' := T11.setTop (mkF m 122 #[.val (.int p1), .val (.int p2), .val (.int p3), .val (.int li), .val (.int ui), .val (.int (Int32.ofNat kl)), .val (.int (Int32.ofNat ku)), .val (.ref a), .val (.ref b), .val (.ref c), .val (.ref d), .unset, .unset, .unset, .unset, .unset] [(.ref c)])) (fun t k => XS.aload X11.here hx rfl (hb hby at_120) rfl rfl k) ?_
      refine own_go (U' := T11.setTop (mkF m 124 #[.val (.int p1), .val (.int p2), .val (.int p3), .val (.int li), .val (.int ui), .val (.int (Int32.ofNat kl)), .val (.int (Int32.ofNat ku)), .val (.ref a), .val (.ref b), .val (.ref c), .val (.ref d), .val (.ref c), .unset, .unset, .unset, .unset] [])) (fun t k => XS.astore X11.here hx rfl (hb hby at_122) rfl rfl (l' := #[.val (.int p1), .val (.int p2), .val (.int p3), .val (.int li), .val (.int ui), .val (.int (Int32.ofNat kl)), .val (.int (Int32.ofNat ku)), .val (.ref a), .val (.ref b), .val (.ref c), .val (.ref d), .val (.ref c), .unset, .unset, .unset, .unset]) (XS.store1 (o := .unset) rfl (Or.inl rfl) (own_catR rfl)) k) ?_
      refine own_go (U' := T11.setTop (mkF m 126 #[.val (.int p1), .val (.int p2), .val (.int p3), .val (.int li), .val (.int ui), .val (.int (Int32.ofNat kl)), .val (.int (Int32.ofNat ku)), .val (.ref a), .val (.ref b), .val (.ref c), .val (.ref d), .val (.ref c), .unset, .unset, .unset, .unset] [(.ref d)])) (fun t k => XS.aload X11.here hx rfl (hb hby at_124) rfl rfl k) ?_
      refine own_go (U' := T11.setTop (mkF m 128 #[.val (.int p1), .val (.int p2), .val (.int p3), .val (.int li), .val (.int ui), .val (.int (Int32.ofNat kl)), .val (.int (Int32.ofNat ku)), .val (.ref a), .val (.ref b), .val (.ref c), .val (.ref d), .val (.ref c), .val (.ref d), .unset, .unset, .unset] [])) (fun t k => XS.astore X11.here hx rfl (hb hby at_126) rfl rfl (l' := #[.val (.int p1), .val (.int p2), .val (.int p3), .val (.int li), .val (.int ui), .val (.int (Int32.ofNat kl)), .val (.int (Int32.ofNat ku)), .val (.ref a), .val (.ref b), .val (.ref c), .val (.ref d), .val (.ref c), .val (.ref d), .unset, .unset, .unset]) (XS.store1 (o := .unset) rfl (Or.inl rfl) (own_catR rfl)) k) ?_
      refine own_tail hx hZ hw hby hml hown hret hlk n0 p1 p2 p3 li ui kl ku hkl hku a b ka kb _ _ _ _ rfl rfl 0 h11 T11 _ (own_mono X11 (by decide) (by decide)) e11 N11 O V_a E_a V_b E_b (((by rw [own_from, hf]; rfl) : (some (own_mk kl p2) : Option (List Int32)) = some (own_from li (own_mk kl p2))) ▸ P1) (((by rw [own_to, hf, ← hn]) : some (own_mk ku p3) = own_to li ui (own_mk kl p2) (own_mk ku p3)) ▸ P2)
    · refine own_go (U' := T10.setTop (mkF m 80 #[.val (.int p1), .val (.int p2), .val (.int p3), .val (.int li), .val (.int ui), .val (.int (Int32.ofNat kl)), .val (.int (Int32.ofNat ku)), .val (.ref a), .val (.ref b), .val (.ref c), .unset, .unset, .unset, .unset, .unset, .unset] [])) (fun t k => XS.ifNo X10.here hx rfl (hb hby at_77) rfl ((if0 _ _).trans (feq hui).1) k) ?_
      refine own_go (U' := T10.setTop (mkF m 82 #[.val (.int p1), .val (.int p2), .val (.int p3), .val (.int li), .val (.int ui), .val (.int (Int32.ofNat kl)), .val (.int (Int32.ofNat ku)), .val (.ref a), .val (.ref b), .val (.ref c), .unset, .unset, .unset, .unset, .unset, .unset] [(.ref b)])) (fun t k => XS.aload X10.here hx rfl (hb hby at_80) rfl rfl k) ?_
      obtain ⟨v12, T12, h12, L12, e12, X12, hQ12, st12⟩ := own_callS X10 hx hZ (y := (⟨"com/example/pagemark/pagemark/storage/KeyRangeBetweenPinLaw", "eop", "([B)[B"⟩ : MethodName)) hown (hw _ (List.mem_of_getElem? (i := 5) rfl)) (hw _ (List.mem_of_getElem? (i := 6) rfl)) (hw _ (List.mem_of_getElem? (i := 2) rfl)) (hw _ (List.mem_of_getElem? (i := 7) rfl)) (by decide) (own_rmle l Z a0 hw b h10 n0 (own_mk ku p3) kb hb_b h8_b O V_b E_b) (W := 0) (by decide) (by decide) (g := (mkF m 82 #[.val (.int p1), .val (.int p2), .val (.int p3), .val (.int li), .val (.int ui), .val (.int (Int32.ofNat kl)), .val (.int (Int32.ofNat ku)), .val (.ref a), .val (.ref b), .val (.ref c), .unset, .unset, .unset, .unset, .unset, .unset] [(.ref b)])) rfl (by rw [hml]; rfl) (argsL := [(.ref b)]) (rest := []) (lenOf own_pd2 rfl) rfl rfl (by show 2 * 0 + _ ≤ _; exact Nat.le_of_eq rfl) (hb hby at_82) e10 (by decide) (by decide)
      obtain ⟨v2, rfl, Nq, Kq, P2⟩ := hQ12.oa
      have P2 := P2.mono (Nat.zero_le _)
      have P1 := P1.keep Kq
      have O := O.keep Kq all0
      have V_a := V_a.keep Kq nin0
      have E_a := E_a.keep Kq
      have V_b := V_b.keep Kq nin0
      have E_b := E_b.keep Kq
      have hv2 := P2.isRef
      have N12 := Fr.app N10 Nq
      refine own_go (U' := T12.setTop (mkF m 85 #[.val (.int p1), .val (.int p2), .val (.int p3), .val (.int li), .val (.int ui), .val (.int (Int32.ofNat kl)), .val (.int (Int32.ofNat ku)), .val (.ref a), .val (.ref b), .val (.ref c), .unset, .unset, .unset, .unset, .unset, .unset] [v2])) st12 ?_
      have hn : own_end ui (own_mk ku p3) = own_eop (own_mk ku p3) (own_mk ku p3).length := if_neg hui
      refine own_go (U' := T12.setTop (mkF m 94 #[.val (.int p1), .val (.int p2), .val (.int p3), .val (.int li), .val (.int ui), .val (.int (Int32.ofNat kl)), .val (.int (Int32.ofNat ku)), .val (.ref a), .val (.ref b), .val (.ref c), .unset, .unset, .unset, .unset, .unset, .unset] [v2])) (fun t k => XS.goto X12.here hx rfl (pc0 := 85) (pc' := 94) rfl (hb hby at_85) (by decide) (by decide) k) ?_
      refine own_go (U' := T12.setTop (mkF m 96 #[.val (.int p1), .val (.int p2), .val (.int p3), .val (.int li), .val (.int ui), .val (.int (Int32.ofNat kl)), .val (.int (Int32.ofNat ku)), .val (.ref a), .val (.ref b), .val (.ref c), .val v2, .unset, .unset, .unset, .unset, .unset] [])) (fun t k => XS.astore X12.here hx rfl (hb hby at_94) rfl hv2 (l' := #[.val (.int p1), .val (.int p2), .val (.int p3), .val (.int li), .val (.int ui), .val (.int (Int32.ofNat kl)), .val (.int (Int32.ofNat ku)), .val (.ref a), .val (.ref b), .val (.ref c), .val v2, .unset, .unset, .unset, .unset, .unset]) (XS.store1 (o := .unset) rfl (Or.inl rfl) (own_catR hv2)) k) ?_
      refine own_go (U' := T12.setTop (mkF m 98 #[.val (.int p1), .val (.int p2), .val (.int p3), .val (.int li), .val (.int ui), .val (.int (Int32.ofNat kl)), .val (.int (Int32.ofNat ku)), .val (.ref a), .val (.ref b), .val (.ref c), .val v2, .unset, .unset, .unset, .unset, .unset] [(.ref c)])) (fun t k => XS.aload X12.here hx rfl (hb hby at_96) rfl rfl k) ?_
      refine own_go (U' := T12.setTop (mkF m 120 #[.val (.int p1), .val (.int p2), .val (.int p3), .val (.int li), .val (.int ui), .val (.int (Int32.ofNat kl)), .val (.int (Int32.ofNat ku)), .val (.ref a), .val (.ref b), .val (.ref c), .val v2, .unset, .unset, .unset, .unset, .unset] [])) (fun t k => XS.ifnonnullYes X12.here hx rfl (pc0 := 98) (pc' := 120) rfl (hb hby at_98) rfl (by decide) (by decide) k) ?_
      refine own_go (U' := T12.setTop (mkF m 122 #[.val (.int p1), .val (.int p2), .val (.int p3), .val (.int li), .val (.int ui), .val (.int (Int32.ofNat kl)), .val (.int (Int32.ofNat ku)), .val (.ref a), .val (.ref b), .val (.ref c), .val v2, .unset, .unset, .unset, .unset, .unset] [(.ref c)])) (fun t k => XS.aload X12.here hx rfl (hb hby at_120) rfl rfl k) ?_
      refine own_go (U' := T12.setTop (mkF m 124 #[.val (.int p1), .val (.int p2), .val (.int p3), .val (.int li), .val (.int ui), .val (.int (Int32.ofNat kl)), .val (.int (Int32.ofNat ku)), .val (.ref a), .val (.ref b), .val (.ref c), .val v2, .val (.ref c), .unset, .unset, .unset, .unset] [])) (fun t k => XS.astore X12.here hx rfl (hb hby at_122) rfl rfl (l' := #[.val (.int p1), .val (.int p2), .val (.int p3), .val (.int li), .val (.int ui), .val (.int (Int32.ofNat kl)), .val (.int (Int32.ofNat ku)), .val (.ref a), .val (.ref b), .val (.ref c), .val v2, .val (.ref c), .unset, .unset, .unset, .unset]) (XS.store1 (o := .unset) rfl (Or.inl rfl) (own_catR rfl)) k) ?_
      refine own_go (U' := T12.setTop (mkF m 126 #[.val (.int p1), .val (.int p2), .val (.int p3), .val (.int li), .val (.int ui), .val (.int (Int32.ofNat kl)), .val (.int (Int32.ofNat ku)), .val (.ref a), .val (.ref b), .val (.ref c), .val v2, .val (.ref c), .unset, .unset, .unset, .unset] [v2])) (fun t k => XS.aload X12.here hx rfl (hb hby at_124) rfl hv2 k) ?_
      refine own_go (U' := T12.setTop (mkF m 128 #[.val (.int p1), .val (.int p2), .val (.int p3), .val (.int li), .val (.int ui), .val (.int (Int32.ofNat kl)), .val (.int (Int32.ofNat ku)), .val (.ref a), .val (.ref b), .val (.ref c), .val v2, .val (.ref c), .val v2, .unset, .unset, .unset] [])) (fun t k => XS.astore X12.here hx rfl (hb hby at_126) rfl hv2 (l' := #[.val (.int p1), .val (.int p2), .val (.int p3), .val (.int li), .val (.int ui), .val (.int (Int32.ofNat kl)), .val (.int (Int32.ofNat ku)), .val (.ref a), .val (.ref b), .val (.ref c), .val v2, .val (.ref c), .val v2, .unset, .unset, .unset]) (XS.store1 (o := .unset) rfl (Or.inl rfl) (own_catR hv2)) k) ?_
      refine own_tail hx hZ hw hby hml hown hret hlk n0 p1 p2 p3 li ui kl ku hkl hku a b ka kb _ _ _ _ rfl hv2 0 h12 T12 _ (own_mono X12 (by decide) (by decide)) e12 N12 O V_a E_a V_b E_b (((by rw [own_from, hf]; rfl) : (some (own_mk kl p2) : Option (List Int32)) = some (own_from li (own_mk kl p2))) ▸ P1) (((by rw [own_to, hf, ← hn]) : own_eop (own_mk ku p3) (own_mk ku p3).length = own_to li ui (own_mk kl p2) (own_mk ku p3)) ▸ P2)
set_option maxRecDepth 65536 in
set_option maxHeartbeats 40000000 in
theorem comes_1 {Post : Tables → Env → Array Value → State → Outcome → State → Prop} (hpost : ∀ tb e args s v u, (limb_1_1.after args s (.returned v) u = true ∧ limb_1_2.after args s (.returned v) u = true) → FrameEnd s (.returned v) u (Jvm.fieldLocs frame_1_writes args s ++ Jvm.arrayLocs frame_1_arrays args s ++ Jvm.staticLocs frame_1_statics s) 32 128 → Post tb e args s (.returned v) u) :
    ArmFor flags0 classFile x code maxLocals ret World_1 tables_1 room_1 Calls_1 rest_1 Pre_1 Post := by
  intro l hfl _ _ p e ha hc hk s m args below hf hA hF happ hP
  obtain ⟨hcalls, hrest, hpre⟩ := hP
  obtain ⟨-, -, -, hnamed, -, -, -, hat⟩ := (Spec.applies_iff hf).mp happ
  obtain ⟨hg, hn⟩ := and_e (Cond.before_iff.mp (show (Jvm.Cond.and given_1 narrow_1).before args s = true from hpre))
  obtain ⟨hcount, r0⟩ := and_e hg
  obtain ⟨g0, r1⟩ := and_e r0
  obtain ⟨g1, g2⟩ := and_e r1
  obtain ⟨w0, w1, w2, rfl⟩ : ∃ w0 w1 w2 : Value, args = #[w0, w1, w2] := by
    have hs : args.size = 3 := by simpa [Cond.value, given_1] using hcount
    obtain ⟨L⟩ := args
    match L, hs with
    | [w0, w1, w2], _ => exact ⟨w0, w1, w2, rfl⟩
  have hw := fun d (hd : d ∈ tables_1) => atoms_spec (ws := Jvm.Cond.code x code maxLocals ret :: tables_1) hat d (List.mem_cons_of_mem _ hd)
  have hfit : Fit s := fun {y c} hc i hi => by
    obtain ⟨ha, rfl⟩ := Array.getElem?_eq_some_iff.mp hc
    have q := List.all_eq_true.mp ((Array.all_eq_true_iff_forall_mem.mp hF) _ (Array.getElem_mem ha)) i (List.mem_range.mpr hi)
    simpa [Array.getElem?_eq_getElem hi] using q
  obtain ⟨i0, ei0⟩ := is_v g0
  obtain rfl : w0 = (.int i0) := Option.some.inj ei0
  obtain ⟨i1, ei1⟩ := is_v g1
  obtain rfl : w1 = (.int i1) := Option.some.inj ei1
  obtain ⟨i2, ei2⟩ := is_v g2
  obtain rfl : w2 = (.int i2) := Option.some.inj ei2
  obtain ⟨n, o, h1, h2, h3, _, L, rfl, ⟨rfl, N⟩, hq⟩ := own_rm0 l s _ hw tables_1 i0 i1 i2 s.heap s.heap.size (Old.start s) p e ha hc hk s m _ below hf ((Spec.applies_iff_loose hf).mp happ).1 ⟨rfl, State.Warmed39.refl s, rfl⟩ trivial
  refine ⟨n, _, h1, h2, h3, hpost _ _ _ _ _ _ ⟨Cond.after_iff.mpr rfl, Cond.after_iff.mpr (eq_i res_at (Term.int_eval (1)) rfl)⟩ ⟨hq.1, hq.2.1, (hq.2.2.sift fun y hy => Or.inr (N y hy)).mono (by decide) (by decide)⟩⟩
theorem main_1_1 : Claimed_1_1 := comes_1 fun _ _ _ _ _ _ h hF => ⟨h.1, hF⟩
theorem main_1_2 : Claimed_1_2 := comes_1 fun _ _ _ _ _ _ h hF => ⟨h.2, hF⟩
end Jvm.Pilot.@@N@@
namespace Jvm.Pilot.@@N@@
open Jvm Jvm.ClassFile Sem Op Lib Jvm.Free Jvm.Stand Jvm.Pilot.@@N@@.Jvm.D
/-! MADE BY PROGRAM (witnessworld.py) out of the Statement's table words and the real class files: 12 classes; the members and pool entries that the words name. The judged class is class 1, her method 4. -/
namespace start1
open Jvm.ClassFile
def u (s : String) : CpInfo := .utf8 (stringToUtf16 s)
/-- a pool by its gaps: so many unusable entries, then the entry; so many at the end -/
def gap : Nat → List CpInfo → List CpInfo
  | 0, r => r
  | n + 1, r => .unusable :: gap n r
def poolList (es : List (Nat × CpInfo)) (last : Nat) : List CpInfo := es.foldr (fun e r => gap e.1 (e.2 :: r)) (gap last [])
def pool (es : List (Nat × CpInfo)) (last : Nat) : Array CpInfo := ⟨poolList es last⟩
def fileOf (pool : Array CpInfo) (this : Nat) (attrs : Array Attribute := #[]) (ms : Array MethodInfo := #[]) (fl : Nat := 33) (sup : Nat := 0) (ifs : Array Nat := #[]) (fds : Array FieldInfo := #[]) : ClassFile where
  minorVersion := 0
  majorVersion := 65
  constantPool := pool
  accessFlags := fl
  thisClass := this
  superClass := sup
  interfaces := ifs
  fields := fds
  methods := ms
  attributes := attrs
def plain (name : String) (sup : Option ClassId) : Class where
  name := name
  kind := .ordinary
  loader := none
  accessFlags := 33
  super := sup
  interfaces := #[]
  cf := none
  fields := #[]
  methods := #[]
  instanceTypes := #[]
  staticTypes := #[]
  resolved := #[]
  callSites := []
  init := .initialized
  statics := none
  mirror := none

def pool0 : Array CpInfo := pool [(5, u "<init>"), (0, u "()V"), (1, .class_ 10), (1, u "java/lang/Object"), (85, u "clone"), (0, u "()Ljava/lang/Object;")] 26

def k0c0 : Code := { maxStack := 0, maxLocals := 1, code := object_method_1_code, exceptionTable := #[], attributes := #[] }
def k0m0 : Method := { name := "<init>", desc := "()V", sig := { parameters := [], returnType := none }, accessFlags := 1, code := some k0c0 }
def k0m1 : Method := { name := "clone", desc := "()Ljava/lang/Object;", sig := { parameters := [], returnType := some (.object "java/lang/Object") }, accessFlags := 260, code := none }
/-- java/lang/Object -/
def k0 : Class := { plain "java/lang/Object" none with
  accessFlags := 33
  interfaces := #[]
  cf := some (fileOf pool0 8 #[] #[{ accessFlags := 1, nameIndex := 5, descriptorIndex := 6, attributes := #[] }, { accessFlags := 260, nameIndex := 96, descriptorIndex := 97, attributes := #[] }] 33 0 #[] #[])
  fields := #[]
  methods := #[k0m0, k0m1]
  instanceTypes := #[]
  staticTypes := #[]
  resolved := Array.replicate 124 none
  statics := none }

def pool1 : Array CpInfo := pool [(2, .class_ 4), (1, u "java/lang/Object"), (0, u "<init>"), (0, u "()V"), (0, .methodref 8 9), (0, .class_ 10), (0, .nameAndType 11 12), (0, u "com/example/pagemark/pagemark/storage/KeyRangeBetweenPinLaw"), (0, u "mk"), (0, u "(II)[B"), (0, .methodref 8 14), (0, .nameAndType 15 16), (0, u "eop"), (0, u "([B)[B"), (0, .methodref 18 19), (0, .class_ 20), (0, .nameAndType 21 22), (0, u "com/example/pagemark/pagemark/storage/KeyRange"), (0, u "between"), (0, u "([BZ[BZ)Lcom/example/pagemark/pagemark/storage/KeyRange;"), (0, .methodref 18 24), (0, .nameAndType 25 26), (0, u "from"), (0, u "()[B"), (0, .methodref 18 28), (0, .nameAndType 29 26), (0, u "to"), (0, .methodref 8 31), (0, .nameAndType 32 33), (0, u "same"), (0, u "([B[B)Z"), (5, u "law"), (0, u "(III)Z")] 2

def k1m0 : Method := { name := "<init>", desc := "()V", sig := { parameters := [], returnType := none }, accessFlags := 1, code := none }
def k1c1 : Code := { maxStack := 4, maxLocals := 3, code := method_2_code, exceptionTable := #[], attributes := #[] }
def k1m1 : Method := { name := "mk", desc := "(II)[B", sig := { parameters := [.int, .int], returnType := some (.array .byte) }, accessFlags := 10, code := some k1c1 }
def k1c2 : Code := { maxStack := 5, maxLocals := 2, code := method_3_code, exceptionTable := #[], attributes := #[] }
def k1m2 : Method := { name := "eop", desc := "([B)[B", sig := { parameters := [(.array .byte)], returnType := some (.array .byte) }, accessFlags := 10, code := some k1c2 }
def k1c3 : Code := { maxStack := 3, maxLocals := 2, code := method_4_code, exceptionTable := #[], attributes := #[] }
def k1m3 : Method := { name := "same", desc := "([B[B)Z", sig := { parameters := [(.array .byte), (.array .byte)], returnType := some .boolean }, accessFlags := 10, code := some k1c3 }
def k1c4 : Code := { maxStack := 4, maxLocals := 16, code := code, exceptionTable := #[], attributes := #[] }
def k1m4 : Method := { name := "law", desc := "(III)Z", sig := { parameters := [.int, .int, .int], returnType := some .boolean }, accessFlags := 9, code := some k1c4 }
/-- com/example/pagemark/pagemark/storage/KeyRangeBetweenPinLaw -/
def k1 : Class := { plain "com/example/pagemark/pagemark/storage/KeyRangeBetweenPinLaw" (some 0) with
  accessFlags := 49
  interfaces := #[]
  cf := some (fileOf pool1 8 #[] #[{ accessFlags := 1, nameIndex := 5, descriptorIndex := 6, attributes := #[] }, { accessFlags := 10, nameIndex := 11, descriptorIndex := 12, attributes := #[] }, { accessFlags := 10, nameIndex := 15, descriptorIndex := 16, attributes := #[] }, { accessFlags := 10, nameIndex := 32, descriptorIndex := 33, attributes := #[] }, { accessFlags := 9, nameIndex := 39, descriptorIndex := 40, attributes := #[] }] 49 2 #[] #[])
  fields := #[]
  methods := #[k1m0, k1m1, k1m2, k1m3, k1m4]
  instanceTypes := #[]
  staticTypes := #[]
  resolved := Array.replicate 43 none
  statics := none }

def pool2 : Array CpInfo := pool [(1, .methodref 2 3), (0, .class_ 4), (0, .nameAndType 5 6), (0, u "java/lang/Object"), (0, u "<init>"), (0, u "()V"), (0, .fieldref 8 9), (0, .class_ 10), (0, .nameAndType 11 12), (0, u "com/example/pagemark/pagemark/storage/KeyRange"), (0, u "from"), (0, u "[B"), (0, .fieldref 8 14), (0, .nameAndType 15 12), (0, u "to"), (2, u "ALL"), (0, u "Lcom/example/pagemark/pagemark/storage/KeyRange;"), (0, .methodref 21 22), (0, .class_ 12), (0, .nameAndType 23 24), (0, u "clone"), (0, u "()Ljava/lang/Object;"), (0, .methodref 8 26), (0, .nameAndType 27 28), (0, u "endOfPrefix"), (0, u "([B)[B"), (0, .methodref 8 30), (0, .nameAndType 5 31), (0, u "([B[B)V"), (1, .class_ 35), (1, u "java/util/Arrays"), (6, .methodref 33 43), (0, .nameAndType 44 45), (0, u "copyOf"), (0, u "([BI)[B"), (12, u "between"), (0, u "([BZ[BZ)Lcom/example/pagemark/pagemark/storage/KeyRange;"), (5, u "()[B")] 7

def k2c0 : Code := { maxStack := 2, maxLocals := 3, code := prog_39_method_1_code, exceptionTable := #[], attributes := #[] }
def k2m0 : Method := { name := "<init>", desc := "([B[B)V", sig := { parameters := [(.array .byte), (.array .byte)], returnType := none }, accessFlags := 2, code := some k2c0 }
def k2c1 : Code := { maxStack := 4, maxLocals := 6, code := prog_39_method_4_code, exceptionTable := #[], attributes := #[] }
def k2m1 : Method := { name := "between", desc := "([BZ[BZ)Lcom/example/pagemark/pagemark/storage/KeyRange;", sig := { parameters := [(.array .byte), .boolean, (.array .byte), .boolean], returnType := some (.object "com/example/pagemark/pagemark/storage/KeyRange") }, accessFlags := 9, code := some k2c1 }
def k2c2 : Code := { maxStack := 1, maxLocals := 1, code := prog_39_method_8_code, exceptionTable := #[], attributes := #[] }
def k2m2 : Method := { name := "from", desc := "()[B", sig := { parameters := [], returnType := some (.array .byte) }, accessFlags := 0, code := some k2c2 }
def k2c3 : Code := { maxStack := 1, maxLocals := 1, code := prog_39_method_9_code, exceptionTable := #[], attributes := #[] }
def k2m3 : Method := { name := "to", desc := "()[B", sig := { parameters := [], returnType := some (.array .byte) }, accessFlags := 0, code := some k2c3 }
def k2c4 : Code := { maxStack := 4, maxLocals := 3, code := prog_39_method_13_code, exceptionTable := #[], attributes := #[] }
def k2m4 : Method := { name := "endOfPrefix", desc := "([B)[B", sig := { parameters := [(.array .byte)], returnType := some (.array .byte) }, accessFlags := 8, code := some k2c4 }
/-- com/example/pagemark/pagemark/storage/KeyRange -/
def k2 : Class := { plain "com/example/pagemark/pagemark/storage/KeyRange" (some 0) with
  accessFlags := 49
  interfaces := #[]
  cf := some (fileOf pool2 8 #[] #[{ accessFlags := 2, nameIndex := 5, descriptorIndex := 31, attributes := #[] }, { accessFlags := 9, nameIndex := 58, descriptorIndex := 59, attributes := #[] }, { accessFlags := 0, nameIndex := 11, descriptorIndex := 65, attributes := #[] }, { accessFlags := 0, nameIndex := 15, descriptorIndex := 65, attributes := #[] }, { accessFlags := 8, nameIndex := 27, descriptorIndex := 28, attributes := #[] }] 49 2 #[] #[{ accessFlags := 26, nameIndex := 18, descriptorIndex := 19, attributes := #[] }, { accessFlags := 18, nameIndex := 11, descriptorIndex := 12, attributes := #[] }, { accessFlags := 18, nameIndex := 15, descriptorIndex := 12, attributes := #[] }])
  fields := #[{ name := "ALL", type := (.object "com/example/pagemark/pagemark/storage/KeyRange"), accessFlags := 26, slot := 0, constantValue := 0 }, { name := "from", type := (.array .byte), accessFlags := 18, slot := 0, constantValue := 0 }, { name := "to", type := (.array .byte), accessFlags := 18, slot := 1, constantValue := 0 }]
  methods := #[k2m0, k2m1, k2m2, k2m3, k2m4]
  instanceTypes := #[(.array .byte), (.array .byte)]
  staticTypes := #[(.object "com/example/pagemark/pagemark/storage/KeyRange")]
  resolved := Array.replicate 73 none
  statics := none }

def pool3 : Array CpInfo := pool [(1, .class_ 2), (0, u "java/lang/Cloneable"), (0, .class_ 4), (0, u "java/lang/Object")] 2

/-- java/lang/Cloneable -/
def k3 : Class := { plain "java/lang/Cloneable" (some 0) with
  accessFlags := 1537
  interfaces := #[]
  cf := some (fileOf pool3 1 #[] #[] 1537 3 #[] #[])
  fields := #[]
  methods := #[]
  instanceTypes := #[]
  staticTypes := #[]
  resolved := Array.replicate 7 none
  statics := none }

def pool4 : Array CpInfo := pool [(2, .class_ 4), (1, u "java/lang/Object"), (0, u "<init>"), (0, u "()V"), (7, .class_ 16), (1, u "java/util/Arrays"), (57, .class_ 76), (1, u "java/util/Arrays$NaturalOrder"), (32, u "()Ljava/lang/Object;"), (3, .class_ 115), (1, u "java/util/Arrays$LegacyMergeSort"), (1, u "Z"), (10, .nameAndType 129 109), (0, u "clone"), (20, .methodref 151 152), (0, .class_ 153), (0, .nameAndType 154 155), (0, u "java/lang/System"), (0, u "arraycopy"), (0, u "(Ljava/lang/Object;ILjava/lang/Object;II)V"), (146, u "copyOf"), (1, .methodref 305 306), (0, .class_ 307), (0, .nameAndType 308 309), (0, u "java/lang/Math"), (0, u "min"), (0, u "(II)I"), (0, .methodref 311 128), (0, .class_ 312), (0, u "[B"), (62, .class_ 376), (0, u "java/util/Arrays$ArrayList"), (68, u "$assertionsDisabled"), (269, u "MIN_ARRAY_SORT_GRAN"), (0, u "I"), (2, u "INSERTIONSORT_THRESHOLD"), (149, u "([BI)[B"), (105, .class_ 976), (0, u "java/util/Arrays$ArrayItr")] 52

def k4m0 : Method := { name := "<init>", desc := "()V", sig := { parameters := [], returnType := none }, accessFlags := 2, code := none }
def k4c1 : Code := { maxStack := 6, maxLocals := 3, code := jdk_65_method_121_code, exceptionTable := #[], attributes := #[] }
def k4m1 : Method := { name := "copyOf", desc := "([BI)[B", sig := { parameters := [(.array .byte), .int], returnType := some (.array .byte) }, accessFlags := 9, code := some k4c1 }
/-- java/util/Arrays -/
def k4 : Class := { plain "java/util/Arrays" (some 0) with
  accessFlags := 49
  interfaces := #[]
  cf := some (fileOf pool4 14 #[.nestMembers #[975, 375, 113, 74]] #[{ accessFlags := 2, nameIndex := 5, descriptorIndex := 6, attributes := #[] }, { accessFlags := 9, nameIndex := 302, descriptorIndex := 869, attributes := #[] }] 49 2 #[] #[{ accessFlags := 26, nameIndex := 715, descriptorIndex := 716, attributes := #[] }, { accessFlags := 26, nameIndex := 719, descriptorIndex := 716, attributes := #[] }, { accessFlags := 4120, nameIndex := 445, descriptorIndex := 117, attributes := #[] }])
  fields := #[{ name := "MIN_ARRAY_SORT_GRAN", type := .int, accessFlags := 26, slot := 0, constantValue := 0 }, { name := "INSERTIONSORT_THRESHOLD", type := .int, accessFlags := 26, slot := 1, constantValue := 0 }, { name := "$assertionsDisabled", type := .boolean, accessFlags := 4120, slot := 2, constantValue := 0 }]
  methods := #[k4m0, k4m1]
  instanceTypes := #[]
  staticTypes := #[.int, .int, .boolean]
  resolved := Array.replicate 1029 none
  statics := none }

def pool5 : Array CpInfo := pool [(1, .class_ 2), (0, u "java/lang/Math"), (1, .class_ 6), (1, u "java/lang/Object"), (0, u "<init>"), (0, u "()V"), (89, .class_ 100), (1, u "java/lang/Math$RandomNumberGeneratorHolder"), (71, u "negativeZeroFloatBits"), (0, u "J"), (2, u "negativeZeroDoubleBits"), (24, u "min"), (43, u "$assertionsDisabled"), (0, u "Z"), (88, u "(II)I"), (2, u "twoToTheDoubleScaleDown"), (0, u "D"), (4, u "twoToTheDoubleScaleUp"), (9, u "E"), (3, u "PI"), (2, u "TAU"), (2, u "DEGREES_TO_RADIANS"), (0, u "RADIANS_TO_DEGREES")] 94

def k5m0 : Method := { name := "<init>", desc := "()V", sig := { parameters := [], returnType := none }, accessFlags := 2, code := none }
def k5c1 : Code := { maxStack := 2, maxLocals := 2, code := jdk_29_method_69_code, exceptionTable := #[], attributes := #[] }
def k5m1 : Method := { name := "min", desc := "(II)I", sig := { parameters := [.int, .int], returnType := some .int }, accessFlags := 9, code := some k5c1 }
/-- java/lang/Math -/
def k5 : Class := { plain "java/lang/Math" (some 0) with
  accessFlags := 49
  interfaces := #[]
  cf := some (fileOf pool5 1 #[.nestMembers #[98]] #[{ accessFlags := 2, nameIndex := 7, descriptorIndex := 8, attributes := #[] }, { accessFlags := 9, nameIndex := 201, descriptorIndex := 335, attributes := #[] }] 49 4 #[] #[{ accessFlags := 25, nameIndex := 354, descriptorIndex := 339, attributes := #[] }, { accessFlags := 25, nameIndex := 358, descriptorIndex := 339, attributes := #[] }, { accessFlags := 25, nameIndex := 361, descriptorIndex := 339, attributes := #[] }, { accessFlags := 26, nameIndex := 364, descriptorIndex := 339, attributes := #[] }, { accessFlags := 26, nameIndex := 365, descriptorIndex := 339, attributes := #[] }, { accessFlags := 26, nameIndex := 172, descriptorIndex := 173, attributes := #[] }, { accessFlags := 26, nameIndex := 176, descriptorIndex := 173, attributes := #[] }, { accessFlags := 8, nameIndex := 344, descriptorIndex := 339, attributes := #[] }, { accessFlags := 8, nameIndex := 338, descriptorIndex := 339, attributes := #[] }, { accessFlags := 4120, nameIndex := 245, descriptorIndex := 246, attributes := #[] }])
  fields := #[{ name := "E", type := .double, accessFlags := 25, slot := 0, constantValue := 0 }, { name := "PI", type := .double, accessFlags := 25, slot := 1, constantValue := 0 }, { name := "TAU", type := .double, accessFlags := 25, slot := 2, constantValue := 0 }, { name := "DEGREES_TO_RADIANS", type := .double, accessFlags := 26, slot := 3, constantValue := 0 }, { name := "RADIANS_TO_DEGREES", type := .double, accessFlags := 26, slot := 4, constantValue := 0 }, { name := "negativeZeroFloatBits", type := .long, accessFlags := 26, slot := 5, constantValue := 0 }, { name := "negativeZeroDoubleBits", type := .long, accessFlags := 26, slot := 6, constantValue := 0 }, { name := "twoToTheDoubleScaleUp", type := .double, accessFlags := 8, slot := 7, constantValue := 0 }, { name := "twoToTheDoubleScaleDown", type := .double, accessFlags := 8, slot := 8, constantValue := 0 }, { name := "$assertionsDisabled", type := .boolean, accessFlags := 4120, slot := 9, constantValue := 0 }]
  methods := #[k5m0, k5m1]
  instanceTypes := #[]
  staticTypes := #[.double, .double, .double, .double, .double, .long, .long, .double, .double, .boolean]
  resolved := Array.replicate 460 none
  statics := none }

def pool6 : Array CpInfo := pool [(2, .class_ 4), (1, u "java/lang/Object"), (0, u "<init>"), (0, u "()V"), (1, .class_ 10), (1, u "java/lang/System"), (0, u "allowSecurityManager"), (0, u "I"), (16, u "cons"), (0, u "Ljava/io/Console;"), (77, .class_ 110), (1, u "java/lang/System$CallersHolder"), (43, u "initialErrStream"), (0, u "Ljava/io/PrintStream;"), (19, u "security"), (0, u "Ljava/lang/SecurityManager;"), (31, .class_ 209), (0, u "java/lang/System$1"), (7, u "props"), (0, u "Ljava/util/Properties;"), (2, u "lineSeparator"), (0, u "Ljava/lang/String;"), (96, .class_ 321), (1, u "java/lang/System$LoggerFinder"), (5, .class_ 328), (0, u "java/lang/System$Logger"), (67, u "err"), (2, u "out"), (91, u "notSupportedJnuEncoding"), (15, u "in"), (17, u "initialIn"), (0, u "Ljava/io/InputStream;"), (35, u "bootLayer"), (0, u "Ljava/lang/ModuleLayer;"), (99, .class_ 664), (0, u "java/lang/System$2"), (9, u "NEVER"), (2, u "MAYBE"), (49, u "arraycopy"), (0, u "(Ljava/lang/Object;ILjava/lang/Object;II)V"), (72, .class_ 802), (0, u "java/lang/System$Logger$Level")] 31

def k6m0 : Method := { name := "<init>", desc := "()V", sig := { parameters := [], returnType := none }, accessFlags := 2, code := none }
def k6m1 : Method := { name := "arraycopy", desc := "(Ljava/lang/Object;ILjava/lang/Object;II)V", sig := { parameters := [(.object "java/lang/Object"), .int, (.object "java/lang/Object"), .int, .int], returnType := none }, accessFlags := 265, code := none }
/-- java/lang/System -/
def k6 : Class := { plain "java/lang/System" (some 0) with
  accessFlags := 49
  interfaces := #[]
  cf := some (fileOf pool6 8 #[.nestMembers #[319, 327, 801, 108, 663, 208]] #[{ accessFlags := 2, nameIndex := 5, descriptorIndex := 6, attributes := #[] }, { accessFlags := 265, nameIndex := 727, descriptorIndex := 728, attributes := #[] }] 49 2 #[] #[{ accessFlags := 25, nameIndex := 507, descriptorIndex := 526, attributes := #[] }, { accessFlags := 25, nameIndex := 399, descriptorIndex := 155, attributes := #[] }, { accessFlags := 25, nameIndex := 396, descriptorIndex := 155, attributes := #[] }, { accessFlags := 10, nameIndex := 525, descriptorIndex := 526, attributes := #[] }, { accessFlags := 26, nameIndex := 674, descriptorIndex := 12, attributes := #[] }, { accessFlags := 26, nameIndex := 677, descriptorIndex := 12, attributes := #[] }, { accessFlags := 10, nameIndex := 11, descriptorIndex := 12, attributes := #[] }, { accessFlags := 74, nameIndex := 175, descriptorIndex := 176, attributes := #[] }, { accessFlags := 10, nameIndex := 491, descriptorIndex := 222, attributes := #[] }, { accessFlags := 74, nameIndex := 29, descriptorIndex := 30, attributes := #[] }, { accessFlags := 74, nameIndex := 154, descriptorIndex := 155, attributes := #[] }, { accessFlags := 10, nameIndex := 217, descriptorIndex := 218, attributes := #[] }, { accessFlags := 10, nameIndex := 221, descriptorIndex := 222, attributes := #[] }, { accessFlags := 8, nameIndex := 562, descriptorIndex := 563, attributes := #[] }])
  fields := #[{ name := "in", type := (.object "java/io/InputStream"), accessFlags := 25, slot := 0, constantValue := 0 }, { name := "out", type := (.object "java/io/PrintStream"), accessFlags := 25, slot := 1, constantValue := 0 }, { name := "err", type := (.object "java/io/PrintStream"), accessFlags := 25, slot := 2, constantValue := 0 }, { name := "initialIn", type := (.object "java/io/InputStream"), accessFlags := 10, slot := 3, constantValue := 0 }, { name := "NEVER", type := .int, accessFlags := 26, slot := 4, constantValue := 0 }, { name := "MAYBE", type := .int, accessFlags := 26, slot := 5, constantValue := 0 }, { name := "allowSecurityManager", type := .int, accessFlags := 10, slot := 6, constantValue := 0 }, { name := "security", type := (.object "java/lang/SecurityManager"), accessFlags := 74, slot := 7, constantValue := 0 }, { name := "notSupportedJnuEncoding", type := (.object "java/lang/String"), accessFlags := 10, slot := 8, constantValue := 0 }, { name := "cons", type := (.object "java/io/Console"), accessFlags := 74, slot := 9, constantValue := 0 }, { name := "initialErrStream", type := (.object "java/io/PrintStream"), accessFlags := 74, slot := 10, constantValue := 0 }, { name := "props", type := (.object "java/util/Properties"), accessFlags := 10, slot := 11, constantValue := 0 }, { name := "lineSeparator", type := (.object "java/lang/String"), accessFlags := 10, slot := 12, constantValue := 0 }, { name := "bootLayer", type := (.object "java/lang/ModuleLayer"), accessFlags := 8, slot := 13, constantValue := 0 }]
  methods := #[k6m0, k6m1]
  instanceTypes := #[]
  staticTypes := #[(.object "java/io/InputStream"), (.object "java/io/PrintStream"), (.object "java/io/PrintStream"), (.object "java/io/InputStream"), .int, .int, .int, (.object "java/lang/SecurityManager"), (.object "java/lang/String"), (.object "java/io/Console"), (.object "java/io/PrintStream"), (.object "java/util/Properties"), (.object "java/lang/String"), (.object "java/lang/ModuleLayer")]
  resolved := Array.replicate 834 none
  statics := none }

def pool7 : Array CpInfo := pool [(1, u "java/io/Serializable"), (0, .class_ 1), (0, u "java/lang/Object"), (0, .class_ 3)] 3

/-- java/io/Serializable -/
def k7 : Class := { plain "java/io/Serializable" (some 0) with
  accessFlags := 1537
  interfaces := #[]
  cf := some (fileOf pool7 2 #[] #[] 1537 4 #[] #[])
  fields := #[]
  methods := #[]
  instanceTypes := #[]
  staticTypes := #[]
  resolved := Array.replicate 8 none
  statics := none }

/-- the primitive byte -/
def k8 : Class := { plain "byte" none with kind := .primitive 'B', accessFlags := 0x411 }
/-- [B -/
def k9 : Class := { plain "[B" (some 0) with kind := .array 8 .byte, interfaces := #[3, 7], accessFlags := 1041 }

/-- the primitive int -/
def k10 : Class := { plain "int" none with kind := .primitive 'I', accessFlags := 0x411 }
/-- [I -/
def k11 : Class := { plain "[I" (some 0) with kind := .array 10 .int, interfaces := #[3, 7], accessFlags := 1041 }

def heap : Heap := #[]
def classes : Array Class := #[k0, k1, k2, k3, k4, k5, k6, k7, k8, k9, k10, k11]
def interned : List (Array UInt16 × Addr) := []
def slotsUsed : Nat := 0
def theMethod : MethodId := ⟨1, 4⟩
def args0 : Array Value := #[.int 45, .int 7, .int 11]
def aboutOver (below : List Frame) : State where
  vm := { classes := classes, interned := interned.toArray }
  heap := heap
  slotsUsed := slotsUsed
  threads := #[{ frames := .invoking theMethod args0 :: below }]
def below0 : List Frame := [.native { method := ⟨0, 0⟩, args := #[] }]
def about1 : State := aboutOver below0
def p0 : Program := .bare "" "" ""
def e0 : Env := launch0.env 0 0 0
theorem w_frames : about1.frames = Frame.invoking theMethod args0 :: below0 := rfl
set_option maxRecDepth 65536 in
theorem w_args : argsFit about1.vm theMethod args0 = true := by decide +kernel
set_option maxRecDepth 65536 in
theorem w_heap : heapFits about1 = true := by decide +kernel
set_option maxRecDepth 65536 in
theorem w_runnable : about1.curStatus? = some .runnable := by decide +kernel
set_option maxRecDepth 65536 in
theorem w_alone : about1.alone = true := by decide +kernel
set_option maxRecDepth 65536 in
theorem w_named : about1.methodNamed? x = some theMethod := by decide +kernel
set_option maxRecDepth 65536 in
theorem w_hears : about1.hears theMethod below0 = true := by decide +kernel
set_option maxRecDepth 65536 in
theorem w_ripe : about1.ripe theMethod args0 below0 = true := by decide +kernel
theorem w_running : about1.status = .running := rfl
set_option maxRecDepth 65536 in
theorem w_room : about1.hasRoom e0.platform room_1 = true :=
  launch0.hasRoom_least _ room_1 (by decide +kernel) (by decide +kernel) (by decide +kernel) (by decide +kernel) (by decide +kernel) (by decide +kernel)
theorem allAtoms_all (ts : List Jvm.Cond) (a : Array Jvm.Value) (st : Jvm.State) : (allAtoms ts).before a st = ts.all (fun c => c.before a st) := by
  induction ts with
  | nil => rfl
  | cons c t ih =>
    show (Jvm.Cond.and c (allAtoms t)).before a st = _
    rw [Jvm.Cond.before_and, ih, List.all_cons]
def words1 : List Jvm.Cond := Jvm.Cond.code x code maxLocals ret :: tables_1
/-- a 'code' word, met by the world's own term for the bytes: nothing is compared byte by byte -/
theorem code_word {y : MethodName} {bytes : ByteArray} {mx : Nat} {rt : Option FieldType} {a : Array Value} {s : State} {m : MethodId} {meth : Method} {c : Code} (h1 : s.methodNamed? y = some m) (h2 : s.vm.method? m = some meth) (h3 : meth.code = some c) (h4 : c.code = bytes)
    (h5 : (c.maxLocals == mx && c.exceptionTable.isEmpty && decide (c.maxStack ≤ mostOperands) && decide (meth.sig.returnType = rt) && !meth.locks && decide (parseMethodDescriptor y.desc = some meth.sig)) = true) : (Jvm.Cond.code y bytes mx rt).before a s = true := by
  simp only [Bool.and_eq_true, beq_iff_eq, Bool.not_eq_true', decide_eq_true_eq] at h5
  obtain ⟨⟨⟨⟨⟨g1, g2⟩, g3⟩, g4⟩, g5⟩, g6⟩ := h5
  simp [Cond.before, Cond.holds, Cond.value, h1, h2, h3, h4, g1, g2, g3, g4, g5, g6]
def isCode : Jvm.Cond → Bool
  | .code _ _ _ _ => true
  | _ => false
theorem all_split {L : List Jvm.Cond} {P : Jvm.Cond → Bool} (h1 : L.all (fun c => isCode c || P c) = true) (h2 : ∀ c ∈ L.filter isCode, P c = true) : L.all P = true := by
  refine List.all_eq_true.mpr fun c hc => ?_
  have h := List.all_eq_true.mp h1 c hc
  rcases Bool.eq_false_or_eq_true (isCode c) with hi | hi
  · exact h2 c (List.mem_filter.mpr ⟨hc, hi⟩)
  · simpa [hi] using h
set_option maxRecDepth 65536 in
theorem w_c0 : (Jvm.Cond.code x code maxLocals ret).before args0 about1 = true := code_word (m := ⟨1, 4⟩) (meth := k1m4) (c := k1c4) (by decide +kernel) rfl rfl rfl (by decide +kernel)
set_option maxRecDepth 65536 in
theorem w_c1 : (Jvm.Cond.code ({ cls := "com/example/pagemark/pagemark/storage/KeyRangeBetweenPinLaw", name := "mk", desc := "(II)[B" } : Jvm.MethodName) method_2_code (3 : Nat) (Option.some (Jvm.ClassFile.FieldType.array Jvm.ClassFile.FieldType.byte))).before args0 about1 = true := code_word (m := ⟨1, 1⟩) (meth := k1m1) (c := k1c1) (by decide +kernel) rfl rfl rfl (by decide +kernel)
set_option maxRecDepth 65536 in
theorem w_c2 : (Jvm.Cond.code ({ cls := "com/example/pagemark/pagemark/storage/KeyRangeBetweenPinLaw", name := "eop", desc := "([B)[B" } : Jvm.MethodName) method_3_code (2 : Nat) (Option.some (Jvm.ClassFile.FieldType.array Jvm.ClassFile.FieldType.byte))).before args0 about1 = true := code_word (m := ⟨1, 2⟩) (meth := k1m2) (c := k1c2) (by decide +kernel) rfl rfl rfl (by decide +kernel)
set_option maxRecDepth 65536 in
theorem w_c3 : (Jvm.Cond.code ({ cls := "com/example/pagemark/pagemark/storage/KeyRange", name := "between", desc := "([BZ[BZ)Lcom/example/pagemark/pagemark/storage/KeyRange;" } : Jvm.MethodName) prog_39_method_4_code (6 : Nat) (Option.some (Jvm.ClassFile.FieldType.object "com/example/pagemark/pagemark/storage/KeyRange"))).before args0 about1 = true := code_word (m := ⟨2, 1⟩) (meth := k2m1) (c := k2c1) (by decide +kernel) rfl rfl rfl (by decide +kernel)
set_option maxRecDepth 65536 in
theorem w_c4 : (Jvm.Cond.code ({ cls := "com/example/pagemark/pagemark/storage/KeyRange", name := "endOfPrefix", desc := "([B)[B" } : Jvm.MethodName) prog_39_method_13_code (3 : Nat) (Option.some (Jvm.ClassFile.FieldType.array Jvm.ClassFile.FieldType.byte))).before args0 about1 = true := code_word (m := ⟨2, 4⟩) (meth := k2m4) (c := k2c4) (by decide +kernel) rfl rfl rfl (by decide +kernel)
set_option maxRecDepth 65536 in
theorem w_c5 : (Jvm.Cond.code ({ cls := "com/example/pagemark/pagemark/storage/KeyRange", name := "<init>", desc := "([B[B)V" } : Jvm.MethodName) prog_39_method_1_code (3 : Nat) (Option.none : Option Jvm.ClassFile.FieldType)).before args0 about1 = true := code_word (m := ⟨2, 0⟩) (meth := k2m0) (c := k2c0) (by decide +kernel) rfl rfl rfl (by decide +kernel)
set_option maxRecDepth 65536 in
theorem w_c6 : (Jvm.Cond.code ({ cls := "java/lang/Object", name := "<init>", desc := "()V" } : Jvm.MethodName) object_method_1_code (1 : Nat) (Option.none : Option Jvm.ClassFile.FieldType)).before args0 about1 = true := code_word (m := ⟨0, 0⟩) (meth := k0m0) (c := k0c0) (by decide +kernel) rfl rfl rfl (by decide +kernel)
set_option maxRecDepth 65536 in
theorem w_c7 : (Jvm.Cond.code ({ cls := "com/example/pagemark/pagemark/storage/KeyRange", name := "from", desc := "()[B" } : Jvm.MethodName) prog_39_method_8_code (1 : Nat) (Option.some (Jvm.ClassFile.FieldType.array Jvm.ClassFile.FieldType.byte))).before args0 about1 = true := code_word (m := ⟨2, 2⟩) (meth := k2m2) (c := k2c2) (by decide +kernel) rfl rfl rfl (by decide +kernel)
set_option maxRecDepth 65536 in
theorem w_c8 : (Jvm.Cond.code ({ cls := "com/example/pagemark/pagemark/storage/KeyRange", name := "to", desc := "()[B" } : Jvm.MethodName) prog_39_method_9_code (1 : Nat) (Option.some (Jvm.ClassFile.FieldType.array Jvm.ClassFile.FieldType.byte))).before args0 about1 = true := code_word (m := ⟨2, 3⟩) (meth := k2m3) (c := k2c3) (by decide +kernel) rfl rfl rfl (by decide +kernel)
set_option maxRecDepth 65536 in
theorem w_c9 : (Jvm.Cond.code ({ cls := "com/example/pagemark/pagemark/storage/KeyRangeBetweenPinLaw", name := "same", desc := "([B[B)Z" } : Jvm.MethodName) method_4_code (2 : Nat) (Option.some Jvm.ClassFile.FieldType.boolean)).before args0 about1 = true := code_word (m := ⟨1, 3⟩) (meth := k1m3) (c := k1c3) (by decide +kernel) rfl rfl rfl (by decide +kernel)
set_option maxRecDepth 65536 in
theorem w_c10 : (Jvm.Cond.code ({ cls := "java/util/Arrays", name := "copyOf", desc := "([BI)[B" } : Jvm.MethodName) jdk_65_method_121_code (3 : Nat) (Option.some (Jvm.ClassFile.FieldType.array Jvm.ClassFile.FieldType.byte))).before args0 about1 = true := code_word (m := ⟨4, 1⟩) (meth := k4m1) (c := k4c1) (by decide +kernel) rfl rfl rfl (by decide +kernel)
set_option maxRecDepth 65536 in
theorem w_c11 : (Jvm.Cond.code ({ cls := "java/lang/Math", name := "min", desc := "(II)I" } : Jvm.MethodName) jdk_29_method_69_code (2 : Nat) (Option.some Jvm.ClassFile.FieldType.int)).before args0 about1 = true := code_word (m := ⟨5, 1⟩) (meth := k5m1) (c := k5c1) (by decide +kernel) rfl rfl rfl (by decide +kernel)
def codes1 : List Jvm.Cond := [Jvm.Cond.code x code maxLocals ret, Jvm.Cond.code ({ cls := "com/example/pagemark/pagemark/storage/KeyRangeBetweenPinLaw", name := "mk", desc := "(II)[B" } : Jvm.MethodName) method_2_code (3 : Nat) (Option.some (Jvm.ClassFile.FieldType.array Jvm.ClassFile.FieldType.byte)), Jvm.Cond.code ({ cls := "com/example/pagemark/pagemark/storage/KeyRangeBetweenPinLaw", name := "eop", desc := "([B)[B" } : Jvm.MethodName) method_3_code (2 : Nat) (Option.some (Jvm.ClassFile.FieldType.array Jvm.ClassFile.FieldType.byte)), Jvm.Cond.code ({ cls := "com/example/pagemark/pagemark/storage/KeyRange", name := "between", desc := "([BZ[BZ)Lcom/example/pagemark/pagemark/storage/KeyRange;" } : Jvm.MethodName) prog_39_method_4_code (6 : Nat) (Option.some (Jvm.ClassFile.FieldType.object "com/example/pagemark/pagemark/storage/KeyRange")), Jvm.Cond.code ({ cls := "com/example/pagemark/pagemark/storage/KeyRange", name := "endOfPrefix", desc := "([B)[B" } : Jvm.MethodName) prog_39_method_13_code (3 : Nat) (Option.some (Jvm.ClassFile.FieldType.array Jvm.ClassFile.FieldType.byte)), Jvm.Cond.code ({ cls := "com/example/pagemark/pagemark/storage/KeyRange", name := "<init>", desc := "([B[B)V" } : Jvm.MethodName) prog_39_method_1_code (3 : Nat) (Option.none : Option Jvm.ClassFile.FieldType), Jvm.Cond.code ({ cls := "java/lang/Object", name := "<init>", desc := "()V" } : Jvm.MethodName) object_method_1_code (1 : Nat) (Option.none : Option Jvm.ClassFile.FieldType), Jvm.Cond.code ({ cls := "com/example/pagemark/pagemark/storage/KeyRange", name := "from", desc := "()[B" } : Jvm.MethodName) prog_39_method_8_code (1 : Nat) (Option.some (Jvm.ClassFile.FieldType.array Jvm.ClassFile.FieldType.byte)), Jvm.Cond.code ({ cls := "com/example/pagemark/pagemark/storage/KeyRange", name := "to", desc := "()[B" } : Jvm.MethodName) prog_39_method_9_code (1 : Nat) (Option.some (Jvm.ClassFile.FieldType.array Jvm.ClassFile.FieldType.byte)), Jvm.Cond.code ({ cls := "com/example/pagemark/pagemark/storage/KeyRangeBetweenPinLaw", name := "same", desc := "([B[B)Z" } : Jvm.MethodName) method_4_code (2 : Nat) (Option.some Jvm.ClassFile.FieldType.boolean), Jvm.Cond.code ({ cls := "java/util/Arrays", name := "copyOf", desc := "([BI)[B" } : Jvm.MethodName) jdk_65_method_121_code (3 : Nat) (Option.some (Jvm.ClassFile.FieldType.array Jvm.ClassFile.FieldType.byte)), Jvm.Cond.code ({ cls := "java/lang/Math", name := "min", desc := "(II)I" } : Jvm.MethodName) jdk_29_method_69_code (2 : Nat) (Option.some Jvm.ClassFile.FieldType.int)]
set_option maxRecDepth 65536 in
theorem codes_eq : words1.filter isCode = codes1 := rfl
theorem w_codes : ∀ c ∈ words1.filter isCode, c.before args0 about1 = true := by
  rw [codes_eq]
  intro c hc
  simp only [codes1, List.mem_cons, List.not_mem_nil, or_false] at hc
  rcases hc with rfl | rfl | rfl | rfl | rfl | rfl | rfl | rfl | rfl | rfl | rfl | rfl
  · exact w_c0
  · exact w_c1
  · exact w_c2
  · exact w_c3
  · exact w_c4
  · exact w_c5
  · exact w_c6
  · exact w_c7
  · exact w_c8
  · exact w_c9
  · exact w_c10
  · exact w_c11
set_option maxRecDepth 65536 in
theorem w_t1 : (words1.take 24).all (fun c => isCode c || c.before args0 about1) = true := by decide +kernel
set_option maxRecDepth 65536 in
theorem w_t2 : ((words1.drop 24).take 24).all (fun c => isCode c || c.before args0 about1) = true := by decide +kernel
set_option maxRecDepth 65536 in
theorem w_t3 : ((words1.drop 24).drop 24).all (fun c => isCode c || c.before args0 about1) = true := by decide +kernel
theorem w_tables : (allAtoms (Jvm.Cond.code x code maxLocals ret :: tables_1)).before args0 about1 = true := by
  rw [allAtoms_all]
  show words1.all (fun c => c.before args0 about1) = true
  refine all_split ?_ w_codes
  rw [← List.take_append_drop 24 words1, List.all_append, w_t1, ← List.take_append_drop 24 (words1.drop 24), List.all_append, w_t2, w_t3]
  rfl
set_option maxRecDepth 65536 in
theorem w_case : (Jvm.Cond.and given_1 narrow_1).before args0 about1 = true := by decide +kernel
theorem w_applies : (headSpec (Jvm.Cond.code x code maxLocals ret :: tables_1) room_1).applies x e0.platform about1 = true :=
  (Spec.applies_iff w_frames).mpr ⟨w_running, w_runnable, w_alone, w_named, w_hears, w_ripe, w_room, w_tables⟩
theorem atStart : AtStart classFile x code maxLocals ret World_1 tables_1 room_1 Calls_1 rest_1 Pre_1 launch0 p0 e0 about1 theMethod args0 below0 :=
  ⟨lists_1, trivial, launch0.admits_env _ _ _, launch0.least_env, fairChoices_fair.cas, fairChoices_fair.clock, w_frames, w_args, w_heap, w_applies, trivial, trivial, w_case⟩
end start1
theorem witness_1 : WitnessClaimed_1 := ⟨start1.p0, start1.e0, start1.about1, start1.theMethod, start1.args0, start1.below0, start1.atStart⟩
end Jvm.Pilot.@@N@@
