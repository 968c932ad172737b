import JvmDerived
import JvmDerived.Pilot.@@N@@Statement
import JvmDerived.Pilot.@@N@@Code
set_option linter.unusedVariables false
set_option linter.unusedSimpArgs false
namespace Jvm.Pilot.@@N@@
open Jvm Jvm.ClassFile Sem Op Lib Jvm.Free Jvm.Stand Jvm.LawKit Jvm.RoadKit Bundle Jvm.Pilot.@@N@@.Jvm.D
/-! own_: the walk's goal in one piece (from this state on the body returns, and what it leaves says Q), its steps, its ends, its calls -/
theorem own_succ (k : Nat) : Int32.ofNat (k + 1) = Int32.ofNat k + 1 := (Int32.ofNat_succ k).symm
theorem own_catR {v : Value} (h : v.isRef = true) : v.category = 1 := by rcases ref_cases h with rfl | ⟨a, rfl⟩ <;> rfl
theorem own_narR {v : Value} {t : FieldType} (h : v.isRef = true) : narrow t v = v := by rcases ref_cases h with rfl | ⟨a, rfl⟩ <;> cases t <;> rfl
theorem own_fitR {v : Value} {t : FieldType} (h : v.isRef = true) (ht : t.isReference = true) : fits t v = true := by rcases ref_cases h with rfl | ⟨a, rfl⟩ <;> cases t <;> first | rfl | cases ht
section OwnKit
variable {p : Program} {l : Launch} {e : Env} {R : Room} {s : State} {m : MethodId} {args : Array Value} {below : List Frame} {meth : Method} {c : Code} {T : State} {locs : List Loc} {cells slots : Nat} {Z : State} {a0 : Array Value} {h : Heap}
def own_Fin (p : Program) (e : Env) (below : List Frame) (s : State) (Q : Option Value → Heap → List Loc → Prop) (k n : Nat) (U : State) : Prop :=
  ∃ (s₂ : State) (o : Outcome), Steps p.tables e below U s₂ ∧ s₂.status = .running ∧ Ended s₂ below o ∧ ∃ v L, o = .returned v ∧ Q v s₂.heap L ∧ FrameEnd s o s₂ L k n
variable {Q : Option Value → Heap → List Loc → Prop} {k n : Nat}
theorem own_go {U U' : State} (st : ∀ t, Steps p.tables e below U' t → Steps p.tables e below U t) (F : own_Fin p e below s Q k n U') : own_Fin p e below s Q k n U := by
  obtain ⟨s2, o, h1, h2⟩ := F
  exact ⟨s2, o, st _ h1, h2⟩
theorem own_ret (X : Stand p l e R s m args below meth c T locs cells slots) (hx : p.tables.exec = Jvm.exec) {t : FieldType} (hret : meth.sig.returnType = some t) (hlk : meth.locks = false) {pc : Nat} {Ls : Array Slot} {w : Value} {i : Instr} {rest : List Value} (hn : narrow t w = w)
    (hi : (i = .ireturn ∧ (t = .int ∨ t = .boolean ∨ t = .byte ∨ t = .char ∨ t = .short) ∧ ∃ z, w = .int z) ∨ (i = .lreturn ∧ t = .long ∧ ∃ z, w = .long z) ∨ (i = .dreturn ∧ t = .double ∧ ∃ z, w = .double z) ∨ (i = .freturn ∧ t = .float ∧ ∃ z, w = .float z) ∨ (i = .areturn ∧ t.isReference = true ∧ w.isRef = true))
    (hd : decode c.code pc = .ok (i, 1)) (hQ : Q (some w) T.heap locs) (hc : cells ≤ k) (hs : slots ≤ n) : own_Fin p e below s Q k n (T.setTop (mkF m pc Ls (w :: rest))) := by
  obtain ⟨fs, hr, hrun, hended, hW, hsame⟩ := X.leave (v := some w) (fun h => by rw [hret] at h; cases h) hlk
  exact ⟨_, _, retOut X hx hret hn hi hd hr, hrun, hended, _, _, rfl, hQ, ⟨_, rfl⟩, hW, hsame.mono hc hs⟩
theorem own_retI (X : Stand p l e R s m args below meth c T locs cells slots) (hx : p.tables.exec = Jvm.exec) (hret : meth.sig.returnType = some .int) (hlk : meth.locks = false) {pc : Nat} {Ls : Array Slot} {z : Int32} {rest : List Value}
    (hd : decode c.code pc = .ok (.ireturn, 1)) (hQ : Q (some (.int z)) T.heap locs) (hc : cells ≤ k) (hs : slots ≤ n) : own_Fin p e below s Q k n (T.setTop (mkF m pc Ls (.int z :: rest))) :=
  own_ret X hx hret hlk rfl (Or.inl ⟨rfl, Or.inl rfl, z, rfl⟩) hd hQ hc hs
theorem own_retN (X : Stand p l e R s m args below meth c T locs cells slots) (hx : p.tables.exec = Jvm.exec) {t : FieldType} (hret : meth.sig.returnType = some t) (ht : t = .boolean ∨ t = .byte ∨ t = .char ∨ t = .short) (hlk : meth.locks = false) {pc : Nat} {Ls : Array Slot} {z : Int32} {rest : List Value}
    (hd : decode c.code pc = .ok (.ireturn, 1)) (hQ : Q (some (.int (nar t z))) T.heap locs) (hc : cells ≤ k) (hs : slots ≤ n) : own_Fin p e below s Q k n (T.setTop (mkF m pc Ls (.int z :: rest))) := by
  obtain ⟨fs, hr, hrun, hended, hW, hsame⟩ := X.leave (v := some (.int (nar t z))) (fun h => by rw [hret] at h; cases h) hlk
  exact ⟨_, _, retN X hx hret ht hd hr, hrun, hended, _, _, rfl, hQ, ⟨_, rfl⟩, hW, hsame.mono hc hs⟩
theorem own_retL (X : Stand p l e R s m args below meth c T locs cells slots) (hx : p.tables.exec = Jvm.exec) (hret : meth.sig.returnType = some .long) (hlk : meth.locks = false) {pc : Nat} {Ls : Array Slot} {z : Int64} {rest : List Value}
    (hd : decode c.code pc = .ok (.lreturn, 1)) (hQ : Q (some (.long z)) T.heap locs) (hc : cells ≤ k) (hs : slots ≤ n) : own_Fin p e below s Q k n (T.setTop (mkF m pc Ls (.long z :: rest))) :=
  own_ret X hx hret hlk rfl (Or.inr (Or.inl ⟨rfl, rfl, z, rfl⟩)) hd hQ hc hs
theorem own_retA (X : Stand p l e R s m args below meth c T locs cells slots) (hx : p.tables.exec = Jvm.exec) {t : FieldType} (hret : meth.sig.returnType = some t) (ht : t.isReference = true) (hlk : meth.locks = false) {pc : Nat} {Ls : Array Slot} {w : Value} {rest : List Value} (hw : w.isRef = true)
    (hd : decode c.code pc = .ok (.areturn, 1)) (hQ : Q (some w) T.heap locs) (hc : cells ≤ k) (hs : slots ≤ n) : own_Fin p e below s Q k n (T.setTop (mkF m pc Ls (w :: rest))) :=
  own_ret X hx hret hlk (by rcases ref_cases hw with rfl | ⟨z, rfl⟩ <;> cases t <;> rfl) (Or.inr (Or.inr (Or.inr (Or.inr ⟨rfl, ht, hw⟩)))) hd hQ hc hs
theorem own_retV (X : Stand p l e R s m args below meth c T locs cells slots) (hx : p.tables.exec = Jvm.exec) (hret : meth.sig.returnType = none) (hlk : meth.locks = false) {pc : Nat} {Ls : Array Slot}
    (hd : decode c.code pc = .ok (.return_, 1)) (hQ : Q none T.heap locs) (hc : cells ≤ k) (hs : slots ≤ n) : own_Fin p e below s Q k n (T.setTop (mkF m pc Ls [])) := by
  obtain ⟨fs, hr, hrun, hended, hW, hsame⟩ := X.leave (v := none) (fun _ => rfl) hlk
  exact ⟨_, _, X.returnOut hx hret hd hr, hrun, hended, _, _, rfl, hQ, ⟨_, rfl⟩, hW, hsame.mono hc hs⟩
/-- a body's contract: called with these arguments at this heap it returns, and what it leaves says Q -/
abbrev own_C (l : Launch) (Z : State) (y : MethodName) (bytes : ByteArray) (maxL : Nat) (ret : Option FieldType) (ws : List Jvm.Cond) (rm : Room) (as' : Array Value) (h0 : Heap) (Q : Option Value → Heap → List Loc → Prop) : Prop :=
  MetFree l y (head1 (Jvm.Cond.code y bytes maxL ret :: ws) rm) (fun a U => a = as' ∧ Z.Warmed39 U.vm ∧ U.heap = h0) (fun _ _ _ _ _ => True) (fun _ U o U' => ∃ v L, o = .returned v ∧ Q v U'.heap L ∧ FrameEnd U o U' L rm.cells rm.slots)
theorem own_body {y : MethodName} {bytes : ByteArray} {maxL : Nat} {ret : Option FieldType} {ws : List Jvm.Cond} {rm : Room} {as' : Array Value} {h0 : Heap} (hpn : plainFor y = true)
    (body : ∀ (p : Program) (e : Env) (s : State) (m : MethodId) (below : List Frame) (meth : Method) (c : Code) (s₁ : State), p.tables.exec = Jvm.exec → c.code = bytes → c.maxLocals = maxL → meth.sig.returnType = ret → meth.locks = false → s.vm.findClass y.cls = some m.cls → meth.name = y.name → Z.Warmed39 s.vm →
      Stand p l e rm s m as' below meth c s₁ [] 0 0 → s₁.heap = h0 → own_Fin p e below s Q rm.cells rm.slots (s₁.setTop (entryFrame m as' maxL))) : own_C l Z y bytes maxL ret ws rm as' h0 Q := by
  refine MetFree.of_bodySF hpn hisR ?_
  intro p e s m args below meth c s₁ Bd hml0 hP hK
  obtain ⟨rfl, hZ, hh⟩ := hP
  exact body p e s m below meth c s₁ Bd.exec Bd.bytes hml0 Bd.returns Bd.notSynchronized (findClass_of_methodNamed Bd.named) (name_of_methodNamed Bd.named Bd.method).1 hZ (Stand.of_body Bd) (by rw [← hh, Bd.state]; rfl)
theorem own_callS (X : Stand p l e R s m args below meth c T locs cells slots) (hx : p.tables.exec = Jvm.exec) (hZ : Z.Warmed39 s.vm) {own : String} {index : Nat} {y : MethodName} {bytes : ByteArray} {maxL : Nat} {ret : Option FieldType} (hown : s.vm.findClass own = some m.cls)
    (w1 : (Cond.methodLink own index y).before a0 Z = true) (w2 : (Cond.static y).before a0 Z = true) (w3 : (Cond.initialized y.cls).before a0 Z = true) (w4 : (Cond.code y bytes maxL ret).before a0 Z = true) (hy : y.cls ≠ "java/lang/invoke/MethodHandle" ∧ y.cls ≠ "java/lang/invoke/VarHandle")
    {rm : Room} {argsL rest : List Value} {as' : Array Value} (hM : own_C l Z y bytes maxL ret [] rm as' h Q) {W : Nat} (hf : rm.frames + 1 ≤ R.frames) (hl : W + (maxL + 11) + rm.locals ≤ R.locals) {g : JFrame} (hg : g.method = m) (hsize : g.locals.size = c.maxLocals)
    (hlen : ∀ sig, parseMethodDescriptor y.desc = some sig → argsL.length = sig.parameters.length) (hstack : g.stack = argsL.reverse ++ rest) (has : argsL.toArray = as') (hW : 2 * g.monitorRoom + (rest.map fun v => v.category).sum ≤ W) (hdg : decode c.code g.pc = .ok (.invokestatic index, 3)) (eT : T.heap = h)
    (hc : cells + rm.cells ≤ R.cells) (hs : slots + rm.slots ≤ R.slots) :
    ∃ (v : Option Value) (T' : State) (h' : Heap) (L : List Loc), T'.heap = h' ∧ Stand p l e R s m args below meth c T' (locs ++ L) (cells + rm.cells) (slots + rm.slots) ∧ Q v h' L ∧ ∀ target, Steps p.tables e below (T'.setTop { g with pc := g.pc + 3, stack := v.toList ++ rest }) target → Steps p.tables e below (T.setTop g) target := by
  obtain ⟨v, vm, ⟨T', L', k', n'⟩, -, X', ⟨Lc, hQ, l1, y1, z1⟩, st⟩ := Jvm.LawKit.callS X hx (y := y) hown (mvT hZ w1) (mvT hZ w2) (mvT hZ w3) (mvT hZ w4) hy (backOf (W := W) hM hZ w4 w3 hf hl) hg hsize hlen hstack hW hdg (fun _ _ => ⟨has, eT, hc, hs⟩)
  dsimp only [Pt.U, Pt.locs, Pt.cells, Pt.slots] at X' l1 y1 z1 st hQ
  subst l1 y1 z1
  exact ⟨v, T', _, Lc, rfl, X', hQ, st⟩
theorem own_callC (X : Stand p l e R s m args below meth c T locs cells slots) (hx : p.tables.exec = Jvm.exec) (hZ : Z.Warmed39 s.vm) {own : String} {index : Nat} {y : MethodName} {bytes : ByteArray} {maxL : Nat} (hy1 : y.name = "<init>") (hown : s.vm.findClass own = some m.cls)
    (w1 : (Cond.methodLink own index y).before a0 Z = true) (w2 : (Cond.instanceMethod y).before a0 Z = true) (w3 : (Cond.initialized y.cls).before a0 Z = true) (w4 : (Cond.code y bytes maxL none).before a0 Z = true) (hy : y.cls ≠ "java/lang/invoke/MethodHandle" ∧ y.cls ≠ "java/lang/invoke/VarHandle")
    {rm : Room} {a : Addr} {argsL rest : List Value} {as' : Array Value} (hM : own_C l Z y bytes maxL none [] rm as' h Q) {W : Nat} (hf : rm.frames + 1 ≤ R.frames) (hl : W + (maxL + 11) + rm.locals ≤ R.locals) {g : JFrame} (hg : g.method = m) (hsize : g.locals.size = c.maxLocals)
    (hlen : ∀ sig, parseMethodDescriptor y.desc = some sig → argsL.length = sig.parameters.length) (hstack : g.stack = argsL.reverse ++ .ref a :: rest) (has : (.ref a :: argsL).toArray = as') (hW : 2 * g.monitorRoom + (rest.map fun v => v.category).sum ≤ W) (hdg : decode c.code g.pc = .ok (.invokespecial index, 3)) (eT : T.heap = h)
    (hc : cells + rm.cells ≤ R.cells) (hs : slots + rm.slots ≤ R.slots) :
    ∃ (v : Option Value) (T' : State) (h' : Heap) (L : List Loc), T'.heap = h' ∧ Stand p l e R s m args below meth c T' (locs ++ L) (cells + rm.cells) (slots + rm.slots) ∧ Q v h' L ∧ ∀ target, Steps p.tables e below (T'.setTop { g with pc := g.pc + 3, stack := v.toList ++ rest }) target → Steps p.tables e below (T.setTop g) target := by
  obtain ⟨v, vm, ⟨T', L', k', n'⟩, -, X', ⟨Lc, hQ, l1, y1, z1⟩, st⟩ := X.specialBack hx (y := y) hy1 hown (mvT hZ w1) (mvT hZ w2) (mvT hZ w4) hy (backOf (W := W) hM hZ w4 w3 hf hl) hg hsize (Steps.refl _) hlen hstack hW hdg (fun _ _ => ⟨has, eT, hc, hs⟩)
  dsimp only [Pt.U, Pt.locs, Pt.cells, Pt.slots] at X' l1 y1 z1 st hQ
  subst l1 y1 z1
  exact ⟨v, T', _, Lc, rfl, X', hQ, fun _ k => st.trans k⟩
theorem own_callV (X : Stand p l e R s m args below meth c T locs cells slots) (hx : p.tables.exec = Jvm.exec) (hZ : Z.Warmed39 s.vm) {own C : String} {index : Nat} {y z : MethodName} {bytes : ByteArray} {maxL : Nat} {ret : Option FieldType} (hown : s.vm.findClass own = some m.cls)
    (w1 : (Cond.methodLink own index y).before a0 Z = true) (w2 : (Cond.declares y).before a0 Z = true) (hnf : NotFace s y) (w5 : (Cond.selects C y z).before a0 Z = true) (w6 : (Cond.instanceMethod z).before a0 Z = true) (w3 : (Cond.initialized z.cls).before a0 Z = true) (w4 : (Cond.code z bytes maxL ret).before a0 Z = true) (hy : y.cls ≠ "java/lang/invoke/MethodHandle" ∧ y.cls ≠ "java/lang/invoke/VarHandle")
    {rm : Room} {a : Addr} (E : Exa Z h a C) {argsL rest : List Value} {as' : Array Value} (hM : own_C l Z z bytes maxL ret [] rm as' h Q) {W : Nat} (hf : rm.frames + 1 ≤ R.frames) (hl : W + (maxL + 11) + rm.locals ≤ R.locals) {g : JFrame} (hg : g.method = m) (hsize : g.locals.size = c.maxLocals)
    (hlen : ∀ sig, parseMethodDescriptor y.desc = some sig → argsL.length = sig.parameters.length) (hstack : g.stack = argsL.reverse ++ .ref a :: rest) (has : (.ref a :: argsL).toArray = as') (hW : 2 * g.monitorRoom + (rest.map fun v => v.category).sum ≤ W) (hdg : decode c.code g.pc = .ok (.invokevirtual index, 3)) (eT : T.heap = h)
    (hc : cells + rm.cells ≤ R.cells) (hs : slots + rm.slots ≤ R.slots) :
    ∃ (v : Option Value) (T' : State) (h' : Heap) (L : List Loc), T'.heap = h' ∧ Stand p l e R s m args below meth c T' (locs ++ L) (cells + rm.cells) (slots + rm.slots) ∧ Q v h' L ∧ ∀ target, Steps p.tables e below (T'.setTop { g with pc := g.pc + 3, stack := v.toList ++ rest }) target → Steps p.tables e below (T.setTop g) target := by
  obtain ⟨cq, kq, qa, qb, qc⟩ := isOf hZ eT E
  obtain ⟨v, vm, ⟨T', L', k', n'⟩, -, X', ⟨Lc, hQ, l1, y1, z1⟩, st⟩ := X.virtualBack hx (y := y) (z := z) hown (mvT hZ w1) (mvT hZ w2) hnf (mvT hZ w5) (mvT hZ w6) hy (backOf (W := W) hM hZ w4 w3 hf hl) qa qc hg hsize (Steps.refl _) hlen hstack hW hdg (fun _ _ => ⟨has, eT, hc, hs⟩)
  dsimp only [Pt.U, Pt.locs, Pt.cells, Pt.slots] at X' l1 y1 z1 st hQ
  subst l1 y1 z1
  exact ⟨v, T', _, Lc, rfl, X', hQ, fun _ k => st.trans k⟩
theorem own_callI (X : Stand p l e R s m args below meth c T locs cells slots) (hx : p.tables.exec = Jvm.exec) (hZ : Z.Warmed39 s.vm) {own C : String} {index count : Nat} {y z : MethodName} {bytes : ByteArray} {maxL : Nat} {ret : Option FieldType} (hown : s.vm.findClass own = some m.cls)
    (w1 : (Cond.methodLink own index y).before a0 Z = true) (w2 : (Cond.declares y).before a0 Z = true) (w7 : (Cond.interfaceMethod y.cls y.cls y.name y.desc).before args s = true) (w5 : (Cond.selects C y z).before a0 Z = true) (w6 : (Cond.instanceMethod z).before a0 Z = true) (w8 : (Cond.publicMethod z).before a0 Z = true)
    (w9 : (Cond.unhidden C y.name y.desc).before a0 Z = true) (w10 : (Cond.castable C y.cls).before a0 Z = true) (w3 : (Cond.initialized z.cls).before a0 Z = true) (w4 : (Cond.code z bytes maxL ret).before a0 Z = true) (hy : y.cls ≠ "java/lang/invoke/MethodHandle" ∧ y.cls ≠ "java/lang/invoke/VarHandle")
    {rm : Room} {a : Addr} (E : Exa Z h a C) {argsL rest : List Value} {as' : Array Value} (hM : own_C l Z z bytes maxL ret [] rm as' h Q) {W : Nat} (hf : rm.frames + 1 ≤ R.frames) (hl : W + (maxL + 11) + rm.locals ≤ R.locals) {g : JFrame} (hg : g.method = m) (hsize : g.locals.size = c.maxLocals)
    (hlen : ∀ sig, parseMethodDescriptor y.desc = some sig → argsL.length = sig.parameters.length) (hstack : g.stack = argsL.reverse ++ .ref a :: rest) (has : (.ref a :: argsL).toArray = as') (hW : 2 * g.monitorRoom + (rest.map fun v => v.category).sum ≤ W) (hdg : decode c.code g.pc = .ok (.invokeinterface index count, 5)) (eT : T.heap = h)
    (hc : cells + rm.cells ≤ R.cells) (hs : slots + rm.slots ≤ R.slots) :
    ∃ (v : Option Value) (T' : State) (h' : Heap) (L : List Loc), T'.heap = h' ∧ Stand p l e R s m args below meth c T' (locs ++ L) (cells + rm.cells) (slots + rm.slots) ∧ Q v h' L ∧ ∀ target, Steps p.tables e below (T'.setTop { g with pc := g.pc + 5, stack := v.toList ++ rest }) target → Steps p.tables e below (T.setTop g) target := by
  obtain ⟨cq, kq, qa, qb, qc⟩ := isOf hZ eT E
  obtain ⟨v, vm, ⟨T', L', k', n'⟩, -, X', ⟨Lc, hQ, l1, y1, z1⟩, st⟩ := X.interfaceBack hx (xi := y) (y := z) hown (mvT hZ w1) (mvT hZ w2) w7 (mvT hZ w5) (mvT hZ w6) (mvT hZ w8) (mvT hZ w9) (mvT hZ w10) hy (backOf (W := W) hM hZ w4 w3 hf hl) qa qb qc hg hsize (Steps.refl _) hlen hstack hW hdg (fun _ _ => ⟨has, eT, hc, hs⟩)
  dsimp only [Pt.U, Pt.locs, Pt.cells, Pt.slots] at X' l1 y1 z1 st hQ
  subst l1 y1 z1
  exact ⟨v, T', _, Lc, rfl, X', hQ, fun _ k => st.trans k⟩
theorem own_callP (X : Stand p l e R s m args below meth c T locs cells slots) (hx : p.tables.exec = Jvm.exec) (hZ : Z.Warmed39 s.vm) {own C : String} {index : Nat} {y : MethodName} {bytes : ByteArray} {maxL : Nat} {ret : Option FieldType} (hown : s.vm.findClass own = some m.cls)
    (w1 : (Cond.methodLink own index y).before a0 Z = true) (w6 : (Cond.instanceMethod y).before a0 Z = true) (w5 : (Cond.selects y.cls y y).before a0 Z = true) (w7 : (Cond.privateMethod y).before a0 Z = true) (w3 : (Cond.initialized y.cls).before a0 Z = true) (w4 : (Cond.code y bytes maxL ret).before a0 Z = true) (hy : y.cls ≠ "java/lang/invoke/MethodHandle" ∧ y.cls ≠ "java/lang/invoke/VarHandle")
    {rm : Room} {a : Addr} (E : Exa Z h a C) {argsL rest : List Value} {as' : Array Value} (hM : own_C l Z y bytes maxL ret [] rm as' h Q) {W : Nat} (hf : rm.frames + 1 ≤ R.frames) (hl : W + (maxL + 11) + rm.locals ≤ R.locals) {g : JFrame} (hg : g.method = m) (hsize : g.locals.size = c.maxLocals)
    (hlen : ∀ sig, parseMethodDescriptor y.desc = some sig → argsL.length = sig.parameters.length) (hstack : g.stack = argsL.reverse ++ .ref a :: rest) (has : (.ref a :: argsL).toArray = as') (hW : 2 * g.monitorRoom + (rest.map fun v => v.category).sum ≤ W) (hdg : decode c.code g.pc = .ok (.invokevirtual index, 3)) (eT : T.heap = h)
    (hc : cells + rm.cells ≤ R.cells) (hs : slots + rm.slots ≤ R.slots) :
    ∃ (v : Option Value) (T' : State) (h' : Heap) (L : List Loc), T'.heap = h' ∧ Stand p l e R s m args below meth c T' (locs ++ L) (cells + rm.cells) (slots + rm.slots) ∧ Q v h' L ∧ ∀ target, Steps p.tables e below (T'.setTop { g with pc := g.pc + 3, stack := v.toList ++ rest }) target → Steps p.tables e below (T.setTop g) target := by
  obtain ⟨cq, q, q'⟩ := E.cell
  obtain ⟨v, vm, ⟨T', L', k', n'⟩, -, X', ⟨Lc, hQ, l1, y1, z1⟩, st⟩ := X.privateBack hx (y := y) hown (mvT hZ w1) (mvT hZ w6) (mvT hZ w5) (Cond.privateMethod_at (mvP hZ w7 (args := #[]))) (mvT hZ w4) hy (backOf (W := W) hM hZ w4 w3 hf hl) hg hsize (Steps.refl _) (a := a) (by rw [eT]; exact q) q' hlen hstack hW hdg (fun _ _ => ⟨has, eT, hc, hs⟩)
  dsimp only [Pt.U, Pt.locs, Pt.cells, Pt.slots] at X' l1 y1 z1 st hQ
  subst l1 y1 z1
  exact ⟨v, T', _, Lc, rfl, X', hQ, fun _ k => st.trans k⟩
theorem own_lremM {g : JFrame} {target : State} (X : Stand p l e R s m args below meth c T locs cells slots) (hx : p.tables.exec = Jvm.exec) (hg : g.method = m) {x y : Int64} {rest : List Value} (hd : decode c.code g.pc = .ok (.lrem, 1)) (hs : g.stack = .long y :: .long x :: rest) (hy : y ≠ 0)
    (hr : Steps p.tables e below (T.setTop { g with pc := g.pc + 1, stack := .long (x % y) :: rest }) target) : Steps p.tables e below (T.setTop g) target :=
  XS.lrem X.here hx hg hd hs hy (by rw [lrem_mod]; exact hr)
theorem own_mono (X : Stand p l e R s m args below meth c T locs cells slots) {cells' slots' : Nat} (hc : cells ≤ cells') (hs : slots ≤ slots') : Stand p l e R s m args below meth c T locs cells' slots' :=
  ⟨X.admits, X.cas, X.clock, X.frames, X.room, X.hears, X.method, X.code, X.here, X.tail, X.warmed, X.limits, X.bytes, X.same.mono hc hs⟩
end OwnKit
section OwnRef
variable {p : Program} {l : Launch} {e : Env} {R : Room} {s : State} {m : MethodId} {args : Array Value} {below : List Frame} {meth : Method} {c : Code} {T : State} {locs : List Loc} {cells slots : Nat} {Z : State} {a0 : Array Value} {h : Heap} {Q : Option Value → Heap → List Loc → Prop}
/-- a constructor whose pool entry stands resolved ('methodRef'), by its contract -/
theorem own_callR (X : Stand p l e R s m args below meth c T locs cells slots) (hx : p.tables.exec = Jvm.exec) (hZ : Z.Warmed39 s.vm) {own : String} {index : Nat} {y : MethodName} {bytes : ByteArray} {maxL : Nat} (hy1 : y.name = "<init>") (hown : s.vm.findClass own = some m.cls)
    (w1 : (Cond.methodRef own index y).before a0 Z = true) (w2 : (Cond.instanceMethod y).before a0 Z = true) (w3 : (Cond.initialized y.cls).before a0 Z = true) (w4 : (Cond.code y bytes maxL none).before a0 Z = true) (hy : y.cls ≠ "java/lang/invoke/MethodHandle" ∧ y.cls ≠ "java/lang/invoke/VarHandle")
    {rm : Room} {a : Addr} {argsL rest : List Value} {as' : Array Value} (hM : own_C l Z y bytes maxL none [] rm as' h Q) {W : Nat} (hf : rm.frames + 1 ≤ R.frames) (hl : W + (maxL + 11) + rm.locals ≤ R.locals) {g : JFrame} (hg : g.method = m) (hsize : g.locals.size = c.maxLocals)
    (hlen : ∀ sig, parseMethodDescriptor y.desc = some sig → argsL.length = sig.parameters.length) (hstack : g.stack = argsL.reverse ++ .ref a :: rest) (has : (.ref a :: argsL).toArray = as') (hW : 2 * g.monitorRoom + (rest.map fun v => v.category).sum ≤ W) (hdg : decode c.code g.pc = .ok (.invokespecial index, 3)) (eT : T.heap = h)
    (hc : cells + rm.cells ≤ R.cells) (hs : slots + rm.slots ≤ R.slots) :
    ∃ (v : Option Value) (T' : State) (h' : Heap) (L : List Loc), T'.heap = h' ∧ Stand p l e R s m args below meth c T' (locs ++ L) (cells + rm.cells) (slots + rm.slots) ∧ Q v h' L ∧ ∀ target, Steps p.tables e below (T'.setTop { g with pc := g.pc + 3, stack := v.toList ++ rest }) target → Steps p.tables e below (T.setTop g) target := by
  have hT : Z.Warmed39 T.vm := wtrans hZ X.warmed
  obtain ⟨mk, methM, hnamed, hmethM, hstM, habM⟩ := Cond.instanceMethod_spec (mvT hZ w2 : (Cond.instanceMethod y).before args s = true)
  obtain ⟨methM', cM, hmethM', -, -, -, -, -, -, hsigM⟩ := Cond.code_spec hnamed (mvT hZ w4 : (Cond.code y bytes maxL none).before args s = true)
  cases hmethM.symm.trans hmethM'
  have hnT : T.methodNamed? y = some mk := X.named hnamed
  have hnZT : (Z.setVm T.vm).methodNamed? y = some mk := by rw [State.methodNamed?_of_vm (U := Z.setVm T.vm) (V := T) rfl]; exact hnT
  have hnZ : Z.methodNamed? y = some mk := by rw [State.methodNamed?_setVm hT.alike] at hnZT; exact hnZT
  have hw : (Cond.methodRef own index y).before a0 (Z.setVm T.vm) = true := Cond.methodRef_warmed39 hT hnZ hy w1
  have hcur : (Z.setVm T.vm).vm.findClass own = some m.cls := by
    show T.vm.findClass own = some m.cls
    rw [X.warmed.alike.findClass]; exact hown
  obtain ⟨m', c', hm', hready, hfind, hnr⟩ := Cond.methodRef_named e (s := Z.setVm T.vm) hcur hw
  cases (State.methodFound?_of_named hnZT hy).symm.trans hm'
  cases (findClass_of_methodNamed hnZT).symm.trans hfind
  obtain ⟨kO, hkO, hnameO⟩ := className_of_methodNamed hnT
  have hmT : T.vm.method? mk = some methM := by rw [X.warmed.alike.method?]; exact hmethM
  obtain ⟨hnameMO, hdescO⟩ := name_of_methodNamed hnT hmT
  have hfound : lookupSpecial T.vm mk.cls "<init>" methM.desc = .method mk := by
    rw [hdescO, ← hy1]; exact lookupSpecial_of_named hnT hmT hstM
  obtain ⟨v, ⟨T', L', k', n'⟩, X', ⟨Lc, hQ, l1, y1, z1⟩, hsteps⟩ := backOf (W := W) (len := 3) hM hZ w4 w3 hf hl m meth c ⟨T, locs, cells, slots⟩ { g with stack := rest } (.invokespecial index) mk (.ref a :: argsL).toArray X hg hsize hdg hW hnT ⟨has, eT, hc, hs⟩
  dsimp only [Pt.U, Pt.locs, Pt.cells, Pt.slots] at X' l1 y1 z1 hsteps hQ
  subst l1 y1 z1
  refine ⟨v, T', _, Lc, rfl, X', hQ, fun target k => ?_⟩
  subst hg
  jvm_step X.here [X.here.top, hx, hdg, invokespecial.wp_init (e := e) (s := T) (f := g) (k := kO) (meth := methM) (m := mk) (a := a) (args := argsL) (rest := rest) X.here.top hnr hready hkO hmT (hnameMO.trans hy1) hstM habM hfound (hlen _ hsigM) hstack]
  first | (intro acts; rw [doInvoke_state]; exact hsteps.trans k) | (rw [doInvoke_state]; exact hsteps.trans k)
/-- a private method's own 'selects' word, out of another one of its class -/
theorem own_selP {C : String} {y y0 : MethodName} (w : (Cond.selects C y0 y0).before a0 Z = true) (h0 : y0.cls = y.cls) (wp : (Cond.privateMethod y).before a0 Z = true) (wi : (Cond.instanceMethod y).before a0 Z = true) (hy : y.cls ≠ "java/lang/invoke/MethodHandle" ∧ y.cls ≠ "java/lang/invoke/VarHandle") : (Cond.selects y.cls y y).before a0 Z = true := by
  obtain ⟨c, r, m, -, -, hm, -, k, hk, hi⟩ := Cond.selects_spec w
  exact Jvm.Stand.selects_self_of_private (h0 ▸ findClass_of_methodNamed hm) hk hi (Cond.privateMethod_at wp) wi hy
end OwnRef
section OwnArr
variable {Z : State} {h h' : Heap} {a b : Addr} {k : ClassId} {ty : FieldType} {vs : List Value} {v : Value} {sl : Nat} {wl : List Addr}
/-- the array at a holds just these values -/
def own_Ar (Z : State) (h : Heap) (a : Addr) (k : ClassId) (ty : FieldType) (vs : List Value) : Prop := ∃ c : Cell, Arr Z h a c ty ∧ c.cls = k ∧ c.slots = vs.toArray ∧ vs.length < 2 ^ 31 ∧ ∀ v ∈ vs, fits ty v = true
theorem own_Ar.lt (F : own_Ar Z h a k ty vs) : a < h.size := by obtain ⟨c, A, -⟩ := F; exact A.lt
theorem own_Ar.ext (F : own_Ar Z h a k ty vs) (E : Ext h h') : own_Ar Z h' a k ty vs := by obtain ⟨c, A, r⟩ := F; exact ⟨c, A.ext E, r⟩
theorem own_Ar.other (F : own_Ar Z h b k ty vs) (W : Wr h h' a sl v) (q : b ≠ a) : own_Ar Z h' b k ty vs := by obtain ⟨c, A, r⟩ := F; exact ⟨c, A.other W q, r⟩
theorem own_Ar.keep (F : own_Ar Z h a k ty vs) (K : Keep h h' wl) (q : a ∉ wl) : own_Ar Z h' a k ty vs := by obtain ⟨c, A, r⟩ := F; exact ⟨c, ⟨K.2.1 _ _ A.1 q, A.2⟩, r⟩
theorem own_Ar.new {z : Int32} (A : Arr Z h a (newA k ty z) ty) (hf : fits ty (defaultValue ty) = true) : own_Ar Z h a k ty (List.replicate z.toNatClampNeg (defaultValue ty)) := by
  refine ⟨_, A, rfl, by simp [newA], ?_, fun v hv => by rw [List.eq_of_mem_replicate hv]; exact hf⟩
  rw [List.length_replicate]
  have := z.toInt_lt
  rw [Int32.toNatClampNeg]
  omega
theorem own_Ar.set {j : Nat} (F : own_Ar Z h a k ty vs) (W : Wr h h' a j v) (hv : fits ty v = true) : own_Ar Z h' a k ty (vs.set j v) := by
  obtain ⟨c, A, q, s, l, f⟩ := F
  refine ⟨_, A.same W, q, ?_, by rw [List.length_set]; exact l, fun w hw => ?_⟩
  · show c.slots.setIfInBounds j v = _
    rw [s]; simp
  · rcases List.mem_or_eq_of_mem_set hw with hw | rfl
    · exact f w hw
    · exact hv
theorem own_Ar.arv (F : own_Ar Z h a k ty vs) (d : Value) : Arv Z h a k ty (Int32.ofNat vs.length) vs d := by
  obtain ⟨c, A, q, s, l, f⟩ := F
  have hl : (Int32.ofNat vs.length).toNatClampNeg = vs.length := by
    rw [Int32.toNatClampNeg, Int32.toInt_ofNat_of_lt (by omega)]; rfl
  have h0 : ¬ Int32.ofNat vs.length < 0 := by
    rw [Int32.lt_iff_toInt_lt, Int32.toInt_ofNat_of_lt (by omega)]; simp
  refine ⟨c, A, q, by rw [s, hl]; simp, h0, fun i hi => ?_, fun i hi => ?_⟩
  · rw [s] at hi ⊢
    simp only [List.size_toArray] at hi
    simp [List.getD, List.getElem?_eq_getElem hi]
  · rw [s] at hi
    simp only [List.size_toArray] at hi
    simp only [List.getD, List.getElem?_eq_getElem hi, Option.getD_some]
    exact f _ (List.getElem_mem hi)
theorem own_Ar.of_arv {z : Int32} {d : Value} (F : Arv Z h a k ty z vs d) (hl : z.toNatClampNeg = vs.length) : own_Ar Z h a k ty vs := by
  obtain ⟨c, A, q, s, l, H, f⟩ := F
  have hs : c.slots.size = vs.length := s.trans hl
  have e : c.slots = vs.toArray := by
    apply Array.ext_getElem?
    intro i
    by_cases hi : i < c.slots.size
    · rw [H i hi]
      have hi' : i < vs.length := hs ▸ hi
      simp [List.getD, List.getElem?_eq_getElem hi']
    · rw [Array.getElem?_eq_none (Nat.le_of_not_lt hi), Array.getElem?_eq_none (by simpa [← hs] using Nat.le_of_not_lt hi)]
  refine ⟨c, A, q, e, ?_, fun v hv => ?_⟩
  · rw [← hl]; have := z.toInt_lt; rw [Int32.toNatClampNeg]; omega
  · obtain ⟨i, hi, rfl⟩ := List.mem_iff_getElem.mp hv
    have := f i (hs ▸ hi)
    simpa [List.getD, List.getElem?_eq_getElem hi] using this
end OwnArr
section OwnArrSteps
variable {p : Program} {l : Launch} {e : Env} {R : Room} {s : State} {m : MethodId} {args : Array Value} {below : List Frame} {meth : Method} {c : Code} {T : State} {locs : List Loc} {cells slots : Nat} {Z : State} {a0 : Array Value} {h : Heap} {a : Addr} {k : ClassId} {ty : FieldType} {vs : List Value} {v : Value}
theorem own_inb {c : Cell} {vs : List Value} {j : Int32} (hs : c.slots = vs.toArray) (h0 : ¬ j < 0) (hj : j.toNatClampNeg < vs.length) : ¬ (j < 0 ∨ c.slots.size ≤ j.toNatClampNeg) := by
  rw [hs]; rintro (q | q)
  · exact h0 q
  · simp only [List.size_toArray] at q; omega
theorem own_arrlen (X : Stand p l e R s m args below meth c T locs cells slots) (hx : p.tables.exec = Jvm.exec) (hZ : Z.Warmed39 s.vm) (eT : T.heap = h) (F : own_Ar Z h a k ty vs) {n : Int32} (hn : Int32.ofNat vs.length = n) {g : JFrame} (hg : g.method = m) {rest : List Value} (hs : g.stack = .ref a :: rest) (hd : decode c.code g.pc = .ok (.arraylength, 1)) :
    ∀ target, Steps p.tables e below (T.setTop { g with pc := g.pc + 1, stack := .int n :: rest }) target → Steps p.tables e below (T.setTop g) target := by
  obtain ⟨cl, A, q, sz, ln, f⟩ := F
  intro t kk
  refine X.arraylength hx (by rw [eT]; exact A.1) (State.isArrayOf_alike hZ.alike A.2.1) hg hs hd t ?_
  have : cl.slots.size.toInt32 = n := by rw [sz, ← hn]; rfl
  rw [this]; exact kk
theorem own_iaload (X : Stand p l e R s m args below meth c T locs cells slots) (hx : p.tables.exec = Jvm.exec) (hZ : Z.Warmed39 s.vm) (eT : T.heap = h) (F : own_Ar Z h a k .int vs) {j : Int32} (h0 : ¬ j < 0) {i : Nat} (hj : j.toNatClampNeg = i) (hv : vs[i]? = some v) {g : JFrame} (hg : g.method = m) {rest : List Value} (hs : g.stack = .int j :: .ref a :: rest) (hd : decode c.code g.pc = .ok (.iaload, 1)) :
    ∀ target, Steps p.tables e below (T.setTop { g with pc := g.pc + 1, stack := v :: rest }) target → Steps p.tables e below (T.setTop g) target := by
  obtain ⟨cl, A, q, sz, ln, f⟩ := F
  subst hj
  exact X.iaload hx (by rw [eT]; exact A.1) (State.isArrayOf_alike hZ.alike A.2.1) A.2.2 (own_inb sz h0 (List.getElem?_eq_some_iff.mp hv).1) (by rw [sz]; simpa using hv) hg hs hd
theorem own_laload (X : Stand p l e R s m args below meth c T locs cells slots) (hx : p.tables.exec = Jvm.exec) (hZ : Z.Warmed39 s.vm) (eT : T.heap = h) (F : own_Ar Z h a k .long vs) {j : Int32} (h0 : ¬ j < 0) {i : Nat} (hj : j.toNatClampNeg = i) (hv : vs[i]? = some v) {g : JFrame} (hg : g.method = m) {rest : List Value} (hs : g.stack = .int j :: .ref a :: rest) (hd : decode c.code g.pc = .ok (.laload, 1)) :
    ∀ target, Steps p.tables e below (T.setTop { g with pc := g.pc + 1, stack := v :: rest }) target → Steps p.tables e below (T.setTop g) target := by
  obtain ⟨cl, A, q, sz, ln, f⟩ := F
  subst hj
  exact X.laload hx (by rw [eT]; exact A.1) (State.isArrayOf_alike hZ.alike A.2.1) A.2.2 (own_inb sz h0 (List.getElem?_eq_some_iff.mp hv).1) (by rw [sz]; simpa using hv) hg hs hd
theorem own_baload (X : Stand p l e R s m args below meth c T locs cells slots) (hx : p.tables.exec = Jvm.exec) (hZ : Z.Warmed39 s.vm) (eT : T.heap = h) (F : own_Ar Z h a k .byte vs) {j : Int32} (h0 : ¬ j < 0) {i : Nat} (hj : j.toNatClampNeg = i) (hv : vs[i]? = some v) {g : JFrame} (hg : g.method = m) {rest : List Value} (hs : g.stack = .int j :: .ref a :: rest) (hd : decode c.code g.pc = .ok (.baload, 1)) :
    ∀ target, Steps p.tables e below (T.setTop { g with pc := g.pc + 1, stack := v :: rest }) target → Steps p.tables e below (T.setTop g) target := by
  obtain ⟨cl, A, q, sz, ln, f⟩ := F
  subst hj
  exact X.baloadBytes hx (by rw [eT]; exact A.1) (State.isArrayOf_alike hZ.alike A.2.1) A.2.2 (own_inb sz h0 (List.getElem?_eq_some_iff.mp hv).1) (by rw [sz]; simpa using hv) hg hs hd
theorem own_aaload (X : Stand p l e R s m args below meth c T locs cells slots) (hx : p.tables.exec = Jvm.exec) (hZ : Z.Warmed39 s.vm) (eT : T.heap = h) (F : own_Ar Z h a k ty vs) (hty : ty.isReference = true) {j : Int32} (h0 : ¬ j < 0) {i : Nat} (hj : j.toNatClampNeg = i) (hv : vs[i]? = some v) {g : JFrame} (hg : g.method = m) {rest : List Value} (hs : g.stack = .int j :: .ref a :: rest) (hd : decode c.code g.pc = .ok (.aaload, 1)) :
    ∀ target, Steps p.tables e below (T.setTop { g with pc := g.pc + 1, stack := v :: rest }) target → Steps p.tables e below (T.setTop g) target := by
  obtain ⟨cl, A, q, sz, ln, f⟩ := F
  subst hj
  exact X.aaload hx (by rw [eT]; exact A.1) (State.isArrayOf_alike hZ.alike A.2.1) hty A.2.2 (own_inb sz h0 (List.getElem?_eq_some_iff.mp hv).1) (by rw [sz]; simpa using hv) hg hs hd
theorem own_iastore (X : Stand p l e R s m args below meth c T locs cells slots) (hx : p.tables.exec = Jvm.exec) (hZ : Z.Warmed39 s.vm) (eT : T.heap = h) (F : own_Ar Z h a k .int vs) {j x : Int32} (h0 : ¬ j < 0) {i : Nat} (hj : j.toNatClampNeg = i) (hi : i < vs.length) {g : JFrame} (hg : g.method = m) {rest : List Value} (hs : g.stack = .int x :: .int j :: .ref a :: rest) (hd : decode c.code g.pc = .ok (.iastore, 1)) :
    ∃ T' h', Stand p l e R s m args below meth c T' (locs ++ [⟨a, i⟩]) cells slots ∧ T'.heap = h' ∧ Wr h h' a i (.int x) ∧ own_Ar Z h' a k .int (vs.set i (.int x)) ∧ ∀ target, Steps p.tables e below (T'.setTop { g with pc := g.pc + 1, stack := rest }) target → Steps p.tables e below (T.setTop g) target := by
  have F' := F
  obtain ⟨cl, A, q, sz, ln, f⟩ := F
  subst hj
  obtain ⟨T', h', X', e', W, st⟩ := stI X hx hZ eT A (own_inb sz h0 hi) hg hs hd
  exact ⟨T', h', X', e', W, F'.set W rfl, st⟩
theorem own_lastore (X : Stand p l e R s m args below meth c T locs cells slots) (hx : p.tables.exec = Jvm.exec) (hZ : Z.Warmed39 s.vm) (eT : T.heap = h) (F : own_Ar Z h a k .long vs) {j : Int32} {x : Int64} (h0 : ¬ j < 0) {i : Nat} (hj : j.toNatClampNeg = i) (hi : i < vs.length) {g : JFrame} (hg : g.method = m) {rest : List Value} (hs : g.stack = .long x :: .int j :: .ref a :: rest) (hd : decode c.code g.pc = .ok (.lastore, 1)) :
    ∃ T' h', Stand p l e R s m args below meth c T' (locs ++ [⟨a, i⟩]) cells slots ∧ T'.heap = h' ∧ Wr h h' a i (.long x) ∧ own_Ar Z h' a k .long (vs.set i (.long x)) ∧ ∀ target, Steps p.tables e below (T'.setTop { g with pc := g.pc + 1, stack := rest }) target → Steps p.tables e below (T.setTop g) target := by
  have F' := F
  obtain ⟨cl, A, q, sz, ln, f⟩ := F
  subst hj
  obtain ⟨T', h', X', e', W, st⟩ := stJ X hx hZ eT A (own_inb sz h0 hi) hg hs hd
  exact ⟨T', h', X', e', W, F'.set W rfl, st⟩
theorem own_bastore (X : Stand p l e R s m args below meth c T locs cells slots) (hx : p.tables.exec = Jvm.exec) (hZ : Z.Warmed39 s.vm) (eT : T.heap = h) (F : own_Ar Z h a k .byte vs) {j x : Int32} (h0 : ¬ j < 0) {i : Nat} (hj : j.toNatClampNeg = i) (hi : i < vs.length) {g : JFrame} (hg : g.method = m) {rest : List Value} (hs : g.stack = .int x :: .int j :: .ref a :: rest) (hd : decode c.code g.pc = .ok (.bastore, 1)) :
    ∃ T' h', Stand p l e R s m args below meth c T' (locs ++ [⟨a, i⟩]) cells slots ∧ T'.heap = h' ∧ Wr h h' a i (.int x.toInt8.toInt32) ∧ own_Ar Z h' a k .byte (vs.set i (.int x.toInt8.toInt32)) ∧ ∀ target, Steps p.tables e below (T'.setTop { g with pc := g.pc + 1, stack := rest }) target → Steps p.tables e below (T.setTop g) target := by
  have F' := F
  obtain ⟨cl, A, q, sz, ln, f⟩ := F
  subst hj
  obtain ⟨T', h', X', e', W, st⟩ := stB X hx hZ eT A (own_inb sz h0 hi) hg hs hd
  exact ⟨T', h', X', e', W, F'.set W (fits_nar_byte _), st⟩
theorem own_aastore (X : Stand p l e R s m args below meth c T locs cells slots) (hx : p.tables.exec = Jvm.exec) (hZ : Z.Warmed39 s.vm) (eT : T.heap = h) (F : own_Ar Z h a k ty vs) (hty : ty.isReference = true) (hfv : fits ty v = true) (S : Sto Z h a v) {j : Int32} (h0 : ¬ j < 0) {i : Nat} (hj : j.toNatClampNeg = i) (hi : i < vs.length) {g : JFrame} (hg : g.method = m) {rest : List Value} (hs : g.stack = v :: .int j :: .ref a :: rest) (hd : decode c.code g.pc = .ok (.aastore, 1)) :
    ∃ T' h', Stand p l e R s m args below meth c T' (locs ++ [⟨a, i⟩]) cells slots ∧ T'.heap = h' ∧ Wr h h' a i v ∧ own_Ar Z h' a k ty (vs.set i v) ∧ ∀ target, Steps p.tables e below (T'.setTop { g with pc := g.pc + 1, stack := rest }) target → Steps p.tables e below (T.setTop g) target := by
  have F' := F
  obtain ⟨cl, A, q, sz, ln, f⟩ := F
  subst hj
  obtain ⟨T', h', X', e', W, st⟩ := stR X hx hZ eT A (own_inb sz h0 hi) hty S hg hs hd
  exact ⟨T', h', X', e', W, F'.set W hfv, st⟩
theorem own_newarr (X : Stand p l e R s m args below meth c T locs cells slots) (hx : p.tables.exec = Jvm.exec) (hZ : Z.Warmed39 s.vm) {aty : ArrayType} (w : (Cond.arrayClass (newarray.typeOf aty)).before a0 Z = true) (eT : T.heap = h) {g : JFrame} (hg : g.method = m) (hd : decode c.code g.pc = .ok (.newarray aty, 2)) {n : Int32} {rest : List Value} (hs : g.stack = .int n :: rest)
    (hn : ¬ n < 0) {cap : Nat} (hcap : n.toNatClampNeg ≤ cap) (hb : cap * 8 ≤ 536870912) (hc : cells + 1 ≤ R.cells) (hl : slots + cap ≤ R.slots) {ad : String} (had : "[" ++ (newarray.typeOf aty).toString = ad) (hf : fits (newarray.typeOf aty) (defaultValue (newarray.typeOf aty)) = true) (hvs : List.replicate n.toNatClampNeg (defaultValue (newarray.typeOf aty)) = vs) :
    ∃ T' h' cA, Stand p l e R s m args below meth c T' locs (cells + 1) (slots + cap) ∧ T'.heap = h' ∧ Ext h h' ∧ own_Ar Z h' h.size cA (newarray.typeOf aty) vs ∧ Exa Z h' h.size ad ∧
      ∀ target, Steps p.tables e below (T'.setTop { g with pc := g.pc + 2, stack := .ref h.size :: rest }) target → Steps p.tables e below (T.setTop g) target := by
  obtain ⟨T', h', cA, X', e', E, A, Ex, st⟩ := newPE X hx hZ w eT hg hd hs hn hcap hb hc hl had
  exact ⟨T', h', cA, X', e', E, hvs ▸ own_Ar.new A hf, Ex, st⟩
theorem own_anewarr (X : Stand p l e R s m args below meth c T locs cells slots) (hx : p.tables.exec = Jvm.exec) (hZ : Z.Warmed39 s.vm) {own C : String} {index : Nat} (hown : s.vm.findClass own = some m.cls) (w1 : (Cond.classLink own index C).before a0 Z = true) (w2 : (Cond.arrayOver (.object C)).before a0 Z = true) (eT : T.heap = h) {g : JFrame} (hg : g.method = m) (hd : decode c.code g.pc = .ok (.anewarray index, 3)) {n : Int32} {rest : List Value} (hs : g.stack = .int n :: rest)
    (hn : ¬ n < 0) {cap : Nat} (hcap : n.toNatClampNeg ≤ cap) (hb : cap * 8 ≤ 536870912) (hc : cells + 1 ≤ R.cells) (hl : slots + cap ≤ R.slots) (hvs : List.replicate n.toNatClampNeg Value.null = vs) :
    ∃ T' h' cA, Stand p l e R s m args below meth c T' locs (cells + 1) (slots + cap) ∧ T'.heap = h' ∧ Ext h h' ∧ own_Ar Z h' h.size cA (.object C) vs ∧ Ovr Z cA C ∧
      ∀ target, Steps p.tables e below (T'.setTop { g with pc := g.pc + 3, stack := .ref h.size :: rest }) target → Steps p.tables e below (T.setTop g) target := by
  obtain ⟨T', h', cA, X', e', E, A, O, st⟩ := newR X hx hZ hown w1 w2 eT hg hd hs hn hcap hb hc hl
  exact ⟨T', h', cA, X', e', E, hvs ▸ own_Ar.new A rfl, O, st⟩
theorem own_arrlenA (X : Stand p l e R s m args below meth c T locs cells slots) (hx : p.tables.exec = Jvm.exec) (hZ : Z.Warmed39 s.vm) (eT : T.heap = h) {cl : Cell} (A : Arr Z h a cl ty) {n : Int32} (hn : cl.slots.size.toInt32 = n) {g : JFrame} (hg : g.method = m) {rest : List Value} (hs : g.stack = .ref a :: rest) (hd : decode c.code g.pc = .ok (.arraylength, 1)) :
    ∀ target, Steps p.tables e below (T.setTop { g with pc := g.pc + 1, stack := .int n :: rest }) target → Steps p.tables e below (T.setTop g) target := by
  subst hn
  exact X.arraylength hx (by rw [eT]; exact A.1) (State.isArrayOf_alike hZ.alike A.2.1) hg hs hd
theorem own_len0 {args : Array Value} {s : State} {t : Term} {a : Addr} {n : Int32} {ty : FieldType} (ev : t.eval args s none [] s = some (.ref a)) (h6 : (Cond.arrayOf t ty).before args s = true) (h8 : (Cond.eq (.length t) (.int n)).before args s = true) : ∃ c : Cell, Arr s s.heap a c ty ∧ c.slots.size.toInt32 = n := by
  obtain ⟨c, A⟩ := Arr.start ev (Cond.before_iff.mp h6)
  have h8 := Cond.before_iff.mp h8
  obtain ⟨x, y, e1, -⟩ := cmp_v (Or.inl h8)
  obtain ⟨b, cell, q1, q2, rfl⟩ := Term.length_spec e1
  cases ev.symm.trans q1
  cases (Arr.fin (State.Warmed39.refl s).alike A).symm.trans q2
  exact ⟨_, A, gotT (Cond.eq_ints e1 (Term.int_eval n)) h8⟩
end OwnArrSteps
theorem own_pd0 : parseMethodDescriptor "()V" = some ⟨[], none⟩ := by decide +kernel
theorem own_pd1 : parseMethodDescriptor "([B)V" = some ⟨[(.array .byte)], none⟩ := by decide +kernel
theorem own_pd2 : parseMethodDescriptor "(J)Ljava/nio/channels/SeekableByteChannel;" = some ⟨[.long], some (.object "java/nio/channels/SeekableByteChannel")⟩ := by decide +kernel
theorem own_pd3 : parseMethodDescriptor "()J" = some ⟨[], some .long⟩ := by decide +kernel
theorem own_pd4 : parseMethodDescriptor "()Z" = some ⟨[], some .boolean⟩ := by decide +kernel
theorem own_pd5 : parseMethodDescriptor "(JLjava/nio/channels/SeekableByteChannel;J[BJ)V" = some ⟨[.long, (.object "java/nio/channels/SeekableByteChannel"), .long, (.array .byte), .long], none⟩ := by decide +kernel
theorem dac_0 : decode jdk_22_method_1_code 0 = .ok (.aload_n 0, 1) := by decide +kernel
theorem dac_1 : decode jdk_22_method_1_code 1 = .ok (.invokespecial 1, 3) := by decide +kernel
theorem dac_4 : decode jdk_22_method_1_code 4 = .ok (.return_, 1) := by decide +kernel
theorem own_pn0 : plainName "java/util/AbstractCollection" = true := by first | (simp [plainName, overriddenIn]; done) | decide +kernel
theorem own_efac (m : MethodId) (a : Addr) : entryFrame m #[(.ref a)] 1 = mkF m 0 #[.val (.ref a)] [] := by first | (simp [entryFrame, mkF, argsToLocals, Value.category]; done) | rfl
set_option maxRecDepth 65536 in
set_option maxHeartbeats 40000000 in
theorem own_rmac (l : Launch) (Z : State) (a0 : Array Value) (hw : ∀ d ∈ tables_1, d.before a0 Z = true) (a : Addr) (h0 : Heap)  :
    own_C l Z (⟨"java/util/AbstractCollection", "<init>", "()V"⟩ : MethodName) jdk_22_method_1_code 1 none [] ({ frames := 1, cells := 0, slots := 0, locals := 12 } : Room) #[(.ref a)] h0 (fun v h L => v = none ∧ L = [] ∧ h = h0) := by
  refine own_body (plainFor_of_name own_pn0) fun p e s m below meth c s₁ hx hby hml hret hlk hown hnm hZ X0 e0 => ?_
  rw [own_efac m a]
  refine own_go (U' := s₁.setTop (mkF m 1 #[.val (.ref a)] [(.ref a)])) (fun t k => XS.aloadN X0.here hx rfl (hb hby dac_0) rfl rfl k) ?_
  obtain ⟨T1, X1, e1, st1⟩ := initO X0 hx hZ hown (hw _ (List.mem_of_getElem? (i := 27) rfl)) (hw _ (List.mem_of_getElem? (i := 7) rfl)) (hw _ (List.mem_of_getElem? (i := 8) rfl)) e0 (g := (mkF m 1 #[.val (.ref a)] [(.ref a)])) rfl (by rw [hml]; rfl) rfl (hb hby dac_1) (by decide) (W := 0) (by show 2 * 0 + _ ≤ _; exact Nat.le_of_eq rfl) (by decide)
  refine own_go (U' := T1.setTop (mkF m 4 #[.val (.ref a)] [])) st1 ?_
  refine own_retV X1 hx hret hlk (hb hby dac_4) ?_ (by decide) (by decide)
  exact ⟨rfl, rfl, e1⟩
theorem dab_0 : decode jdk_39_method_1_code 0 = .ok (.aload_n 0, 1) := by decide +kernel
theorem dab_1 : decode jdk_39_method_1_code 1 = .ok (.invokespecial 1, 3) := by decide +kernel
theorem dab_4 : decode jdk_39_method_1_code 4 = .ok (.aload_n 0, 1) := by decide +kernel
theorem dab_5 : decode jdk_39_method_1_code 5 = .ok (.iconst 0, 1) := by decide +kernel
theorem dab_6 : decode jdk_39_method_1_code 6 = .ok (.putfield 7, 3) := by decide +kernel
theorem dab_9 : decode jdk_39_method_1_code 9 = .ok (.return_, 1) := by decide +kernel
theorem own_pn1 : plainName "java/util/AbstractList" = true := by first | (simp [plainName, overriddenIn]; done) | decide +kernel
theorem own_efab (m : MethodId) (a : Addr) : entryFrame m #[(.ref a)] 1 = mkF m 0 #[.val (.ref a)] [] := by first | (simp [entryFrame, mkF, argsToLocals, Value.category]; done) | rfl
set_option maxRecDepth 65536 in
set_option maxHeartbeats 40000000 in
theorem own_rmab (l : Launch) (Z : State) (a0 : Array Value) (hw : ∀ d ∈ tables_1, d.before a0 Z = true) (a : Addr) (h0 : Heap) (n0 : Nat) (g_a : n0 ≤ a) (u0 u1 u2 : Value) (E_a : Exa Z h0 a "java/util/ArrayList") (F_modCount_a : Fld Z h0 a "java/util/AbstractList" "modCount" "I" u0) (F_elementData_a : Fld Z h0 a "java/util/ArrayList" "elementData" "[Ljava/lang/Object;" u1) (F_size_a : Fld Z h0 a "java/util/ArrayList" "size" "I" u2) :
    own_C l Z (⟨"java/util/AbstractList", "<init>", "()V"⟩ : MethodName) jdk_39_method_1_code 1 none [] ({ frames := 2, cells := 0, slots := 0, locals := 24 } : Room) #[(.ref a)] h0 (fun v h L => v = none ∧ Fr n0 L ∧ Keep h0 h [a] ∧ Fld Z h a "java/util/AbstractList" "modCount" "I" (.int 0) ∧ Fld Z h a "java/util/ArrayList" "elementData" "[Ljava/lang/Object;" u1 ∧ Fld Z h a "java/util/ArrayList" "size" "I" u2) := by
  refine own_body (plainFor_of_name own_pn1) fun p e s m below meth c s₁ hx hby hml hret hlk hown hnm hZ X0 e0 => ?_
  rw [own_efab m a]
  have N0 := Fr.nil n0
  have K := Keep.refl h0 [a]
  refine own_go (U' := s₁.setTop (mkF m 1 #[.val (.ref a)] [(.ref a)])) (fun t k => XS.aloadN X0.here hx rfl (hb hby dab_0) rfl rfl k) ?_
  obtain ⟨v1, T1, h1, L1, e1, X1, hQ1, st1⟩ := own_callC X0 hx hZ (y := (⟨"java/util/AbstractCollection", "<init>", "()V"⟩ : MethodName)) rfl hown (hw _ (List.mem_of_getElem? (i := 21) rfl)) (hw _ (List.mem_of_getElem? (i := 22) rfl)) (hw _ (List.mem_of_getElem? (i := 25) rfl)) (hw _ (List.mem_of_getElem? (i := 26) rfl)) (by decide) (a := a) (own_rmac l Z a0 hw a h0) (W := 0) (by decide) (by decide) (g := (mkF m 1 #[.val (.ref a)] [(.ref a)])) rfl (by rw [hml]; rfl) (argsL := []) (rest := []) (lenOf own_pd0 rfl) rfl rfl (by show 2 * 0 + _ ≤ _; exact Nat.le_of_eq rfl) (hb hby dab_1) e0 (by decide) (by decide)
  obtain ⟨rfl, rfl, eh1⟩ := hQ1
  have e1 := e1.trans eh1
  rw [List.append_nil] at X1
  refine own_go (U' := T1.setTop (mkF m 4 #[.val (.ref a)] [])) st1 ?_
  refine own_go (U' := T1.setTop (mkF m 5 #[.val (.ref a)] [(.ref a)])) (fun t k => XS.aloadN X1.here hx rfl (hb hby dab_4) rfl rfl k) ?_
  refine own_go (U' := T1.setTop (mkF m 6 #[.val (.ref a)] [(.int (0 : Int32)), (.ref a)])) (fun t k => XS.iconst X1.here hx rfl (hb hby dab_5) k) ?_
  obtain ⟨T2, h2, X2, e2, W2, st2⟩ := putF X1 hx hZ hown (host := "") (Or.inl (hw _ (List.mem_of_getElem? (i := 28) rfl))) Via.refl e1 F_modCount_a E_a (Or.inl (hw _ (List.mem_of_getElem? (i := 29) rfl))) (hw _ (List.mem_of_getElem? (i := 10) rfl)) (ty := .int) (by decide) rfl rfl (g := (mkF m 6 #[.val (.ref a)] [(.int (0 : Int32)), (.ref a)])) rfl rfl (hb hby dab_6)
  have K := K.wr W2 (Or.inl (List.mem_of_getElem? (i := 0) rfl))
  have E_a := E_a.wr W2
  have F_elementData_a := F_elementData_a.other W2 (Or.inr (slot_ne (Or.inl (hw _ (List.mem_of_getElem? (i := 32) rfl))) (Or.inl (hw _ (List.mem_of_getElem? (i := 29) rfl))) (by decide) (t := (.array (.object "java/lang/Object"))) (t' := .int) (by decide) (by decide)))
  have F_size_a := F_size_a.other W2 (Or.inr (slot_ne (Or.inl (hw _ (List.mem_of_getElem? (i := 106) rfl))) (Or.inl (hw _ (List.mem_of_getElem? (i := 29) rfl))) (by decide) (t := .int) (t' := .int) (by decide) (by decide)))
  have F_modCount_a := F_modCount_a.same W2
  have N2 := Fr.snoc X2 N0 g_a
  refine own_go (U' := T2.setTop (mkF m 9 #[.val (.ref a)] [])) st2 ?_
  refine own_retV X2 hx hret hlk (hb hby dab_9) ?_ (by decide) (by decide)
  rw [e2]
  exact ⟨rfl, N2, K, F_modCount_a, F_elementData_a, F_size_a⟩
theorem dal_0 : decode jdk_38_method_2_code 0 = .ok (.aload_n 0, 1) := by decide +kernel
theorem dal_1 : decode jdk_38_method_2_code 1 = .ok (.invokespecial 1, 3) := by decide +kernel
theorem dal_4 : decode jdk_38_method_2_code 4 = .ok (.aload_n 0, 1) := by decide +kernel
theorem dal_5 : decode jdk_38_method_2_code 5 = .ok (.getstatic 39, 3) := by decide +kernel
theorem dal_8 : decode jdk_38_method_2_code 8 = .ok (.putfield 9, 3) := by decide +kernel
theorem dal_11 : decode jdk_38_method_2_code 11 = .ok (.return_, 1) := by decide +kernel
theorem own_pn2 : plainName "java/util/ArrayList" = true := by first | (simp [plainName, overriddenIn]; done) | decide +kernel
theorem own_efal (m : MethodId) (a : Addr) : entryFrame m #[(.ref a)] 1 = mkF m 0 #[.val (.ref a)] [] := by first | (simp [entryFrame, mkF, argsToLocals, Value.category]; done) | rfl
set_option maxRecDepth 65536 in
set_option maxHeartbeats 40000000 in
theorem own_rmal (l : Launch) (Z : State) (a0 : Array Value) (hw : ∀ d ∈ tables_1, d.before a0 Z = true) (a : Addr) (h0 : Heap) (n0 : Nat) (g_a : n0 ≤ a) (u0 u1 u2 : Value) (dd : Addr) (O : Old Z n0 h0) (S_dd : Sta Z Z.heap "java/util/ArrayList" "DEFAULTCAPACITY_EMPTY_ELEMENTDATA" "[Ljava/lang/Object;" (.ref dd)) (E_a : Exa Z h0 a "java/util/ArrayList") (F_modCount_a : Fld Z h0 a "java/util/AbstractList" "modCount" "I" u0) (F_elementData_a : Fld Z h0 a "java/util/ArrayList" "elementData" "[Ljava/lang/Object;" u1) (F_size_a : Fld Z h0 a "java/util/ArrayList" "size" "I" u2) :
    own_C l Z (⟨"java/util/ArrayList", "<init>", "()V"⟩ : MethodName) jdk_38_method_2_code 1 none [] ({ frames := 3, cells := 0, slots := 0, locals := 36 } : Room) #[(.ref a)] h0 (fun v h L => v = none ∧ Fr n0 L ∧ Keep h0 h [a] ∧ Fld Z h a "java/util/AbstractList" "modCount" "I" (.int 0) ∧ Fld Z h a "java/util/ArrayList" "elementData" "[Ljava/lang/Object;" (.ref dd) ∧ Fld Z h a "java/util/ArrayList" "size" "I" u2) := by
  refine own_body (plainFor_of_name own_pn2) fun p e s m below meth c s₁ hx hby hml hret hlk hown hnm hZ X0 e0 => ?_
  rw [own_efal m a]
  have N0 := Fr.nil n0
  have K := Keep.refl h0 [a]
  refine own_go (U' := s₁.setTop (mkF m 1 #[.val (.ref a)] [(.ref a)])) (fun t k => XS.aloadN X0.here hx rfl (hb hby dal_0) rfl rfl k) ?_
  obtain ⟨v1, T1, h1, L1, e1, X1, hQ1, st1⟩ := own_callC X0 hx hZ (y := (⟨"java/util/AbstractList", "<init>", "()V"⟩ : MethodName)) rfl hown (hw _ (List.mem_of_getElem? (i := 15) rfl)) (hw _ (List.mem_of_getElem? (i := 16) rfl)) (hw _ (List.mem_of_getElem? (i := 19) rfl)) (hw _ (List.mem_of_getElem? (i := 20) rfl)) (by decide) (a := a) (own_rmab l Z a0 hw a h0 n0 g_a u0 u1 u2 E_a F_modCount_a F_elementData_a F_size_a) (W := 0) (by decide) (by decide) (g := (mkF m 1 #[.val (.ref a)] [(.ref a)])) rfl (by rw [hml]; rfl) (argsL := []) (rest := []) (lenOf own_pd0 rfl) rfl rfl (by show 2 * 0 + _ ≤ _; exact Nat.le_of_eq rfl) (hb hby dal_1) e0 (by decide) (by decide)
  obtain ⟨rfl, Nq, Kq, F_modCount_a, F_elementData_a, F_size_a⟩ := hQ1
  have K := K.trans Kq (allS (Or.inl (List.mem_of_getElem? (i := 0) rfl)) all0)
  have O := O.keep Kq (allS g_a all0)
  have E_a := E_a.keep Kq
  have N1 := Fr.app N0 Nq
  refine own_go (U' := T1.setTop (mkF m 4 #[.val (.ref a)] [])) st1 ?_
  refine own_go (U' := T1.setTop (mkF m 5 #[.val (.ref a)] [(.ref a)])) (fun t k => XS.aloadN X1.here hx rfl (hb hby dal_4) rfl rfl k) ?_
  obtain ⟨T2, X2, e2, st2⟩ := getS2 X1 hx hZ hown (host := "") (Or.inl (hw _ (List.mem_of_getElem? (i := 30) rfl))) Via.refl e1 (S_dd.ext O.2) (g := (mkF m 5 #[.val (.ref a)] [(.ref a)])) rfl (hb hby dal_5)
  refine own_go (U' := T2.setTop (mkF m 8 #[.val (.ref a)] [(.ref dd), (.ref a)])) st2 ?_
  obtain ⟨T3, h3, X3, e3, W3, st3⟩ := putF X2 hx hZ hown (host := "") (Or.inl (hw _ (List.mem_of_getElem? (i := 31) rfl))) Via.refl e2 F_elementData_a E_a (Or.inl (hw _ (List.mem_of_getElem? (i := 32) rfl))) (hw _ (List.mem_of_getElem? (i := 10) rfl)) (ty := (.array (.object "java/lang/Object"))) (by decide) rfl rfl (g := (mkF m 8 #[.val (.ref a)] [(.ref dd), (.ref a)])) rfl rfl (hb hby dal_8)
  have K := K.wr W3 (Or.inl (List.mem_of_getElem? (i := 0) rfl))
  have O := O.wr W3 g_a
  have E_a := E_a.wr W3
  have F_modCount_a := F_modCount_a.other W3 (Or.inr (slot_ne (Or.inl (hw _ (List.mem_of_getElem? (i := 29) rfl))) (Or.inl (hw _ (List.mem_of_getElem? (i := 32) rfl))) (by decide) (t := .int) (t' := (.array (.object "java/lang/Object"))) (by decide) (by decide)))
  have F_size_a := F_size_a.other W3 (Or.inr (slot_ne (Or.inl (hw _ (List.mem_of_getElem? (i := 106) rfl))) (Or.inl (hw _ (List.mem_of_getElem? (i := 32) rfl))) (by decide) (t := .int) (t' := (.array (.object "java/lang/Object"))) (by decide) (by decide)))
  have F_elementData_a := F_elementData_a.same W3
  have N3 := Fr.snoc X3 N1 g_a
  refine own_go (U' := T3.setTop (mkF m 11 #[.val (.ref a)] [])) st3 ?_
  refine own_retV X3 hx hret hlk (hb hby dal_11) ?_ (by decide) (by decide)
  rw [e3]
  exact ⟨rfl, N3, K, F_modCount_a, F_elementData_a, F_size_a⟩
theorem dre_0 : decode jdk_30_method_1_code 0 = .ok (.aload_n 0, 1) := by decide +kernel
theorem dre_1 : decode jdk_30_method_1_code 1 = .ok (.invokespecial 1, 3) := by decide +kernel
theorem dre_4 : decode jdk_30_method_1_code 4 = .ok (.return_, 1) := by decide +kernel
theorem own_pn3 : plainName "java/lang/Record" = true := by first | (simp [plainName, overriddenIn]; done) | decide +kernel
theorem own_efre (m : MethodId) (a : Addr) : entryFrame m #[(.ref a)] 1 = mkF m 0 #[.val (.ref a)] [] := by first | (simp [entryFrame, mkF, argsToLocals, Value.category]; done) | rfl
set_option maxRecDepth 65536 in
set_option maxHeartbeats 40000000 in
theorem own_rmre (l : Launch) (Z : State) (a0 : Array Value) (hw : ∀ d ∈ tables_1, d.before a0 Z = true) (a : Addr) (h0 : Heap)  :
    own_C l Z (⟨"java/lang/Record", "<init>", "()V"⟩ : MethodName) jdk_30_method_1_code 1 none [] ({ frames := 1, cells := 0, slots := 0, locals := 12 } : Room) #[(.ref a)] h0 (fun v h L => v = none ∧ L = [] ∧ h = h0) := by
  refine own_body (plainFor_of_name own_pn3) fun p e s m below meth c s₁ hx hby hml hret hlk hown hnm hZ X0 e0 => ?_
  rw [own_efre m a]
  refine own_go (U' := s₁.setTop (mkF m 1 #[.val (.ref a)] [(.ref a)])) (fun t k => XS.aloadN X0.here hx rfl (hb hby dre_0) rfl rfl k) ?_
  obtain ⟨T1, X1, e1, st1⟩ := initO X0 hx hZ hown (hw _ (List.mem_of_getElem? (i := 83) rfl)) (hw _ (List.mem_of_getElem? (i := 7) rfl)) (hw _ (List.mem_of_getElem? (i := 8) rfl)) e0 (g := (mkF m 1 #[.val (.ref a)] [(.ref a)])) rfl (by rw [hml]; rfl) rfl (hb hby dre_1) (by decide) (W := 0) (by show 2 * 0 + _ ≤ _; exact Nat.le_of_eq rfl) (by decide)
  refine own_go (U' := T1.setTop (mkF m 4 #[.val (.ref a)] [])) st1 ?_
  refine own_retV X1 hx hret hlk (hb hby dre_4) ?_ (by decide) (by decide)
  exact ⟨rfl, rfl, e1⟩
theorem own_pd6 : parseMethodDescriptor "(II)I" = some ⟨[.int, .int], some .int⟩ := by decide +kernel
def own_max (a b : Int32) : Int32 := if a < b then b else a
theorem dmx_0 : decode jdk_29_method_65_code 0 = .ok (.iload_n 0, 1) := by decide +kernel
theorem dmx_1 : decode jdk_29_method_65_code 1 = .ok (.iload_n 1, 1) := by decide +kernel
theorem dmx_2 : decode jdk_29_method_65_code 2 = .ok (.if_icmp .lt 7, 3) := by decide +kernel
theorem dmx_5 : decode jdk_29_method_65_code 5 = .ok (.iload_n 0, 1) := by decide +kernel
theorem dmx_6 : decode jdk_29_method_65_code 6 = .ok (.goto 4, 3) := by decide +kernel
theorem dmx_9 : decode jdk_29_method_65_code 9 = .ok (.iload_n 1, 1) := by decide +kernel
theorem dmx_10 : decode jdk_29_method_65_code 10 = .ok (.ireturn, 1) := by decide +kernel
theorem own_efmx (m : MethodId) (p1 p2 : Int32) : entryFrame m #[(.int p1), (.int p2)] 2 = mkF m 0 #[.val (.int p1), .val (.int p2)] [] := by first | (simp [entryFrame, mkF, argsToLocals, Value.category]; done) | rfl
set_option maxRecDepth 65536 in
set_option maxHeartbeats 40000000 in
theorem own_rmmx (l : Launch) (Z : State) (a0 : Array Value) (hw : ∀ d ∈ tables_1, d.before a0 Z = true) (p1 p2 : Int32) (h0 : Heap)  :
    own_C l Z (⟨"java/lang/Math", "max", "(II)I"⟩ : MethodName) jdk_29_method_65_code 2 (some .int) [] ({ frames := 0, cells := 0, slots := 0, locals := 0 } : Room) #[(.int p1), (.int p2)] h0 (fun v h L => v = some (.int (own_max p1 p2)) ∧ L = [] ∧ h = h0) := by
  refine own_body (Jvm.Free.JP.mathPlain rfl (by decide +kernel)) fun p e s m below meth c s₁ hx hby hml hret hlk hown hnm hZ X0 e0 => ?_
  rw [own_efmx m p1 p2]
  refine own_go (U' := s₁.setTop (mkF m 1 #[.val (.int p1), .val (.int p2)] [(.int p1)])) (fun t k => XS.iloadN X0.here hx rfl (hb hby dmx_0) rfl k) ?_
  refine own_go (U' := s₁.setTop (mkF m 2 #[.val (.int p1), .val (.int p2)] [(.int p2), (.int p1)])) (fun t k => XS.iloadN X0.here hx rfl (hb hby dmx_1) rfl k) ?_
  by_cases hc2 : p1 < p2
  · refine own_go (U' := s₁.setTop (mkF m 9 #[.val (.int p1), .val (.int p2)] [])) (fun t k => XS.icmpYes X0.here hx rfl (pc0 := 2) (pc' := 9) rfl (hb hby dmx_2) rfl (tlt hc2).1 (by decide) (by decide) k) ?_
    refine own_go (U' := s₁.setTop (mkF m 10 #[.val (.int p1), .val (.int p2)] [(.int p2)])) (fun t k => XS.iloadN X0.here hx rfl (hb hby dmx_9) rfl k) ?_
    refine own_retI X0 hx hret hlk (hb hby dmx_10) ?_ (by decide) (by decide)
    refine ⟨?_, rfl, e0⟩
    rw [own_max, if_pos hc2]
  · refine own_go (U' := s₁.setTop (mkF m 5 #[.val (.int p1), .val (.int p2)] [])) (fun t k => XS.icmpNo X0.here hx rfl (hb hby dmx_2) rfl (flt hc2).1 k) ?_
    refine own_go (U' := s₁.setTop (mkF m 6 #[.val (.int p1), .val (.int p2)] [(.int p1)])) (fun t k => XS.iloadN X0.here hx rfl (hb hby dmx_5) rfl k) ?_
    refine own_go (U' := s₁.setTop (mkF m 10 #[.val (.int p1), .val (.int p2)] [(.int p1)])) (fun t k => XS.goto X0.here hx rfl (pc0 := 6) (pc' := 10) rfl (hb hby dmx_6) (by decide) (by decide) k) ?_
    refine own_retI X0 hx hret hlk (hb hby dmx_10) ?_ (by decide) (by decide)
    refine ⟨?_, rfl, e0⟩
    rw [own_max, if_neg hc2]
theorem own_pd7 : parseMethodDescriptor "(I)[Ljava/lang/Object;" = some ⟨[.int], some (.array (.object "java/lang/Object"))⟩ := by decide +kernel
theorem own_pd8 : parseMethodDescriptor "()[Ljava/lang/Object;" = some ⟨[], some (.array (.object "java/lang/Object"))⟩ := by decide +kernel
theorem dg1_0 : decode jdk_38_method_6_code 0 = .ok (.aload_n 0, 1) := by decide +kernel
theorem dg1_1 : decode jdk_38_method_6_code 1 = .ok (.getfield 9, 3) := by decide +kernel
theorem dg1_4 : decode jdk_38_method_6_code 4 = .ok (.arraylength, 1) := by decide +kernel
theorem dg1_5 : decode jdk_38_method_6_code 5 = .ok (.istore_n 2, 1) := by decide +kernel
theorem dg1_6 : decode jdk_38_method_6_code 6 = .ok (.iload_n 2, 1) := by decide +kernel
theorem dg1_7 : decode jdk_38_method_6_code 7 = .ok (.ifCond .gt 13, 3) := by decide +kernel
theorem dg1_10 : decode jdk_38_method_6_code 10 = .ok (.aload_n 0, 1) := by decide +kernel
theorem dg1_11 : decode jdk_38_method_6_code 11 = .ok (.getfield 9, 3) := by decide +kernel
theorem dg1_14 : decode jdk_38_method_6_code 14 = .ok (.getstatic 39, 3) := by decide +kernel
theorem dg1_17 : decode jdk_38_method_6_code 17 = .ok (.if_acmp .eq 28, 3) := by decide +kernel
theorem dg1_20 : decode jdk_38_method_6_code 20 = .ok (.iload_n 2, 1) := by decide +kernel
theorem dg1_21 : decode jdk_38_method_6_code 21 = .ok (.iload_n 1, 1) := by decide +kernel
theorem dg1_22 : decode jdk_38_method_6_code 22 = .ok (.iload_n 2, 1) := by decide +kernel
theorem dg1_23 : decode jdk_38_method_6_code 23 = .ok (.isub, 1) := by decide +kernel
theorem dg1_24 : decode jdk_38_method_6_code 24 = .ok (.iload_n 2, 1) := by decide +kernel
theorem dg1_25 : decode jdk_38_method_6_code 25 = .ok (.iconst 1, 1) := by decide +kernel
theorem dg1_26 : decode jdk_38_method_6_code 26 = .ok (.ishr, 1) := by decide +kernel
theorem dg1_27 : decode jdk_38_method_6_code 27 = .ok (.invokestatic 73, 3) := by decide +kernel
theorem dg1_30 : decode jdk_38_method_6_code 30 = .ok (.istore_n 3, 1) := by decide +kernel
theorem dg1_31 : decode jdk_38_method_6_code 31 = .ok (.aload_n 0, 1) := by decide +kernel
theorem dg1_32 : decode jdk_38_method_6_code 32 = .ok (.aload_n 0, 1) := by decide +kernel
theorem dg1_33 : decode jdk_38_method_6_code 33 = .ok (.getfield 9, 3) := by decide +kernel
theorem dg1_36 : decode jdk_38_method_6_code 36 = .ok (.iload_n 3, 1) := by decide +kernel
theorem dg1_37 : decode jdk_38_method_6_code 37 = .ok (.invokestatic 66, 3) := by decide +kernel
theorem dg1_40 : decode jdk_38_method_6_code 40 = .ok (.dup_x1, 1) := by decide +kernel
theorem dg1_41 : decode jdk_38_method_6_code 41 = .ok (.putfield 9, 3) := by decide +kernel
theorem dg1_44 : decode jdk_38_method_6_code 44 = .ok (.areturn, 1) := by decide +kernel
theorem dg1_45 : decode jdk_38_method_6_code 45 = .ok (.aload_n 0, 1) := by decide +kernel
theorem dg1_46 : decode jdk_38_method_6_code 46 = .ok (.bipush 10, 2) := by decide +kernel
theorem dg1_48 : decode jdk_38_method_6_code 48 = .ok (.iload_n 1, 1) := by decide +kernel
theorem dg1_49 : decode jdk_38_method_6_code 49 = .ok (.invokestatic 79, 3) := by decide +kernel
theorem dg1_52 : decode jdk_38_method_6_code 52 = .ok (.anewarray 7, 3) := by decide +kernel
theorem dg1_55 : decode jdk_38_method_6_code 55 = .ok (.dup_x1, 1) := by decide +kernel
theorem dg1_56 : decode jdk_38_method_6_code 56 = .ok (.putfield 9, 3) := by decide +kernel
theorem dg1_59 : decode jdk_38_method_6_code 59 = .ok (.areturn, 1) := by decide +kernel
theorem own_efg1 (m : MethodId) (a : Addr) : entryFrame m #[(.ref a), (.int (1 : Int32))] 4 = mkF m 0 #[.val (.ref a), .val (.int (1 : Int32)), .unset, .unset] [] := by first | (simp [entryFrame, mkF, argsToLocals, Value.category]; done) | rfl
set_option maxRecDepth 65536 in
set_option maxHeartbeats 40000000 in
theorem own_rmg1 (l : Launch) (Z : State) (a0 : Array Value) (hw : ∀ d ∈ tables_1, d.before a0 Z = true) (a : Addr) (h0 : Heap) (n0 : Nat) (g_a : n0 ≤ a) (mc : Int32) (dd : Addr) (cdd : Cell) (O : Old Z n0 h0) (S_dd : Sta Z Z.heap "java/util/ArrayList" "DEFAULTCAPACITY_EMPTY_ELEMENTDATA" "[Ljava/lang/Object;" (.ref dd)) (A_dd : Arr Z Z.heap dd cdd (.object "java/lang/Object")) (hcdd : cdd.slots.size.toInt32 = 0) (E_a : Exa Z h0 a "java/util/ArrayList") (F_modCount_a : Fld Z h0 a "java/util/AbstractList" "modCount" "I" (.int mc)) (F_elementData_a : Fld Z h0 a "java/util/ArrayList" "elementData" "[Ljava/lang/Object;" (.ref dd)) (F_size_a : Fld Z h0 a "java/util/ArrayList" "size" "I" (.int 0)) :
    own_C l Z (⟨"java/util/ArrayList", "grow", "(I)[Ljava/lang/Object;"⟩ : MethodName) jdk_38_method_6_code 4 (some (.array (.object "java/lang/Object"))) [] ({ frames := 1, cells := 1, slots := 10, locals := 14 } : Room) #[(.ref a), (.int (1 : Int32))] h0 (fun v h L => ∃ x kx, v = some (.ref x) ∧ Fr n0 L ∧ Keep h0 h [a] ∧ n0 ≤ x ∧ h0.size ≤ x ∧ Fld Z h a "java/util/AbstractList" "modCount" "I" (.int mc) ∧ Fld Z h a "java/util/ArrayList" "elementData" "[Ljava/lang/Object;" (.ref x) ∧ Fld Z h a "java/util/ArrayList" "size" "I" (.int 0) ∧ own_Ar Z h x kx (.object "java/lang/Object") (List.replicate 10 .null) ∧ Ovr Z kx "java/lang/Object") := by
  refine own_body (plainFor_of_name own_pn2) fun p e s m below meth c s₁ hx hby hml hret hlk hown hnm hZ X0 e0 => ?_
  rw [own_efg1 m a]
  have N0 := Fr.nil n0
  have K := Keep.refl h0 [a]
  refine own_go (U' := s₁.setTop (mkF m 1 #[.val (.ref a), .val (.int (1 : Int32)), .unset, .unset] [(.ref a)])) (fun t k => XS.aloadN X0.here hx rfl (hb hby dg1_0) rfl rfl k) ?_
  obtain ⟨T1, X1, e1, st1⟩ := getF X0 hx hZ hown (host := "") (Or.inl (hw _ (List.mem_of_getElem? (i := 31) rfl))) Via.refl e0 F_elementData_a (g := (mkF m 1 #[.val (.ref a), .val (.int (1 : Int32)), .unset, .unset] [(.ref a)])) rfl rfl (hb hby dg1_1)
  refine own_go (U' := T1.setTop (mkF m 4 #[.val (.ref a), .val (.int (1 : Int32)), .unset, .unset] [(.ref dd)])) st1 ?_
  refine own_go (U' := T1.setTop (mkF m 5 #[.val (.ref a), .val (.int (1 : Int32)), .unset, .unset] [(.int (0 : Int32))])) (own_arrlenA X1 hx hZ e1 (A_dd.ext O.2) (n := (0 : Int32)) hcdd (g := (mkF m 4 #[.val (.ref a), .val (.int (1 : Int32)), .unset, .unset] [(.ref dd)])) rfl rfl (hb hby dg1_4)) ?_
  refine own_go (U' := T1.setTop (mkF m 6 #[.val (.ref a), .val (.int (1 : Int32)), .val (.int (0 : Int32)), .unset] [])) (fun t k => XS.istoreN X1.here hx rfl (hb hby dg1_5) rfl (l' := #[.val (.ref a), .val (.int (1 : Int32)), .val (.int (0 : Int32)), .unset]) rfl k) ?_
  refine own_go (U' := T1.setTop (mkF m 7 #[.val (.ref a), .val (.int (1 : Int32)), .val (.int (0 : Int32)), .unset] [(.int (0 : Int32))])) (fun t k => XS.iloadN X1.here hx rfl (hb hby dg1_6) rfl k) ?_
  refine own_go (U' := T1.setTop (mkF m 10 #[.val (.ref a), .val (.int (1 : Int32)), .val (.int (0 : Int32)), .unset] [])) (fun t k => XS.ifNo X1.here hx rfl (hb hby dg1_7) rfl ((if0 _ _).trans (flt (by decide)).2.2.1) k) ?_
  refine own_go (U' := T1.setTop (mkF m 11 #[.val (.ref a), .val (.int (1 : Int32)), .val (.int (0 : Int32)), .unset] [(.ref a)])) (fun t k => XS.aloadN X1.here hx rfl (hb hby dg1_10) rfl rfl k) ?_
  obtain ⟨T2, X2, e2, st2⟩ := getF X1 hx hZ hown (host := "") (Or.inl (hw _ (List.mem_of_getElem? (i := 31) rfl))) Via.refl e1 F_elementData_a (g := (mkF m 11 #[.val (.ref a), .val (.int (1 : Int32)), .val (.int (0 : Int32)), .unset] [(.ref a)])) rfl rfl (hb hby dg1_11)
  refine own_go (U' := T2.setTop (mkF m 14 #[.val (.ref a), .val (.int (1 : Int32)), .val (.int (0 : Int32)), .unset] [(.ref dd)])) st2 ?_
  obtain ⟨T3, X3, e3, st3⟩ := getS2 X2 hx hZ hown (host := "") (Or.inl (hw _ (List.mem_of_getElem? (i := 30) rfl))) Via.refl e2 (S_dd.ext O.2) (g := (mkF m 14 #[.val (.ref a), .val (.int (1 : Int32)), .val (.int (0 : Int32)), .unset] [(.ref dd)])) rfl (hb hby dg1_14)
  refine own_go (U' := T3.setTop (mkF m 17 #[.val (.ref a), .val (.int (1 : Int32)), .val (.int (0 : Int32)), .unset] [(.ref dd), (.ref dd)])) st3 ?_
  refine own_go (U' := T3.setTop (mkF m 45 #[.val (.ref a), .val (.int (1 : Int32)), .val (.int (0 : Int32)), .unset] [])) (fun t k => Jvm.RoadKit.acmp (g := (mkF m 17 #[.val (.ref a), .val (.int (1 : Int32)), .val (.int (0 : Int32)), .unset] [(.ref dd), (.ref dd)])) X3 hx rfl rfl rfl (pc0 := 17) (pc' := 45) (same := true) rfl (hb hby dg1_17) rfl (decide_eq_true (congrArg Value.ref rfl)) (by decide) (by decide) k) ?_
  refine own_go (U' := T3.setTop (mkF m 46 #[.val (.ref a), .val (.int (1 : Int32)), .val (.int (0 : Int32)), .unset] [(.ref a)])) (fun t k => XS.aloadN X3.here hx rfl (hb hby dg1_45) rfl rfl k) ?_
  refine own_go (U' := T3.setTop (mkF m 48 #[.val (.ref a), .val (.int (1 : Int32)), .val (.int (0 : Int32)), .unset] [(.int (10 : Int32)), (.ref a)])) (fun t k => XS.bipush X3.here hx rfl (hb hby dg1_46) k) ?_
  refine own_go (U' := T3.setTop (mkF m 49 #[.val (.ref a), .val (.int (1 : Int32)), .val (.int (0 : Int32)), .unset] [(.int (1 : Int32)), (.int (10 : Int32)), (.ref a)])) (fun t k => XS.iloadN X3.here hx rfl (hb hby dg1_48) rfl k) ?_
  obtain ⟨v4, T4, h4, L4, e4, X4, hQ4, st4⟩ := own_callS X3 hx hZ (y := (⟨"java/lang/Math", "max", "(II)I"⟩ : MethodName)) hown (hw _ (List.mem_of_getElem? (i := 122) rfl)) (hw _ (List.mem_of_getElem? (i := 123) rfl)) (hw _ (List.mem_of_getElem? (i := 124) rfl)) (hw _ (List.mem_of_getElem? (i := 125) rfl)) (by decide) (own_rmmx l Z a0 hw 10 1 h0) (W := 1) (by decide) (by decide) (g := (mkF m 49 #[.val (.ref a), .val (.int (1 : Int32)), .val (.int (0 : Int32)), .unset] [(.int (1 : Int32)), (.int (10 : Int32)), (.ref a)])) rfl (by rw [hml]; rfl) (argsL := [(.int (10 : Int32)), (.int (1 : Int32))]) (rest := [(.ref a)]) (lenOf own_pd6 rfl) rfl rfl (by show 2 * 0 + _ ≤ _; exact Nat.le_of_eq rfl) (hb hby dg1_49) e3 (by decide) (by decide)
  obtain ⟨rfl, rfl, eh4⟩ := hQ4
  have e4 := e4.trans eh4
  rw [List.append_nil] at X4
  refine own_go (U' := T4.setTop (mkF m 52 #[.val (.ref a), .val (.int (1 : Int32)), .val (.int (0 : Int32)), .unset] [(.int (10 : Int32)), (.ref a)])) st4 ?_
  obtain ⟨T5, h5, k5, X5, e5, E5, A5, Ov5, st5⟩ := own_anewarr X4 hx hZ hown (hw _ (List.mem_of_getElem? (i := 126) rfl)) (hw _ (List.mem_of_getElem? (i := 127) rfl)) e4 (g := (mkF m 52 #[.val (.ref a), .val (.int (1 : Int32)), .val (.int (0 : Int32)), .unset] [(.int (10 : Int32)), (.ref a)])) rfl (hb hby dg1_52) rfl (by decide) (cap := 10) (by decide) (by decide) (by decide) (by decide) (vs := List.replicate 10 .null) rfl
  obtain ⟨b5, g5⟩ : ∃ z, z = h0.size := ⟨_, rfl⟩
  rw [← g5] at A5 st5
  have ne_a_b5 : a ≠ b5 := Nat.ne_of_lt (Nat.lt_of_lt_of_eq E_a.lt g5.symm)
  have g_b5 : n0 ≤ b5 := Nat.le_trans (Nat.le_trans (Nat.le_of_eq O.1.symm) O.2.1) (Nat.le_of_eq g5.symm)
  have sz_b5 : h0.size ≤ b5 := Nat.le_trans K.1 (Nat.le_of_eq g5.symm)
  have K := K.ext E5
  have O := O.ext E5
  have E_a := E_a.ext E5
  have F_modCount_a := F_modCount_a.ext E5
  have F_elementData_a := F_elementData_a.ext E5
  have F_size_a := F_size_a.ext E5
  have V_b5 := A5
  refine own_go (U' := T5.setTop (mkF m 55 #[.val (.ref a), .val (.int (1 : Int32)), .val (.int (0 : Int32)), .unset] [(.ref b5), (.ref a)])) st5 ?_
  refine own_go (U' := T5.setTop (mkF m 56 #[.val (.ref a), .val (.int (1 : Int32)), .val (.int (0 : Int32)), .unset] [(.ref b5), (.ref a), (.ref b5)])) (fun t k => XS.dupX1 X5.here hx rfl (hb hby dg1_55) rfl rfl rfl k) ?_
  obtain ⟨T6, h6, X6, e6, W6, st6⟩ := putF X5 hx hZ hown (host := "") (Or.inl (hw _ (List.mem_of_getElem? (i := 31) rfl))) Via.refl e5 F_elementData_a E_a (Or.inl (hw _ (List.mem_of_getElem? (i := 32) rfl))) (hw _ (List.mem_of_getElem? (i := 10) rfl)) (ty := (.array (.object "java/lang/Object"))) (by decide) rfl rfl (g := (mkF m 56 #[.val (.ref a), .val (.int (1 : Int32)), .val (.int (0 : Int32)), .unset] [(.ref b5), (.ref a), (.ref b5)])) rfl rfl (hb hby dg1_56)
  have K := K.wr W6 (Or.inl (List.mem_of_getElem? (i := 0) rfl))
  have O := O.wr W6 g_a
  have E_a := E_a.wr W6
  have F_modCount_a := F_modCount_a.other W6 (Or.inr (slot_ne (Or.inl (hw _ (List.mem_of_getElem? (i := 29) rfl))) (Or.inl (hw _ (List.mem_of_getElem? (i := 32) rfl))) (by decide) (t := .int) (t' := (.array (.object "java/lang/Object"))) (by decide) (by decide)))
  have F_size_a := F_size_a.other W6 (Or.inr (slot_ne (Or.inl (hw _ (List.mem_of_getElem? (i := 106) rfl))) (Or.inl (hw _ (List.mem_of_getElem? (i := 32) rfl))) (by decide) (t := .int) (t' := (.array (.object "java/lang/Object"))) (by decide) (by decide)))
  have V_b5 := V_b5.other W6 (Ne.symm ne_a_b5)
  have F_elementData_a := F_elementData_a.same W6
  have N6 := Fr.snoc X6 N0 g_a
  refine own_go (U' := T6.setTop (mkF m 59 #[.val (.ref a), .val (.int (1 : Int32)), .val (.int (0 : Int32)), .unset] [(.ref b5)])) st6 ?_
  refine own_retA X6 hx (t := (.array (.object "java/lang/Object"))) hret rfl hlk rfl (hb hby dg1_59) ?_ (by decide) (by decide)
  rw [e6]
  exact ⟨_, _, rfl, N6, K, g_b5, sz_b5, F_modCount_a, F_elementData_a, F_size_a, V_b5, Ov5⟩
theorem dg0_0 : decode jdk_38_method_7_code 0 = .ok (.aload_n 0, 1) := by decide +kernel
theorem dg0_1 : decode jdk_38_method_7_code 1 = .ok (.aload_n 0, 1) := by decide +kernel
theorem dg0_2 : decode jdk_38_method_7_code 2 = .ok (.getfield 48, 3) := by decide +kernel
theorem dg0_5 : decode jdk_38_method_7_code 5 = .ok (.iconst 1, 1) := by decide +kernel
theorem dg0_6 : decode jdk_38_method_7_code 6 = .ok (.iadd, 1) := by decide +kernel
theorem dg0_7 : decode jdk_38_method_7_code 7 = .ok (.invokevirtual 69, 3) := by decide +kernel
theorem dg0_10 : decode jdk_38_method_7_code 10 = .ok (.areturn, 1) := by decide +kernel
theorem own_efg0 (m : MethodId) (a : Addr) : entryFrame m #[(.ref a)] 1 = mkF m 0 #[.val (.ref a)] [] := by first | (simp [entryFrame, mkF, argsToLocals, Value.category]; done) | rfl
set_option maxRecDepth 65536 in
set_option maxHeartbeats 40000000 in
theorem own_rmg0 (l : Launch) (Z : State) (a0 : Array Value) (hw : ∀ d ∈ tables_1, d.before a0 Z = true) (a : Addr) (h0 : Heap) (n0 : Nat) (g_a : n0 ≤ a) (mc : Int32) (dd : Addr) (cdd : Cell) (O : Old Z n0 h0) (S_dd : Sta Z Z.heap "java/util/ArrayList" "DEFAULTCAPACITY_EMPTY_ELEMENTDATA" "[Ljava/lang/Object;" (.ref dd)) (A_dd : Arr Z Z.heap dd cdd (.object "java/lang/Object")) (hcdd : cdd.slots.size.toInt32 = 0) (E_a : Exa Z h0 a "java/util/ArrayList") (F_modCount_a : Fld Z h0 a "java/util/AbstractList" "modCount" "I" (.int mc)) (F_elementData_a : Fld Z h0 a "java/util/ArrayList" "elementData" "[Ljava/lang/Object;" (.ref dd)) (F_size_a : Fld Z h0 a "java/util/ArrayList" "size" "I" (.int 0)) :
    own_C l Z (⟨"java/util/ArrayList", "grow", "()[Ljava/lang/Object;"⟩ : MethodName) jdk_38_method_7_code 1 (some (.array (.object "java/lang/Object"))) [] ({ frames := 2, cells := 1, slots := 10, locals := 29 } : Room) #[(.ref a)] h0 (fun v h L => ∃ x kx, v = some (.ref x) ∧ Fr n0 L ∧ Keep h0 h [a] ∧ n0 ≤ x ∧ h0.size ≤ x ∧ Fld Z h a "java/util/AbstractList" "modCount" "I" (.int mc) ∧ Fld Z h a "java/util/ArrayList" "elementData" "[Ljava/lang/Object;" (.ref x) ∧ Fld Z h a "java/util/ArrayList" "size" "I" (.int 0) ∧ own_Ar Z h x kx (.object "java/lang/Object") (List.replicate 10 .null) ∧ Ovr Z kx "java/lang/Object") := by
  refine own_body (plainFor_of_name own_pn2) fun p e s m below meth c s₁ hx hby hml hret hlk hown hnm hZ X0 e0 => ?_
  rw [own_efg0 m a]
  have N0 := Fr.nil n0
  have K := Keep.refl h0 [a]
  refine own_go (U' := s₁.setTop (mkF m 1 #[.val (.ref a)] [(.ref a)])) (fun t k => XS.aloadN X0.here hx rfl (hb hby dg0_0) rfl rfl k) ?_
  refine own_go (U' := s₁.setTop (mkF m 2 #[.val (.ref a)] [(.ref a), (.ref a)])) (fun t k => XS.aloadN X0.here hx rfl (hb hby dg0_1) rfl rfl k) ?_
  obtain ⟨T1, X1, e1, st1⟩ := getF X0 hx hZ hown (host := "") (Or.inl (hw _ (List.mem_of_getElem? (i := 105) rfl))) Via.refl e0 F_size_a (g := (mkF m 2 #[.val (.ref a)] [(.ref a), (.ref a)])) rfl rfl (hb hby dg0_2)
  refine own_go (U' := T1.setTop (mkF m 5 #[.val (.ref a)] [(.int (0 : Int32)), (.ref a)])) st1 ?_
  refine own_go (U' := T1.setTop (mkF m 6 #[.val (.ref a)] [(.int (1 : Int32)), (.int (0 : Int32)), (.ref a)])) (fun t k => XS.iconst X1.here hx rfl (hb hby dg0_5) k) ?_
  refine own_go (U' := T1.setTop (mkF m 7 #[.val (.ref a)] [(.int (1 : Int32)), (.ref a)])) (fun t k => XS.iadd X1.here hx rfl (hb hby dg0_6) rfl k) ?_
  obtain ⟨v2, T2, h2, L2, e2, X2, hQ2, st2⟩ := own_callP X1 hx hZ (y := (⟨"java/util/ArrayList", "grow", "(I)[Ljava/lang/Object;"⟩ : MethodName)) hown (hw _ (List.mem_of_getElem? (i := 117) rfl)) (hw _ (List.mem_of_getElem? (i := 118) rfl)) (hw _ (List.mem_of_getElem? (i := 120) rfl)) (hw _ (List.mem_of_getElem? (i := 119) rfl)) (hw _ (List.mem_of_getElem? (i := 11) rfl)) (hw _ (List.mem_of_getElem? (i := 121) rfl)) (by decide) E_a (own_rmg1 l Z a0 hw a h0 n0 g_a mc dd cdd O S_dd A_dd hcdd E_a F_modCount_a F_elementData_a F_size_a) (W := 0) (by decide) (by decide) (g := (mkF m 7 #[.val (.ref a)] [(.int (1 : Int32)), (.ref a)])) rfl (by rw [hml]; rfl) (argsL := [(.int (1 : Int32))]) (rest := []) (lenOf own_pd7 rfl) rfl rfl (by show 2 * 0 + _ ≤ _; exact Nat.le_of_eq rfl) (hb hby dg0_7) e1 (by decide) (by decide)
  obtain ⟨x, kx, rfl, Nq, Kq, gx, szx, Fm, Fe, Fs, Vx, Ov⟩ := hQ2
  refine own_go (U' := T2.setTop (mkF m 10 #[.val (.ref a)] [(.ref x)])) st2 ?_
  refine own_retA X2 hx (t := (.array (.object "java/lang/Object"))) hret rfl hlk rfl (hb hby dg0_10) ?_ (by decide) (by decide)
  rw [e2]
  exact ⟨_, _, rfl, Fr.app N0 Nq, Kq, gx, szx, Fm, Fe, Fs, Vx, Ov⟩
theorem own_pd9 : parseMethodDescriptor "(Ljava/lang/Object;[Ljava/lang/Object;I)V" = some ⟨[(.object "java/lang/Object"), (.array (.object "java/lang/Object")), .int], none⟩ := by decide +kernel
theorem da3_0 : decode jdk_38_method_24_code 0 = .ok (.iload_n 3, 1) := by decide +kernel
theorem da3_1 : decode jdk_38_method_24_code 1 = .ok (.aload_n 2, 1) := by decide +kernel
theorem da3_2 : decode jdk_38_method_24_code 2 = .ok (.arraylength, 1) := by decide +kernel
theorem da3_3 : decode jdk_38_method_24_code 3 = .ok (.if_icmp .ne 8, 3) := by decide +kernel
theorem da3_6 : decode jdk_38_method_24_code 6 = .ok (.aload_n 0, 1) := by decide +kernel
theorem da3_7 : decode jdk_38_method_24_code 7 = .ok (.invokevirtual 129, 3) := by decide +kernel
theorem da3_10 : decode jdk_38_method_24_code 10 = .ok (.astore_n 2, 1) := by decide +kernel
theorem da3_11 : decode jdk_38_method_24_code 11 = .ok (.aload_n 2, 1) := by decide +kernel
theorem da3_12 : decode jdk_38_method_24_code 12 = .ok (.iload_n 3, 1) := by decide +kernel
theorem da3_13 : decode jdk_38_method_24_code 13 = .ok (.aload_n 1, 1) := by decide +kernel
theorem da3_14 : decode jdk_38_method_24_code 14 = .ok (.aastore, 1) := by decide +kernel
theorem da3_15 : decode jdk_38_method_24_code 15 = .ok (.aload_n 0, 1) := by decide +kernel
theorem da3_16 : decode jdk_38_method_24_code 16 = .ok (.iload_n 3, 1) := by decide +kernel
theorem da3_17 : decode jdk_38_method_24_code 17 = .ok (.iconst 1, 1) := by decide +kernel
theorem da3_18 : decode jdk_38_method_24_code 18 = .ok (.iadd, 1) := by decide +kernel
theorem da3_19 : decode jdk_38_method_24_code 19 = .ok (.putfield 48, 3) := by decide +kernel
theorem da3_22 : decode jdk_38_method_24_code 22 = .ok (.return_, 1) := by decide +kernel
theorem own_efa3 (m : MethodId) (a : Addr) (vv : Addr) (dd : Addr) : entryFrame m #[(.ref a), (.ref vv), (.ref dd), (.int (0 : Int32))] 4 = mkF m 0 #[.val (.ref a), .val (.ref vv), .val (.ref dd), .val (.int (0 : Int32))] [] := by first | (simp [entryFrame, mkF, argsToLocals, Value.category]; done) | rfl
set_option maxRecDepth 65536 in
set_option maxHeartbeats 40000000 in
theorem own_rma3 (l : Launch) (Z : State) (a0 : Array Value) (hw : ∀ d ∈ tables_1, d.before a0 Z = true) (a : Addr) (vv : Addr) (dd : Addr) (h0 : Heap) (n0 : Nat) (g_a : n0 ≤ a) (mc : Int32) (cdd : Cell) (O : Old Z n0 h0) (S_dd : Sta Z Z.heap "java/util/ArrayList" "DEFAULTCAPACITY_EMPTY_ELEMENTDATA" "[Ljava/lang/Object;" (.ref dd)) (A_dd : Arr Z Z.heap dd cdd (.object "java/lang/Object")) (hcdd : cdd.slots.size.toInt32 = 0) (E_a : Exa Z h0 a "java/util/ArrayList") (F_modCount_a : Fld Z h0 a "java/util/AbstractList" "modCount" "I" (.int mc)) (F_elementData_a : Fld Z h0 a "java/util/ArrayList" "elementData" "[Ljava/lang/Object;" (.ref dd)) (F_size_a : Fld Z h0 a "java/util/ArrayList" "size" "I" (.int 0)) (E_vv : Exa Z h0 vv "com/example/verity/verity/SplicedChannel$Part") :
    own_C l Z (⟨"java/util/ArrayList", "add", "(Ljava/lang/Object;[Ljava/lang/Object;I)V"⟩ : MethodName) jdk_38_method_24_code 4 none [] ({ frames := 3, cells := 1, slots := 10, locals := 41 } : Room) #[(.ref a), (.ref vv), (.ref dd), (.int (0 : Int32))] h0 (fun v h L => v = none ∧ Fr n0 L ∧ Keep h0 h [a] ∧ ∃ x kx, Fld Z h a "java/util/AbstractList" "modCount" "I" (.int mc) ∧ Fld Z h a "java/util/ArrayList" "elementData" "[Ljava/lang/Object;" (.ref x) ∧ Fld Z h a "java/util/ArrayList" "size" "I" (.int 1) ∧ own_Ar Z h x kx (.object "java/lang/Object") ((.ref vv) :: List.replicate 9 .null)) := by
  refine own_body (plainFor_of_name own_pn2) fun p e s m below meth c s₁ hx hby hml hret hlk hown hnm hZ X0 e0 => ?_
  rw [own_efa3 m a vv dd]
  have N0 := Fr.nil n0
  have K := Keep.refl h0 [a]
  refine own_go (U' := s₁.setTop (mkF m 1 #[.val (.ref a), .val (.ref vv), .val (.ref dd), .val (.int (0 : Int32))] [(.int (0 : Int32))])) (fun t k => XS.iloadN X0.here hx rfl (hb hby da3_0) rfl k) ?_
  refine own_go (U' := s₁.setTop (mkF m 2 #[.val (.ref a), .val (.ref vv), .val (.ref dd), .val (.int (0 : Int32))] [(.ref dd), (.int (0 : Int32))])) (fun t k => XS.aloadN X0.here hx rfl (hb hby da3_1) rfl rfl k) ?_
  refine own_go (U' := s₁.setTop (mkF m 3 #[.val (.ref a), .val (.ref vv), .val (.ref dd), .val (.int (0 : Int32))] [(.int (0 : Int32)), (.int (0 : Int32))])) (own_arrlenA X0 hx hZ e0 (A_dd.ext O.2) (n := (0 : Int32)) hcdd (g := (mkF m 2 #[.val (.ref a), .val (.ref vv), .val (.ref dd), .val (.int (0 : Int32))] [(.ref dd), (.int (0 : Int32))])) rfl rfl (hb hby da3_2)) ?_
  refine own_go (U' := s₁.setTop (mkF m 6 #[.val (.ref a), .val (.ref vv), .val (.ref dd), .val (.int (0 : Int32))] [])) (fun t k => XS.icmpNo X0.here hx rfl (hb hby da3_3) rfl (teq rfl).2 k) ?_
  refine own_go (U' := s₁.setTop (mkF m 7 #[.val (.ref a), .val (.ref vv), .val (.ref dd), .val (.int (0 : Int32))] [(.ref a)])) (fun t k => XS.aloadN X0.here hx rfl (hb hby da3_6) rfl rfl k) ?_
  obtain ⟨v1, T1, h1, L1, e1, X1, hQ1, st1⟩ := own_callP X0 hx hZ (y := (⟨"java/util/ArrayList", "grow", "()[Ljava/lang/Object;"⟩ : MethodName)) hown (hw _ (List.mem_of_getElem? (i := 112) rfl)) (hw _ (List.mem_of_getElem? (i := 113) rfl)) (hw _ (List.mem_of_getElem? (i := 115) rfl)) (hw _ (List.mem_of_getElem? (i := 114) rfl)) (hw _ (List.mem_of_getElem? (i := 11) rfl)) (hw _ (List.mem_of_getElem? (i := 116) rfl)) (by decide) E_a (own_rmg0 l Z a0 hw a h0 n0 g_a mc dd cdd O S_dd A_dd hcdd E_a F_modCount_a F_elementData_a F_size_a) (W := 0) (by decide) (by decide) (g := (mkF m 7 #[.val (.ref a), .val (.ref vv), .val (.ref dd), .val (.int (0 : Int32))] [(.ref a)])) rfl (by rw [hml]; rfl) (argsL := []) (rest := []) (lenOf own_pd8 rfl) rfl rfl (by show 2 * 0 + _ ≤ _; exact Nat.le_of_eq rfl) (hb hby da3_7) e0 (by decide) (by decide)
  obtain ⟨x, kx, rfl, Nq, Kq, g_x, sz_x, F_modCount_a, F_elementData_a, F_size_a, V_x, Ov⟩ := hQ1
  have ne_a_x : a ≠ x := Nat.ne_of_lt (Nat.lt_of_lt_of_le E_a.lt sz_x)
  have E_vv := E_vv.keep Kq
  have K := K.trans Kq (allS (Or.inl (List.mem_of_getElem? (i := 0) rfl)) all0)
  have O := O.keep Kq (allS g_a all0)
  have E_a := E_a.keep Kq
  have N1 := Fr.app N0 Nq
  refine own_go (U' := T1.setTop (mkF m 10 #[.val (.ref a), .val (.ref vv), .val (.ref dd), .val (.int (0 : Int32))] [(.ref x)])) st1 ?_
  refine own_go (U' := T1.setTop (mkF m 11 #[.val (.ref a), .val (.ref vv), .val (.ref x), .val (.int (0 : Int32))] [])) (fun t k => XS.astoreN X1.here hx rfl (hb hby da3_10) rfl rfl (l' := #[.val (.ref a), .val (.ref vv), .val (.ref x), .val (.int (0 : Int32))]) rfl k) ?_
  refine own_go (U' := T1.setTop (mkF m 12 #[.val (.ref a), .val (.ref vv), .val (.ref x), .val (.int (0 : Int32))] [(.ref x)])) (fun t k => XS.aloadN X1.here hx rfl (hb hby da3_11) rfl rfl k) ?_
  refine own_go (U' := T1.setTop (mkF m 13 #[.val (.ref a), .val (.ref vv), .val (.ref x), .val (.int (0 : Int32))] [(.int (0 : Int32)), (.ref x)])) (fun t k => XS.iloadN X1.here hx rfl (hb hby da3_12) rfl k) ?_
  refine own_go (U' := T1.setTop (mkF m 14 #[.val (.ref a), .val (.ref vv), .val (.ref x), .val (.int (0 : Int32))] [(.ref vv), (.int (0 : Int32)), (.ref x)])) (fun t k => XS.aloadN X1.here hx rfl (hb hby da3_13) rfl rfl k) ?_
  obtain ⟨T2, h2, X2, e2, W2, A2, st2⟩ := own_aastore X1 hx hZ e1 V_x rfl rfl (Sto.ofV (C := "java/lang/Object") V_x.choose_spec.1 V_x.choose_spec.2.1 Ov (Ins.of_exa E_vv (hw _ (List.mem_of_getElem? (i := 128) rfl)))) (j := (0 : Int32)) (by decide) (i := 0) rfl (Nat.le_of_ble_eq_true rfl) (g := (mkF m 14 #[.val (.ref a), .val (.ref vv), .val (.ref x), .val (.int (0 : Int32))] [(.ref vv), (.int (0 : Int32)), (.ref x)])) rfl rfl (hb hby da3_14)
  have E_vv := E_vv.wr W2
  have K := K.wr W2 (Or.inr sz_x)
  have O := O.wr W2 g_x
  have E_a := E_a.wr W2
  have F_modCount_a := F_modCount_a.other W2 (Or.inl ne_a_x)
  have F_elementData_a := F_elementData_a.other W2 (Or.inl ne_a_x)
  have F_size_a := F_size_a.other W2 (Or.inl ne_a_x)
  have V_x : own_Ar Z h2 x kx (.object "java/lang/Object") ((.ref vv) :: List.replicate 9 .null) := A2
  have N2 := Fr.snoc X2 N1 g_x
  refine own_go (U' := T2.setTop (mkF m 15 #[.val (.ref a), .val (.ref vv), .val (.ref x), .val (.int (0 : Int32))] [])) st2 ?_
  refine own_go (U' := T2.setTop (mkF m 16 #[.val (.ref a), .val (.ref vv), .val (.ref x), .val (.int (0 : Int32))] [(.ref a)])) (fun t k => XS.aloadN X2.here hx rfl (hb hby da3_15) rfl rfl k) ?_
  refine own_go (U' := T2.setTop (mkF m 17 #[.val (.ref a), .val (.ref vv), .val (.ref x), .val (.int (0 : Int32))] [(.int (0 : Int32)), (.ref a)])) (fun t k => XS.iloadN X2.here hx rfl (hb hby da3_16) rfl k) ?_
  refine own_go (U' := T2.setTop (mkF m 18 #[.val (.ref a), .val (.ref vv), .val (.ref x), .val (.int (0 : Int32))] [(.int (1 : Int32)), (.int (0 : Int32)), (.ref a)])) (fun t k => XS.iconst X2.here hx rfl (hb hby da3_17) k) ?_
  refine own_go (U' := T2.setTop (mkF m 19 #[.val (.ref a), .val (.ref vv), .val (.ref x), .val (.int (0 : Int32))] [(.int (1 : Int32)), (.ref a)])) (fun t k => XS.iadd X2.here hx rfl (hb hby da3_18) rfl k) ?_
  obtain ⟨T3, h3, X3, e3, W3, st3⟩ := putF X2 hx hZ hown (host := "") (Or.inl (hw _ (List.mem_of_getElem? (i := 105) rfl))) Via.refl e2 F_size_a E_a (Or.inl (hw _ (List.mem_of_getElem? (i := 106) rfl))) (hw _ (List.mem_of_getElem? (i := 10) rfl)) (ty := .int) (by decide) rfl rfl (g := (mkF m 19 #[.val (.ref a), .val (.ref vv), .val (.ref x), .val (.int (0 : Int32))] [(.int (1 : Int32)), (.ref a)])) rfl rfl (hb hby da3_19)
  have E_vv := E_vv.wr W3
  have K := K.wr W3 (Or.inl (List.mem_of_getElem? (i := 0) rfl))
  have O := O.wr W3 g_a
  have E_a := E_a.wr W3
  have F_modCount_a := F_modCount_a.other W3 (Or.inr (slot_ne (Or.inl (hw _ (List.mem_of_getElem? (i := 29) rfl))) (Or.inl (hw _ (List.mem_of_getElem? (i := 106) rfl))) (by decide) (t := .int) (t' := .int) (by decide) (by decide)))
  have F_elementData_a := F_elementData_a.other W3 (Or.inr (slot_ne (Or.inl (hw _ (List.mem_of_getElem? (i := 32) rfl))) (Or.inl (hw _ (List.mem_of_getElem? (i := 106) rfl))) (by decide) (t := (.array (.object "java/lang/Object"))) (t' := .int) (by decide) (by decide)))
  have V_x := V_x.other W3 (Ne.symm ne_a_x)
  have F_size_a := F_size_a.same W3
  have N3 := Fr.snoc X3 N2 g_a
  refine own_go (U' := T3.setTop (mkF m 22 #[.val (.ref a), .val (.ref vv), .val (.ref x), .val (.int (0 : Int32))] [])) st3 ?_
  refine own_retV X3 hx hret hlk (hb hby da3_22) ?_ (by decide) (by decide)
  rw [e3]
  exact ⟨rfl, N3, K, _, _, F_modCount_a, F_elementData_a, F_size_a, V_x⟩
theorem own_pd10 : parseMethodDescriptor "(Ljava/lang/Object;)Z" = some ⟨[(.object "java/lang/Object")], some .boolean⟩ := by decide +kernel
theorem da1_0 : decode jdk_38_method_25_code 0 = .ok (.aload_n 0, 1) := by decide +kernel
theorem da1_1 : decode jdk_38_method_25_code 1 = .ok (.dup, 1) := by decide +kernel
theorem da1_2 : decode jdk_38_method_25_code 2 = .ok (.getfield 63, 3) := by decide +kernel
theorem da1_5 : decode jdk_38_method_25_code 5 = .ok (.iconst 1, 1) := by decide +kernel
theorem da1_6 : decode jdk_38_method_25_code 6 = .ok (.iadd, 1) := by decide +kernel
theorem da1_7 : decode jdk_38_method_25_code 7 = .ok (.putfield 63, 3) := by decide +kernel
theorem da1_10 : decode jdk_38_method_25_code 10 = .ok (.aload_n 0, 1) := by decide +kernel
theorem da1_11 : decode jdk_38_method_25_code 11 = .ok (.aload_n 1, 1) := by decide +kernel
theorem da1_12 : decode jdk_38_method_25_code 12 = .ok (.aload_n 0, 1) := by decide +kernel
theorem da1_13 : decode jdk_38_method_25_code 13 = .ok (.getfield 9, 3) := by decide +kernel
theorem da1_16 : decode jdk_38_method_25_code 16 = .ok (.aload_n 0, 1) := by decide +kernel
theorem da1_17 : decode jdk_38_method_25_code 17 = .ok (.getfield 48, 3) := by decide +kernel
theorem da1_20 : decode jdk_38_method_25_code 20 = .ok (.invokevirtual 131, 3) := by decide +kernel
theorem da1_23 : decode jdk_38_method_25_code 23 = .ok (.iconst 1, 1) := by decide +kernel
theorem da1_24 : decode jdk_38_method_25_code 24 = .ok (.ireturn, 1) := by decide +kernel
theorem own_efa1 (m : MethodId) (a : Addr) (vv : Addr) : entryFrame m #[(.ref a), (.ref vv)] 2 = mkF m 0 #[.val (.ref a), .val (.ref vv)] [] := by first | (simp [entryFrame, mkF, argsToLocals, Value.category]; done) | rfl
set_option maxRecDepth 65536 in
set_option maxHeartbeats 40000000 in
theorem own_rma1 (l : Launch) (Z : State) (a0 : Array Value) (hw : ∀ d ∈ tables_1, d.before a0 Z = true) (a : Addr) (vv : Addr) (h0 : Heap) (n0 : Nat) (g_a : n0 ≤ a) (mc : Int32) (dd : Addr) (cdd : Cell) (O : Old Z n0 h0) (S_dd : Sta Z Z.heap "java/util/ArrayList" "DEFAULTCAPACITY_EMPTY_ELEMENTDATA" "[Ljava/lang/Object;" (.ref dd)) (A_dd : Arr Z Z.heap dd cdd (.object "java/lang/Object")) (hcdd : cdd.slots.size.toInt32 = 0) (E_a : Exa Z h0 a "java/util/ArrayList") (F_modCount_a : Fld Z h0 a "java/util/AbstractList" "modCount" "I" (.int mc)) (F_elementData_a : Fld Z h0 a "java/util/ArrayList" "elementData" "[Ljava/lang/Object;" (.ref dd)) (F_size_a : Fld Z h0 a "java/util/ArrayList" "size" "I" (.int 0)) (E_vv : Exa Z h0 vv "com/example/verity/verity/SplicedChannel$Part") :
    own_C l Z (⟨"java/util/ArrayList", "add", "(Ljava/lang/Object;)Z"⟩ : MethodName) jdk_38_method_25_code 2 (some .boolean) [] ({ frames := 4, cells := 1, slots := 10, locals := 56 } : Room) #[(.ref a), (.ref vv)] h0 (fun v h L => v = some (.int 1) ∧ Fr n0 L ∧ Keep h0 h [a] ∧ ∃ x kx, Fld Z h a "java/util/AbstractList" "modCount" "I" (.int (mc + 1)) ∧ Fld Z h a "java/util/ArrayList" "elementData" "[Ljava/lang/Object;" (.ref x) ∧ Fld Z h a "java/util/ArrayList" "size" "I" (.int 1) ∧ own_Ar Z h x kx (.object "java/lang/Object") ((.ref vv) :: List.replicate 9 .null)) := by
  refine own_body (plainFor_of_name own_pn2) fun p e s m below meth c s₁ hx hby hml hret hlk hown hnm hZ X0 e0 => ?_
  rw [own_efa1 m a vv]
  have N0 := Fr.nil n0
  have K := Keep.refl h0 [a]
  refine own_go (U' := s₁.setTop (mkF m 1 #[.val (.ref a), .val (.ref vv)] [(.ref a)])) (fun t k => XS.aloadN X0.here hx rfl (hb hby da1_0) rfl rfl k) ?_
  refine own_go (U' := s₁.setTop (mkF m 2 #[.val (.ref a), .val (.ref vv)] [(.ref a), (.ref a)])) (fun t k => XS.dup X0.here hx rfl (hb hby da1_1) rfl rfl k) ?_
  obtain ⟨T1, X1, e1, st1⟩ := getF X0 hx hZ hown (host := "") (Or.inl (hw _ (List.mem_of_getElem? (i := 103) rfl))) (Via.of (hw _ (List.mem_of_getElem? (i := 104) rfl))) e0 F_modCount_a (g := (mkF m 2 #[.val (.ref a), .val (.ref vv)] [(.ref a), (.ref a)])) rfl rfl (hb hby da1_2)
  refine own_go (U' := T1.setTop (mkF m 5 #[.val (.ref a), .val (.ref vv)] [(.int mc), (.ref a)])) st1 ?_
  refine own_go (U' := T1.setTop (mkF m 6 #[.val (.ref a), .val (.ref vv)] [(.int (1 : Int32)), (.int mc), (.ref a)])) (fun t k => XS.iconst X1.here hx rfl (hb hby da1_5) k) ?_
  refine own_go (U' := T1.setTop (mkF m 7 #[.val (.ref a), .val (.ref vv)] [(.int (mc + (1 : Int32))), (.ref a)])) (fun t k => XS.iadd X1.here hx rfl (hb hby da1_6) rfl k) ?_
  obtain ⟨T2, h2, X2, e2, W2, st2⟩ := putF X1 hx hZ hown (host := "") (Or.inl (hw _ (List.mem_of_getElem? (i := 103) rfl))) (Via.of (hw _ (List.mem_of_getElem? (i := 104) rfl))) e1 F_modCount_a E_a (Or.inl (hw _ (List.mem_of_getElem? (i := 29) rfl))) (hw _ (List.mem_of_getElem? (i := 10) rfl)) (ty := .int) (by decide) rfl rfl (g := (mkF m 7 #[.val (.ref a), .val (.ref vv)] [(.int (mc + (1 : Int32))), (.ref a)])) rfl rfl (hb hby da1_7)
  have E_vv := E_vv.wr W2
  have K := K.wr W2 (Or.inl (List.mem_of_getElem? (i := 0) rfl))
  have O := O.wr W2 g_a
  have E_a := E_a.wr W2
  have F_elementData_a := F_elementData_a.other W2 (Or.inr (slot_ne (Or.inl (hw _ (List.mem_of_getElem? (i := 32) rfl))) (Or.inl (hw _ (List.mem_of_getElem? (i := 29) rfl))) (by decide) (t := (.array (.object "java/lang/Object"))) (t' := .int) (by decide) (by decide)))
  have F_size_a := F_size_a.other W2 (Or.inr (slot_ne (Or.inl (hw _ (List.mem_of_getElem? (i := 106) rfl))) (Or.inl (hw _ (List.mem_of_getElem? (i := 29) rfl))) (by decide) (t := .int) (t' := .int) (by decide) (by decide)))
  have F_modCount_a := F_modCount_a.same W2
  have N2 := Fr.snoc X2 N0 g_a
  refine own_go (U' := T2.setTop (mkF m 10 #[.val (.ref a), .val (.ref vv)] [])) st2 ?_
  refine own_go (U' := T2.setTop (mkF m 11 #[.val (.ref a), .val (.ref vv)] [(.ref a)])) (fun t k => XS.aloadN X2.here hx rfl (hb hby da1_10) rfl rfl k) ?_
  refine own_go (U' := T2.setTop (mkF m 12 #[.val (.ref a), .val (.ref vv)] [(.ref vv), (.ref a)])) (fun t k => XS.aloadN X2.here hx rfl (hb hby da1_11) rfl rfl k) ?_
  refine own_go (U' := T2.setTop (mkF m 13 #[.val (.ref a), .val (.ref vv)] [(.ref a), (.ref vv), (.ref a)])) (fun t k => XS.aloadN X2.here hx rfl (hb hby da1_12) rfl rfl k) ?_
  obtain ⟨T3, X3, e3, st3⟩ := getF X2 hx hZ hown (host := "") (Or.inl (hw _ (List.mem_of_getElem? (i := 31) rfl))) Via.refl e2 F_elementData_a (g := (mkF m 13 #[.val (.ref a), .val (.ref vv)] [(.ref a), (.ref vv), (.ref a)])) rfl rfl (hb hby da1_13)
  refine own_go (U' := T3.setTop (mkF m 16 #[.val (.ref a), .val (.ref vv)] [(.ref dd), (.ref vv), (.ref a)])) st3 ?_
  refine own_go (U' := T3.setTop (mkF m 17 #[.val (.ref a), .val (.ref vv)] [(.ref a), (.ref dd), (.ref vv), (.ref a)])) (fun t k => XS.aloadN X3.here hx rfl (hb hby da1_16) rfl rfl k) ?_
  obtain ⟨T4, X4, e4, st4⟩ := getF X3 hx hZ hown (host := "") (Or.inl (hw _ (List.mem_of_getElem? (i := 105) rfl))) Via.refl e3 F_size_a (g := (mkF m 17 #[.val (.ref a), .val (.ref vv)] [(.ref a), (.ref dd), (.ref vv), (.ref a)])) rfl rfl (hb hby da1_17)
  refine own_go (U' := T4.setTop (mkF m 20 #[.val (.ref a), .val (.ref vv)] [(.int (0 : Int32)), (.ref dd), (.ref vv), (.ref a)])) st4 ?_
  obtain ⟨v5, T5, h5, L5, e5, X5, hQ5, st5⟩ := own_callP X4 hx hZ (y := (⟨"java/util/ArrayList", "add", "(Ljava/lang/Object;[Ljava/lang/Object;I)V"⟩ : MethodName)) hown (hw _ (List.mem_of_getElem? (i := 107) rfl)) (hw _ (List.mem_of_getElem? (i := 108) rfl)) (hw _ (List.mem_of_getElem? (i := 110) rfl)) (hw _ (List.mem_of_getElem? (i := 109) rfl)) (hw _ (List.mem_of_getElem? (i := 11) rfl)) (hw _ (List.mem_of_getElem? (i := 111) rfl)) (by decide) E_a (own_rma3 l Z a0 hw a vv dd h2 n0 g_a (mc + 1) cdd O S_dd A_dd hcdd E_a F_modCount_a F_elementData_a F_size_a E_vv) (W := 0) (by decide) (by decide) (g := (mkF m 20 #[.val (.ref a), .val (.ref vv)] [(.int (0 : Int32)), (.ref dd), (.ref vv), (.ref a)])) rfl (by rw [hml]; rfl) (argsL := [(.ref vv), (.ref dd), (.int (0 : Int32))]) (rest := []) (lenOf own_pd9 rfl) rfl rfl (by show 2 * 0 + _ ≤ _; exact Nat.le_of_eq rfl) (hb hby da1_20) e4 (by decide) (by decide)
  obtain ⟨rfl, Nq, Kq, x, kx, Fm, Fe, Fs, Vx⟩ := hQ5
  have E_vv := E_vv.keep Kq
  have K := K.trans Kq (allS (Or.inl (List.mem_of_getElem? (i := 0) rfl)) all0)
  have O := O.keep Kq (allS g_a all0)
  have E_a := E_a.keep Kq
  have N5 := Fr.app N2 Nq
  refine own_go (U' := T5.setTop (mkF m 23 #[.val (.ref a), .val (.ref vv)] [])) st5 ?_
  refine own_go (U' := T5.setTop (mkF m 24 #[.val (.ref a), .val (.ref vv)] [(.int (1 : Int32))])) (fun t k => XS.iconst X5.here hx rfl (hb hby da1_23) k) ?_
  refine own_retN X5 hx (t := .boolean) hret (by simp) hlk (hb hby da1_24) ?_ (by decide) (by decide)
  rw [e5]
  exact ⟨rfl, N5, K, _, _, Fm, Fe, Fs, Vx⟩
theorem dci_0 : decode prog_48_method_1_code 0 = .ok (.aload_n 0, 1) := by decide +kernel
theorem dci_1 : decode prog_48_method_1_code 1 = .ok (.invokespecial 1, 3) := by decide +kernel
theorem dci_4 : decode prog_48_method_1_code 4 = .ok (.aload_n 0, 1) := by decide +kernel
theorem dci_5 : decode prog_48_method_1_code 5 = .ok (.new 7, 3) := by decide +kernel
theorem dci_8 : decode prog_48_method_1_code 8 = .ok (.dup, 1) := by decide +kernel
theorem dci_9 : decode prog_48_method_1_code 9 = .ok (.invokespecial 9, 3) := by decide +kernel
theorem dci_12 : decode prog_48_method_1_code 12 = .ok (.putfield 10, 3) := by decide +kernel
theorem dci_15 : decode prog_48_method_1_code 15 = .ok (.aload_n 0, 1) := by decide +kernel
theorem dci_16 : decode prog_48_method_1_code 16 = .ok (.iconst 1, 1) := by decide +kernel
theorem dci_17 : decode prog_48_method_1_code 17 = .ok (.putfield 16, 3) := by decide +kernel
theorem dci_20 : decode prog_48_method_1_code 20 = .ok (.return_, 1) := by decide +kernel
theorem own_pn4 : plainName "com/example/verity/verity/SplicedChannel" = true := by first | (simp [plainName, overriddenIn]; done) | decide +kernel
theorem own_efci (m : MethodId) (a : Addr) : entryFrame m #[(.ref a)] 1 = mkF m 0 #[.val (.ref a)] [] := by first | (simp [entryFrame, mkF, argsToLocals, Value.category]; done) | rfl
set_option maxRecDepth 65536 in
set_option maxHeartbeats 40000000 in
theorem own_rmci (l : Launch) (Z : State) (a0 : Array Value) (hw : ∀ d ∈ tables_1, d.before a0 Z = true) (a : Addr) (h0 : Heap) (n0 : Nat) (g_a : n0 ≤ a) (u0 u1 : Value) (dd : Addr) (cdd : Cell) (O : Old Z n0 h0) (S_dd : Sta Z Z.heap "java/util/ArrayList" "DEFAULTCAPACITY_EMPTY_ELEMENTDATA" "[Ljava/lang/Object;" (.ref dd)) (A_dd : Arr Z Z.heap dd cdd (.object "java/lang/Object")) (hcdd : cdd.slots.size.toInt32 = 0) (E_a : Exa Z h0 a "com/example/verity/verity/SplicedChannel") (F_parts_a : Fld Z h0 a "com/example/verity/verity/SplicedChannel" "parts" "Ljava/util/List;" u0) (F_open_a : Fld Z h0 a "com/example/verity/verity/SplicedChannel" "open" "Z" u1) (F_size_a : Fld Z h0 a "com/example/verity/verity/SplicedChannel" "size" "J" (.long 0)) (F_position_a : Fld Z h0 a "com/example/verity/verity/SplicedChannel" "position" "J" (.long 0)) :
    own_C l Z (⟨"com/example/verity/verity/SplicedChannel", "<init>", "()V"⟩ : MethodName) prog_48_method_1_code 1 none [] ({ frames := 4, cells := 1, slots := 3, locals := 52 } : Room) #[(.ref a)] h0 (fun v h L => v = none ∧ Fr n0 L ∧ Keep h0 h [a] ∧ ∃ y, n0 ≤ y ∧ h0.size ≤ y ∧ (Exa Z h y "java/util/ArrayList" ∧ Fld Z h y "java/util/AbstractList" "modCount" "I" (.int 0) ∧ Fld Z h y "java/util/ArrayList" "elementData" "[Ljava/lang/Object;" (.ref dd) ∧ Fld Z h y "java/util/ArrayList" "size" "I" (.int 0)) ∧ Fld Z h a "com/example/verity/verity/SplicedChannel" "parts" "Ljava/util/List;" (.ref y) ∧ Fld Z h a "com/example/verity/verity/SplicedChannel" "open" "Z" (.int 1) ∧ Fld Z h a "com/example/verity/verity/SplicedChannel" "size" "J" (.long 0) ∧ Fld Z h a "com/example/verity/verity/SplicedChannel" "position" "J" (.long 0)) := by
  refine own_body (plainFor_of_name own_pn4) fun p e s m below meth c s₁ hx hby hml hret hlk hown hnm hZ X0 e0 => ?_
  rw [own_efci m a]
  have N0 := Fr.nil n0
  have K := Keep.refl h0 [a]
  refine own_go (U' := s₁.setTop (mkF m 1 #[.val (.ref a)] [(.ref a)])) (fun t k => XS.aloadN X0.here hx rfl (hb hby dci_0) rfl rfl k) ?_
  obtain ⟨T1, X1, e1, st1⟩ := initO X0 hx hZ hown (hw _ (List.mem_of_getElem? (i := 6) rfl)) (hw _ (List.mem_of_getElem? (i := 7) rfl)) (hw _ (List.mem_of_getElem? (i := 8) rfl)) e0 (g := (mkF m 1 #[.val (.ref a)] [(.ref a)])) rfl (by rw [hml]; rfl) rfl (hb hby dci_1) (by decide) (W := 0) (by show 2 * 0 + _ ≤ _; exact Nat.le_of_eq rfl) (by decide)
  refine own_go (U' := T1.setTop (mkF m 4 #[.val (.ref a)] [])) st1 ?_
  refine own_go (U' := T1.setTop (mkF m 5 #[.val (.ref a)] [(.ref a)])) (fun t k => XS.aloadN X1.here hx rfl (hb hby dci_4) rfl rfl k) ?_
  obtain ⟨T2, h2, X2, e2, E2, A2, D2, -, st2⟩ := newO X1 hx hZ hown (hw _ (List.mem_of_getElem? (i := 9) rfl)) (hw _ (List.mem_of_getElem? (i := 10) rfl)) (hw _ (List.mem_of_getElem? (i := 11) rfl)) e1 (g := (mkF m 5 #[.val (.ref a)] [(.ref a)])) rfl (hb hby dci_5) (by decide) (by decide)
  obtain ⟨b2, g2⟩ : ∃ z, z = h0.size := ⟨_, rfl⟩
  rw [← g2] at A2 D2 st2
  have ne_a_b2 : a ≠ b2 := Nat.ne_of_lt (Nat.lt_of_lt_of_eq E_a.lt g2.symm)
  have g_b2 : n0 ≤ b2 := Nat.le_trans (Nat.le_trans (Nat.le_of_eq O.1.symm) O.2.1) (Nat.le_of_eq g2.symm)
  have sz_b2 : h0.size ≤ b2 := Nat.le_trans K.1 (Nat.le_of_eq g2.symm)
  have K := K.ext E2
  have O := O.ext E2
  have E_a := E_a.ext E2
  have F_parts_a := F_parts_a.ext E2
  have F_open_a := F_open_a.ext E2
  have F_size_a := F_size_a.ext E2
  have F_position_a := F_position_a.ext E2
  have E_b2 := A2
  have F_modCount_b2 : Fld Z h2 b2 "java/util/AbstractList" "modCount" "I" (.int (0 : Int32)) := D2 (Or.inl (hw _ (List.mem_of_getElem? (i := 29) rfl))) (ty := .int) (by decide)
  have F_elementData_b2 : Fld Z h2 b2 "java/util/ArrayList" "elementData" "[Ljava/lang/Object;" .null := D2 (Or.inl (hw _ (List.mem_of_getElem? (i := 32) rfl))) (ty := (.array (.object "java/lang/Object"))) (by decide)
  have F_size_b2 : Fld Z h2 b2 "java/util/ArrayList" "size" "I" (.int (0 : Int32)) := D2 (Or.inl (hw _ (List.mem_of_getElem? (i := 106) rfl))) (ty := .int) (by decide)
  refine own_go (U' := T2.setTop (mkF m 8 #[.val (.ref a)] [(.ref b2), (.ref a)])) st2 ?_
  refine own_go (U' := T2.setTop (mkF m 9 #[.val (.ref a)] [(.ref b2), (.ref b2), (.ref a)])) (fun t k => XS.dup X2.here hx rfl (hb hby dci_8) rfl rfl k) ?_
  obtain ⟨v3, T3, h3, L3, e3, X3, hQ3, st3⟩ := own_callC X2 hx hZ (y := (⟨"java/util/ArrayList", "<init>", "()V"⟩ : MethodName)) rfl hown (hw _ (List.mem_of_getElem? (i := 12) rfl)) (hw _ (List.mem_of_getElem? (i := 13) rfl)) (hw _ (List.mem_of_getElem? (i := 11) rfl)) (hw _ (List.mem_of_getElem? (i := 14) rfl)) (by decide) (a := b2) (own_rmal l Z a0 hw b2 h2 n0 g_b2 _ _ _ dd O S_dd E_b2 F_modCount_b2 F_elementData_b2 F_size_b2) (W := 2) (by decide) (by decide) (g := (mkF m 9 #[.val (.ref a)] [(.ref b2), (.ref b2), (.ref a)])) rfl (by rw [hml]; rfl) (argsL := []) (rest := [(.ref b2), (.ref a)]) (lenOf own_pd0 rfl) rfl rfl (by show 2 * 0 + _ ≤ _; exact Nat.le_of_eq rfl) (hb hby dci_9) e2 (by decide) (by decide)
  obtain ⟨rfl, Nq, Kq, Fm, Fe, Fs⟩ := hQ3
  have K := K.trans Kq (allS (Or.inr sz_b2) all0)
  have O := O.keep Kq (allS g_b2 all0)
  have E_a := E_a.keep Kq
  have F_parts_a := F_parts_a.keep Kq (ninS ne_a_b2 nin0)
  have F_open_a := F_open_a.keep Kq (ninS ne_a_b2 nin0)
  have F_size_a := F_size_a.keep Kq (ninS ne_a_b2 nin0)
  have F_position_a := F_position_a.keep Kq (ninS ne_a_b2 nin0)
  have E_b2 := E_b2.keep Kq
  have F_modCount_b2 := Fm
  have F_elementData_b2 := Fe
  have F_size_b2 := Fs
  have N3 := Fr.app N0 Nq
  refine own_go (U' := T3.setTop (mkF m 12 #[.val (.ref a)] [(.ref b2), (.ref a)])) st3 ?_
  obtain ⟨T4, h4, X4, e4, W4, st4⟩ := putF X3 hx hZ hown (host := "") (Or.inl (hw _ (List.mem_of_getElem? (i := 33) rfl))) Via.refl e3 F_parts_a E_a (Or.inr ⟨(hw _ (List.mem_of_getElem? (i := 34) rfl)), rfl, hnm⟩) (hw _ (List.mem_of_getElem? (i := 1) rfl)) (ty := (.object "java/util/List")) (by decide) rfl rfl (g := (mkF m 12 #[.val (.ref a)] [(.ref b2), (.ref a)])) rfl rfl (hb hby dci_12)
  have K := K.wr W4 (Or.inl (List.mem_of_getElem? (i := 0) rfl))
  have O := O.wr W4 g_a
  have E_a := E_a.wr W4
  have F_open_a := F_open_a.other W4 (Or.inr (slot_ne (Or.inl (hw _ (List.mem_of_getElem? (i := 36) rfl))) (Or.inr (hw _ (List.mem_of_getElem? (i := 34) rfl))) (by decide) (t := .boolean) (t' := (.object "java/util/List")) (by decide) (by decide)))
  have F_size_a := F_size_a.other W4 (Or.inr (slot_ne (Or.inl (hw _ (List.mem_of_getElem? (i := 44) rfl))) (Or.inr (hw _ (List.mem_of_getElem? (i := 34) rfl))) (by decide) (t := .long) (t' := (.object "java/util/List")) (by decide) (by decide)))
  have F_position_a := F_position_a.other W4 (Or.inr (slot_ne (Or.inl (hw _ (List.mem_of_getElem? (i := 56) rfl))) (Or.inr (hw _ (List.mem_of_getElem? (i := 34) rfl))) (by decide) (t := .long) (t' := (.object "java/util/List")) (by decide) (by decide)))
  have E_b2 := E_b2.wr W4
  have F_modCount_b2 := F_modCount_b2.other W4 (Or.inl (Ne.symm ne_a_b2))
  have F_elementData_b2 := F_elementData_b2.other W4 (Or.inl (Ne.symm ne_a_b2))
  have F_size_b2 := F_size_b2.other W4 (Or.inl (Ne.symm ne_a_b2))
  have F_parts_a := F_parts_a.same W4
  have N4 := Fr.snoc X4 N3 g_a
  refine own_go (U' := T4.setTop (mkF m 15 #[.val (.ref a)] [])) st4 ?_
  refine own_go (U' := T4.setTop (mkF m 16 #[.val (.ref a)] [(.ref a)])) (fun t k => XS.aloadN X4.here hx rfl (hb hby dci_15) rfl rfl k) ?_
  refine own_go (U' := T4.setTop (mkF m 17 #[.val (.ref a)] [(.int (1 : Int32)), (.ref a)])) (fun t k => XS.iconst X4.here hx rfl (hb hby dci_16) k) ?_
  obtain ⟨T5, h5, X5, e5, W5, st5⟩ := putFN X4 hx hZ hown (hw _ (List.mem_of_getElem? (i := 35) rfl)) Via.refl e4 F_open_a E_a (Or.inl (hw _ (List.mem_of_getElem? (i := 36) rfl))) (hw _ (List.mem_of_getElem? (i := 1) rfl)) (ty := .boolean) (v' := (.int (nar .boolean (1 : Int32)))) (by decide) rfl (fits_nar_bool _) (g := (mkF m 17 #[.val (.ref a)] [(.int (1 : Int32)), (.ref a)])) rfl rfl (hb hby dci_17)
  have K := K.wr W5 (Or.inl (List.mem_of_getElem? (i := 0) rfl))
  have O := O.wr W5 g_a
  have E_a := E_a.wr W5
  have F_parts_a := F_parts_a.other W5 (Or.inr (slot_ne (Or.inr (hw _ (List.mem_of_getElem? (i := 34) rfl))) (Or.inl (hw _ (List.mem_of_getElem? (i := 36) rfl))) (by decide) (t := (.object "java/util/List")) (t' := .boolean) (by decide) (by decide)))
  have F_size_a := F_size_a.other W5 (Or.inr (slot_ne (Or.inl (hw _ (List.mem_of_getElem? (i := 44) rfl))) (Or.inl (hw _ (List.mem_of_getElem? (i := 36) rfl))) (by decide) (t := .long) (t' := .boolean) (by decide) (by decide)))
  have F_position_a := F_position_a.other W5 (Or.inr (slot_ne (Or.inl (hw _ (List.mem_of_getElem? (i := 56) rfl))) (Or.inl (hw _ (List.mem_of_getElem? (i := 36) rfl))) (by decide) (t := .long) (t' := .boolean) (by decide) (by decide)))
  have E_b2 := E_b2.wr W5
  have F_modCount_b2 := F_modCount_b2.other W5 (Or.inl (Ne.symm ne_a_b2))
  have F_elementData_b2 := F_elementData_b2.other W5 (Or.inl (Ne.symm ne_a_b2))
  have F_size_b2 := F_size_b2.other W5 (Or.inl (Ne.symm ne_a_b2))
  have F_open_a := F_open_a.same W5
  have N5 := Fr.snoc X5 N4 g_a
  refine own_go (U' := T5.setTop (mkF m 20 #[.val (.ref a)] [])) st5 ?_
  refine own_retV X5 hx hret hlk (hb hby dci_20) ?_ (by decide) (by decide)
  rw [e5]
  exact ⟨rfl, N5, K, b2, g_b2, sz_b2, ⟨E_b2, F_modCount_b2, F_elementData_b2, F_size_b2⟩, F_parts_a, F_open_a, F_size_a, F_position_a⟩
theorem dpi_0 : decode prog_49_method_1_code 0 = .ok (.aload_n 0, 1) := by decide +kernel
theorem dpi_1 : decode prog_49_method_1_code 1 = .ok (.invokespecial 1, 3) := by decide +kernel
theorem dpi_4 : decode prog_49_method_1_code 4 = .ok (.aload_n 0, 1) := by decide +kernel
theorem dpi_5 : decode prog_49_method_1_code 5 = .ok (.lload_n 1, 1) := by decide +kernel
theorem dpi_6 : decode prog_49_method_1_code 6 = .ok (.putfield 7, 3) := by decide +kernel
theorem dpi_9 : decode prog_49_method_1_code 9 = .ok (.aload_n 0, 1) := by decide +kernel
theorem dpi_10 : decode prog_49_method_1_code 10 = .ok (.aload_n 3, 1) := by decide +kernel
theorem dpi_11 : decode prog_49_method_1_code 11 = .ok (.putfield 13, 3) := by decide +kernel
theorem dpi_14 : decode prog_49_method_1_code 14 = .ok (.aload_n 0, 1) := by decide +kernel
theorem dpi_15 : decode prog_49_method_1_code 15 = .ok (.lload 4, 2) := by decide +kernel
theorem dpi_17 : decode prog_49_method_1_code 17 = .ok (.putfield 17, 3) := by decide +kernel
theorem dpi_20 : decode prog_49_method_1_code 20 = .ok (.aload_n 0, 1) := by decide +kernel
theorem dpi_21 : decode prog_49_method_1_code 21 = .ok (.aload 6, 2) := by decide +kernel
theorem dpi_23 : decode prog_49_method_1_code 23 = .ok (.putfield 20, 3) := by decide +kernel
theorem dpi_26 : decode prog_49_method_1_code 26 = .ok (.aload_n 0, 1) := by decide +kernel
theorem dpi_27 : decode prog_49_method_1_code 27 = .ok (.lload 7, 2) := by decide +kernel
theorem dpi_29 : decode prog_49_method_1_code 29 = .ok (.putfield 24, 3) := by decide +kernel
theorem dpi_32 : decode prog_49_method_1_code 32 = .ok (.return_, 1) := by decide +kernel
theorem own_pn5 : plainName "com/example/verity/verity/SplicedChannel$Part" = true := by first | (simp [plainName, overriddenIn]; done) | decide +kernel
theorem own_efpi (m : MethodId) (a : Addr) (q1 q2 : Int64) (b : Addr) (q3 : Int64) : entryFrame m #[(.ref a), (.long q1), .null, (.long q2), (.ref b), (.long q3)] 9 = mkF m 0 #[.val (.ref a), .val (.long q1), .second, .val .null, .val (.long q2), .second, .val (.ref b), .val (.long q3), .second] [] := by first | (simp [entryFrame, mkF, argsToLocals, Value.category]; done) | rfl
set_option maxRecDepth 65536 in
set_option maxHeartbeats 40000000 in
theorem own_rmpi (l : Launch) (Z : State) (a0 : Array Value) (hw : ∀ d ∈ tables_1, d.before a0 Z = true) (a : Addr) (q1 q2 : Int64) (b : Addr) (q3 : Int64) (h0 : Heap) (n0 : Nat) (g_a : n0 ≤ a) (u0 u1 u2 u3 u4 : Value) (E_a : Exa Z h0 a "com/example/verity/verity/SplicedChannel$Part") (F_start_a : Fld Z h0 a "com/example/verity/verity/SplicedChannel$Part" "start" "J" u0) (F_file_a : Fld Z h0 a "com/example/verity/verity/SplicedChannel$Part" "file" "Ljava/nio/channels/SeekableByteChannel;" u1) (F_filePosition_a : Fld Z h0 a "com/example/verity/verity/SplicedChannel$Part" "filePosition" "J" u2) (F_bytes_a : Fld Z h0 a "com/example/verity/verity/SplicedChannel$Part" "bytes" "[B" u3) (F_size_a : Fld Z h0 a "com/example/verity/verity/SplicedChannel$Part" "size" "J" u4) :
    own_C l Z (⟨"com/example/verity/verity/SplicedChannel$Part", "<init>", "(JLjava/nio/channels/SeekableByteChannel;J[BJ)V"⟩ : MethodName) prog_49_method_1_code 9 none [] ({ frames := 2, cells := 0, slots := 0, locals := 24 } : Room) #[(.ref a), (.long q1), .null, (.long q2), (.ref b), (.long q3)] h0 (fun v h L => v = none ∧ Fr n0 L ∧ Keep h0 h [a]) := by
  refine own_body (plainFor_of_name own_pn5) fun p e s m below meth c s₁ hx hby hml hret hlk hown hnm hZ X0 e0 => ?_
  rw [own_efpi m a q1 q2 b q3]
  have N0 := Fr.nil n0
  have K := Keep.refl h0 [a]
  refine own_go (U' := s₁.setTop (mkF m 1 #[.val (.ref a), .val (.long q1), .second, .val .null, .val (.long q2), .second, .val (.ref b), .val (.long q3), .second] [(.ref a)])) (fun t k => XS.aloadN X0.here hx rfl (hb hby dpi_0) rfl rfl k) ?_
  obtain ⟨v1, T1, h1, L1, e1, X1, hQ1, st1⟩ := own_callC X0 hx hZ (y := (⟨"java/lang/Record", "<init>", "()V"⟩ : MethodName)) rfl hown (hw _ (List.mem_of_getElem? (i := 78) rfl)) (hw _ (List.mem_of_getElem? (i := 79) rfl)) (hw _ (List.mem_of_getElem? (i := 81) rfl)) (hw _ (List.mem_of_getElem? (i := 82) rfl)) (by decide) (a := a) (own_rmre l Z a0 hw a h0) (W := 0) (by decide) (by decide) (g := (mkF m 1 #[.val (.ref a), .val (.long q1), .second, .val .null, .val (.long q2), .second, .val (.ref b), .val (.long q3), .second] [(.ref a)])) rfl (by rw [hml]; rfl) (argsL := []) (rest := []) (lenOf own_pd0 rfl) rfl rfl (by show 2 * 0 + _ ≤ _; exact Nat.le_of_eq rfl) (hb hby dpi_1) e0 (by decide) (by decide)
  obtain ⟨rfl, rfl, eh1⟩ := hQ1
  have e1 := e1.trans eh1
  rw [List.append_nil] at X1
  refine own_go (U' := T1.setTop (mkF m 4 #[.val (.ref a), .val (.long q1), .second, .val .null, .val (.long q2), .second, .val (.ref b), .val (.long q3), .second] [])) st1 ?_
  refine own_go (U' := T1.setTop (mkF m 5 #[.val (.ref a), .val (.long q1), .second, .val .null, .val (.long q2), .second, .val (.ref b), .val (.long q3), .second] [(.ref a)])) (fun t k => XS.aloadN X1.here hx rfl (hb hby dpi_4) rfl rfl k) ?_
  refine own_go (U' := T1.setTop (mkF m 6 #[.val (.ref a), .val (.long q1), .second, .val .null, .val (.long q2), .second, .val (.ref b), .val (.long q3), .second] [(.long q1), (.ref a)])) (fun t k => XS.lloadN X1.here hx rfl (hb hby dpi_5) rfl k) ?_
  obtain ⟨T2, h2, X2, e2, W2, st2⟩ := putF X1 hx hZ hown (host := "") (Or.inl (hw _ (List.mem_of_getElem? (i := 84) rfl))) Via.refl e1 F_start_a E_a (Or.inr ⟨(hw _ (List.mem_of_getElem? (i := 85) rfl)), rfl, hnm⟩) (hw _ (List.mem_of_getElem? (i := 73) rfl)) (ty := .long) (by decide) rfl rfl (g := (mkF m 6 #[.val (.ref a), .val (.long q1), .second, .val .null, .val (.long q2), .second, .val (.ref b), .val (.long q3), .second] [(.long q1), (.ref a)])) rfl rfl (hb hby dpi_6)
  have K := K.wr W2 (Or.inl (List.mem_of_getElem? (i := 0) rfl))
  have E_a := E_a.wr W2
  have F_file_a := F_file_a.other W2 (Or.inr (slot_ne (Or.inr (hw _ (List.mem_of_getElem? (i := 87) rfl))) (Or.inr (hw _ (List.mem_of_getElem? (i := 85) rfl))) (by decide) (t := (.object "java/nio/channels/SeekableByteChannel")) (t' := .long) (by decide) (by decide)))
  have F_filePosition_a := F_filePosition_a.other W2 (Or.inr (slot_ne (Or.inr (hw _ (List.mem_of_getElem? (i := 89) rfl))) (Or.inr (hw _ (List.mem_of_getElem? (i := 85) rfl))) (by decide) (t := .long) (t' := .long) (by decide) (by decide)))
  have F_bytes_a := F_bytes_a.other W2 (Or.inr (slot_ne (Or.inr (hw _ (List.mem_of_getElem? (i := 91) rfl))) (Or.inr (hw _ (List.mem_of_getElem? (i := 85) rfl))) (by decide) (t := (.array .byte)) (t' := .long) (by decide) (by decide)))
  have F_size_a := F_size_a.other W2 (Or.inr (slot_ne (Or.inr (hw _ (List.mem_of_getElem? (i := 93) rfl))) (Or.inr (hw _ (List.mem_of_getElem? (i := 85) rfl))) (by decide) (t := .long) (t' := .long) (by decide) (by decide)))
  have F_start_a := F_start_a.same W2
  have N2 := Fr.snoc X2 N0 g_a
  refine own_go (U' := T2.setTop (mkF m 9 #[.val (.ref a), .val (.long q1), .second, .val .null, .val (.long q2), .second, .val (.ref b), .val (.long q3), .second] [])) st2 ?_
  refine own_go (U' := T2.setTop (mkF m 10 #[.val (.ref a), .val (.long q1), .second, .val .null, .val (.long q2), .second, .val (.ref b), .val (.long q3), .second] [(.ref a)])) (fun t k => XS.aloadN X2.here hx rfl (hb hby dpi_9) rfl rfl k) ?_
  refine own_go (U' := T2.setTop (mkF m 11 #[.val (.ref a), .val (.long q1), .second, .val .null, .val (.long q2), .second, .val (.ref b), .val (.long q3), .second] [.null, (.ref a)])) (fun t k => XS.aloadN X2.here hx rfl (hb hby dpi_10) rfl rfl k) ?_
  obtain ⟨T3, h3, X3, e3, W3, st3⟩ := putF X2 hx hZ hown (host := "") (Or.inl (hw _ (List.mem_of_getElem? (i := 86) rfl))) Via.refl e2 F_file_a E_a (Or.inr ⟨(hw _ (List.mem_of_getElem? (i := 87) rfl)), rfl, hnm⟩) (hw _ (List.mem_of_getElem? (i := 73) rfl)) (ty := (.object "java/nio/channels/SeekableByteChannel")) (by decide) rfl rfl (g := (mkF m 11 #[.val (.ref a), .val (.long q1), .second, .val .null, .val (.long q2), .second, .val (.ref b), .val (.long q3), .second] [.null, (.ref a)])) rfl rfl (hb hby dpi_11)
  have K := K.wr W3 (Or.inl (List.mem_of_getElem? (i := 0) rfl))
  have E_a := E_a.wr W3
  have F_start_a := F_start_a.other W3 (Or.inr (slot_ne (Or.inr (hw _ (List.mem_of_getElem? (i := 85) rfl))) (Or.inr (hw _ (List.mem_of_getElem? (i := 87) rfl))) (by decide) (t := .long) (t' := (.object "java/nio/channels/SeekableByteChannel")) (by decide) (by decide)))
  have F_filePosition_a := F_filePosition_a.other W3 (Or.inr (slot_ne (Or.inr (hw _ (List.mem_of_getElem? (i := 89) rfl))) (Or.inr (hw _ (List.mem_of_getElem? (i := 87) rfl))) (by decide) (t := .long) (t' := (.object "java/nio/channels/SeekableByteChannel")) (by decide) (by decide)))
  have F_bytes_a := F_bytes_a.other W3 (Or.inr (slot_ne (Or.inr (hw _ (List.mem_of_getElem? (i := 91) rfl))) (Or.inr (hw _ (List.mem_of_getElem? (i := 87) rfl))) (by decide) (t := (.array .byte)) (t' := (.object "java/nio/channels/SeekableByteChannel")) (by decide) (by decide)))
  have F_size_a := F_size_a.other W3 (Or.inr (slot_ne (Or.inr (hw _ (List.mem_of_getElem? (i := 93) rfl))) (Or.inr (hw _ (List.mem_of_getElem? (i := 87) rfl))) (by decide) (t := .long) (t' := (.object "java/nio/channels/SeekableByteChannel")) (by decide) (by decide)))
  have F_file_a := F_file_a.same W3
  have N3 := Fr.snoc X3 N2 g_a
  refine own_go (U' := T3.setTop (mkF m 14 #[.val (.ref a), .val (.long q1), .second, .val .null, .val (.long q2), .second, .val (.ref b), .val (.long q3), .second] [])) st3 ?_
  refine own_go (U' := T3.setTop (mkF m 15 #[.val (.ref a), .val (.long q1), .second, .val .null, .val (.long q2), .second, .val (.ref b), .val (.long q3), .second] [(.ref a)])) (fun t k => XS.aloadN X3.here hx rfl (hb hby dpi_14) rfl rfl k) ?_
  refine own_go (U' := T3.setTop (mkF m 17 #[.val (.ref a), .val (.long q1), .second, .val .null, .val (.long q2), .second, .val (.ref b), .val (.long q3), .second] [(.long q2), (.ref a)])) (fun t k => XS.lload X3.here hx rfl (hb hby dpi_15) rfl k) ?_
  obtain ⟨T4, h4, X4, e4, W4, st4⟩ := putF X3 hx hZ hown (host := "") (Or.inl (hw _ (List.mem_of_getElem? (i := 88) rfl))) Via.refl e3 F_filePosition_a E_a (Or.inr ⟨(hw _ (List.mem_of_getElem? (i := 89) rfl)), rfl, hnm⟩) (hw _ (List.mem_of_getElem? (i := 73) rfl)) (ty := .long) (by decide) rfl rfl (g := (mkF m 17 #[.val (.ref a), .val (.long q1), .second, .val .null, .val (.long q2), .second, .val (.ref b), .val (.long q3), .second] [(.long q2), (.ref a)])) rfl rfl (hb hby dpi_17)
  have K := K.wr W4 (Or.inl (List.mem_of_getElem? (i := 0) rfl))
  have E_a := E_a.wr W4
  have F_start_a := F_start_a.other W4 (Or.inr (slot_ne (Or.inr (hw _ (List.mem_of_getElem? (i := 85) rfl))) (Or.inr (hw _ (List.mem_of_getElem? (i := 89) rfl))) (by decide) (t := .long) (t' := .long) (by decide) (by decide)))
  have F_file_a := F_file_a.other W4 (Or.inr (slot_ne (Or.inr (hw _ (List.mem_of_getElem? (i := 87) rfl))) (Or.inr (hw _ (List.mem_of_getElem? (i := 89) rfl))) (by decide) (t := (.object "java/nio/channels/SeekableByteChannel")) (t' := .long) (by decide) (by decide)))
  have F_bytes_a := F_bytes_a.other W4 (Or.inr (slot_ne (Or.inr (hw _ (List.mem_of_getElem? (i := 91) rfl))) (Or.inr (hw _ (List.mem_of_getElem? (i := 89) rfl))) (by decide) (t := (.array .byte)) (t' := .long) (by decide) (by decide)))
  have F_size_a := F_size_a.other W4 (Or.inr (slot_ne (Or.inr (hw _ (List.mem_of_getElem? (i := 93) rfl))) (Or.inr (hw _ (List.mem_of_getElem? (i := 89) rfl))) (by decide) (t := .long) (t' := .long) (by decide) (by decide)))
  have F_filePosition_a := F_filePosition_a.same W4
  have N4 := Fr.snoc X4 N3 g_a
  refine own_go (U' := T4.setTop (mkF m 20 #[.val (.ref a), .val (.long q1), .second, .val .null, .val (.long q2), .second, .val (.ref b), .val (.long q3), .second] [])) st4 ?_
  refine own_go (U' := T4.setTop (mkF m 21 #[.val (.ref a), .val (.long q1), .second, .val .null, .val (.long q2), .second, .val (.ref b), .val (.long q3), .second] [(.ref a)])) (fun t k => XS.aloadN X4.here hx rfl (hb hby dpi_20) rfl rfl k) ?_
  refine own_go (U' := T4.setTop (mkF m 23 #[.val (.ref a), .val (.long q1), .second, .val .null, .val (.long q2), .second, .val (.ref b), .val (.long q3), .second] [(.ref b), (.ref a)])) (fun t k => XS.aload X4.here hx rfl (hb hby dpi_21) rfl rfl k) ?_
  obtain ⟨T5, h5, X5, e5, W5, st5⟩ := putF X4 hx hZ hown (host := "") (Or.inl (hw _ (List.mem_of_getElem? (i := 90) rfl))) Via.refl e4 F_bytes_a E_a (Or.inr ⟨(hw _ (List.mem_of_getElem? (i := 91) rfl)), rfl, hnm⟩) (hw _ (List.mem_of_getElem? (i := 73) rfl)) (ty := (.array .byte)) (by decide) rfl rfl (g := (mkF m 23 #[.val (.ref a), .val (.long q1), .second, .val .null, .val (.long q2), .second, .val (.ref b), .val (.long q3), .second] [(.ref b), (.ref a)])) rfl rfl (hb hby dpi_23)
  have K := K.wr W5 (Or.inl (List.mem_of_getElem? (i := 0) rfl))
  have E_a := E_a.wr W5
  have F_start_a := F_start_a.other W5 (Or.inr (slot_ne (Or.inr (hw _ (List.mem_of_getElem? (i := 85) rfl))) (Or.inr (hw _ (List.mem_of_getElem? (i := 91) rfl))) (by decide) (t := .long) (t' := (.array .byte)) (by decide) (by decide)))
  have F_file_a := F_file_a.other W5 (Or.inr (slot_ne (Or.inr (hw _ (List.mem_of_getElem? (i := 87) rfl))) (Or.inr (hw _ (List.mem_of_getElem? (i := 91) rfl))) (by decide) (t := (.object "java/nio/channels/SeekableByteChannel")) (t' := (.array .byte)) (by decide) (by decide)))
  have F_filePosition_a := F_filePosition_a.other W5 (Or.inr (slot_ne (Or.inr (hw _ (List.mem_of_getElem? (i := 89) rfl))) (Or.inr (hw _ (List.mem_of_getElem? (i := 91) rfl))) (by decide) (t := .long) (t' := (.array .byte)) (by decide) (by decide)))
  have F_size_a := F_size_a.other W5 (Or.inr (slot_ne (Or.inr (hw _ (List.mem_of_getElem? (i := 93) rfl))) (Or.inr (hw _ (List.mem_of_getElem? (i := 91) rfl))) (by decide) (t := .long) (t' := (.array .byte)) (by decide) (by decide)))
  have F_bytes_a := F_bytes_a.same W5
  have N5 := Fr.snoc X5 N4 g_a
  refine own_go (U' := T5.setTop (mkF m 26 #[.val (.ref a), .val (.long q1), .second, .val .null, .val (.long q2), .second, .val (.ref b), .val (.long q3), .second] [])) st5 ?_
  refine own_go (U' := T5.setTop (mkF m 27 #[.val (.ref a), .val (.long q1), .second, .val .null, .val (.long q2), .second, .val (.ref b), .val (.long q3), .second] [(.ref a)])) (fun t k => XS.aloadN X5.here hx rfl (hb hby dpi_26) rfl rfl k) ?_
  refine own_go (U' := T5.setTop (mkF m 29 #[.val (.ref a), .val (.long q1), .second, .val .null, .val (.long q2), .second, .val (.ref b), .val (.long q3), .second] [(.long q3), (.ref a)])) (fun t k => XS.lload X5.here hx rfl (hb hby dpi_27) rfl k) ?_
  obtain ⟨T6, h6, X6, e6, W6, st6⟩ := putF X5 hx hZ hown (host := "") (Or.inl (hw _ (List.mem_of_getElem? (i := 92) rfl))) Via.refl e5 F_size_a E_a (Or.inr ⟨(hw _ (List.mem_of_getElem? (i := 93) rfl)), rfl, hnm⟩) (hw _ (List.mem_of_getElem? (i := 73) rfl)) (ty := .long) (by decide) rfl rfl (g := (mkF m 29 #[.val (.ref a), .val (.long q1), .second, .val .null, .val (.long q2), .second, .val (.ref b), .val (.long q3), .second] [(.long q3), (.ref a)])) rfl rfl (hb hby dpi_29)
  have K := K.wr W6 (Or.inl (List.mem_of_getElem? (i := 0) rfl))
  have E_a := E_a.wr W6
  have F_start_a := F_start_a.other W6 (Or.inr (slot_ne (Or.inr (hw _ (List.mem_of_getElem? (i := 85) rfl))) (Or.inr (hw _ (List.mem_of_getElem? (i := 93) rfl))) (by decide) (t := .long) (t' := .long) (by decide) (by decide)))
  have F_file_a := F_file_a.other W6 (Or.inr (slot_ne (Or.inr (hw _ (List.mem_of_getElem? (i := 87) rfl))) (Or.inr (hw _ (List.mem_of_getElem? (i := 93) rfl))) (by decide) (t := (.object "java/nio/channels/SeekableByteChannel")) (t' := .long) (by decide) (by decide)))
  have F_filePosition_a := F_filePosition_a.other W6 (Or.inr (slot_ne (Or.inr (hw _ (List.mem_of_getElem? (i := 89) rfl))) (Or.inr (hw _ (List.mem_of_getElem? (i := 93) rfl))) (by decide) (t := .long) (t' := .long) (by decide) (by decide)))
  have F_bytes_a := F_bytes_a.other W6 (Or.inr (slot_ne (Or.inr (hw _ (List.mem_of_getElem? (i := 91) rfl))) (Or.inr (hw _ (List.mem_of_getElem? (i := 93) rfl))) (by decide) (t := (.array .byte)) (t' := .long) (by decide) (by decide)))
  have F_size_a := F_size_a.same W6
  have N6 := Fr.snoc X6 N5 g_a
  refine own_go (U' := T6.setTop (mkF m 32 #[.val (.ref a), .val (.long q1), .second, .val .null, .val (.long q2), .second, .val (.ref b), .val (.long q3), .second] [])) st6 ?_
  refine own_retV X6 hx hret hlk (hb hby dpi_32) ?_ (by decide) (by decide)
  rw [e6]
  exact ⟨rfl, N6, K⟩
theorem dap_0 : decode prog_48_method_3_code 0 = .ok (.aload_n 1, 1) := by decide +kernel
theorem dap_1 : decode prog_48_method_3_code 1 = .ok (.arraylength, 1) := by decide +kernel
theorem dap_2 : decode prog_48_method_3_code 2 = .ok (.ifCond .le 30, 3) := by decide +kernel
theorem dap_5 : decode prog_48_method_3_code 5 = .ok (.aload_n 0, 1) := by decide +kernel
theorem dap_6 : decode prog_48_method_3_code 6 = .ok (.getfield 10, 3) := by decide +kernel
theorem dap_9 : decode prog_48_method_3_code 9 = .ok (.new 34, 3) := by decide +kernel
theorem dap_12 : decode prog_48_method_3_code 12 = .ok (.dup, 1) := by decide +kernel
theorem dap_13 : decode prog_48_method_3_code 13 = .ok (.aload_n 0, 1) := by decide +kernel
theorem dap_14 : decode prog_48_method_3_code 14 = .ok (.getfield 56, 3) := by decide +kernel
theorem dap_17 : decode prog_48_method_3_code 17 = .ok (.aconst_null, 1) := by decide +kernel
theorem dap_18 : decode prog_48_method_3_code 18 = .ok (.lconst 0, 1) := by decide +kernel
theorem dap_19 : decode prog_48_method_3_code 19 = .ok (.aload_n 1, 1) := by decide +kernel
theorem dap_20 : decode prog_48_method_3_code 20 = .ok (.aload_n 1, 1) := by decide +kernel
theorem dap_21 : decode prog_48_method_3_code 21 = .ok (.arraylength, 1) := by decide +kernel
theorem dap_22 : decode prog_48_method_3_code 22 = .ok (.i2l, 1) := by decide +kernel
theorem dap_23 : decode prog_48_method_3_code 23 = .ok (.invokespecial 49, 3) := by decide +kernel
theorem dap_26 : decode prog_48_method_3_code 26 = .ok (.invokeinterface 59 2, 5) := by decide +kernel
theorem dap_31 : decode prog_48_method_3_code 31 = .ok (.pop, 1) := by decide +kernel
theorem dap_32 : decode prog_48_method_3_code 32 = .ok (.aload_n 0, 1) := by decide +kernel
theorem dap_33 : decode prog_48_method_3_code 33 = .ok (.dup, 1) := by decide +kernel
theorem dap_34 : decode prog_48_method_3_code 34 = .ok (.getfield 56, 3) := by decide +kernel
theorem dap_37 : decode prog_48_method_3_code 37 = .ok (.aload_n 1, 1) := by decide +kernel
theorem dap_38 : decode prog_48_method_3_code 38 = .ok (.arraylength, 1) := by decide +kernel
theorem dap_39 : decode prog_48_method_3_code 39 = .ok (.i2l, 1) := by decide +kernel
theorem dap_40 : decode prog_48_method_3_code 40 = .ok (.ladd, 1) := by decide +kernel
theorem dap_41 : decode prog_48_method_3_code 41 = .ok (.putfield 56, 3) := by decide +kernel
theorem dap_44 : decode prog_48_method_3_code 44 = .ok (.return_, 1) := by decide +kernel
theorem own_efap (m : MethodId) (a b : Addr) : entryFrame m #[(.ref a), (.ref b)] 2 = mkF m 0 #[.val (.ref a), .val (.ref b)] [] := by first | (simp [entryFrame, mkF, argsToLocals, Value.category]; done) | rfl
set_option maxRecDepth 65536 in
set_option maxHeartbeats 40000000 in
theorem own_rmap (l : Launch) (Z : State) (a0 : Array Value) (hw : ∀ d ∈ tables_1, d.before a0 Z = true) (a b : Addr) (h0 : Heap) (n0 : Nat) (g_a : n0 ≤ a) (y : Addr) (g_y : n0 ≤ y) (len : Int32) (q : Int64) (kb : ClassId) (vs : List Value) (ne_a_y : a ≠ y) (hl : Int32.ofNat vs.length = len) (hl0 : ¬ len < 0) (dd : Addr) (cdd : Cell) (O : Old Z n0 h0) (S_dd : Sta Z Z.heap "java/util/ArrayList" "DEFAULTCAPACITY_EMPTY_ELEMENTDATA" "[Ljava/lang/Object;" (.ref dd)) (A_dd : Arr Z Z.heap dd cdd (.object "java/lang/Object")) (hcdd : cdd.slots.size.toInt32 = 0) (E_y : Exa Z h0 y "java/util/ArrayList") (F_modCount_y : Fld Z h0 y "java/util/AbstractList" "modCount" "I" (.int 0)) (F_elementData_y : Fld Z h0 y "java/util/ArrayList" "elementData" "[Ljava/lang/Object;" (.ref dd)) (F_size_y : Fld Z h0 y "java/util/ArrayList" "size" "I" (.int 0)) (V_b : own_Ar Z h0 b kb .byte vs) (E_a : Exa Z h0 a "com/example/verity/verity/SplicedChannel") (F_parts_a : Fld Z h0 a "com/example/verity/verity/SplicedChannel" "parts" "Ljava/util/List;" (.ref y)) (F_open_a : Fld Z h0 a "com/example/verity/verity/SplicedChannel" "open" "Z" (.int 1)) (F_size_a : Fld Z h0 a "com/example/verity/verity/SplicedChannel" "size" "J" (.long 0)) (F_position_a : Fld Z h0 a "com/example/verity/verity/SplicedChannel" "position" "J" (.long q)) :
    own_C l Z (⟨"com/example/verity/verity/SplicedChannel", "append", "([B)V"⟩ : MethodName) prog_48_method_3_code 2 none [] ({ frames := 5, cells := 2, slots := 15, locals := 72 } : Room) #[(.ref a), (.ref b)] h0 (fun v h L => v = none ∧ Fr n0 L ∧ Keep h0 h [a, y] ∧ Fld Z h a "com/example/verity/verity/SplicedChannel" "parts" "Ljava/util/List;" (.ref y) ∧ Fld Z h a "com/example/verity/verity/SplicedChannel" "open" "Z" (.int 1) ∧ Fld Z h a "com/example/verity/verity/SplicedChannel" "size" "J" (.long len.toInt64) ∧ Fld Z h a "com/example/verity/verity/SplicedChannel" "position" "J" (.long q)) := by
  refine own_body (plainFor_of_name own_pn4) fun p e s m below meth c s₁ hx hby hml hret hlk hown hnm hZ X0 e0 => ?_
  rw [own_efap m a b]
  have N0 := Fr.nil n0
  have K := Keep.refl h0 [a, y]
  have ne_a_b : a ≠ b := by
    obtain ⟨cb, Ab, -⟩ := V_b
    exact ne_arr E_a (hw _ (List.mem_of_getElem? (i := 1) rfl)) Ab
  have ne_y_b : y ≠ b := by
    obtain ⟨cb, Ab, -⟩ := V_b
    exact ne_arr E_y (hw _ (List.mem_of_getElem? (i := 10) rfl)) Ab
  refine own_go (U' := s₁.setTop (mkF m 1 #[.val (.ref a), .val (.ref b)] [(.ref b)])) (fun t k => XS.aloadN X0.here hx rfl (hb hby dap_0) rfl rfl k) ?_
  refine own_go (U' := s₁.setTop (mkF m 2 #[.val (.ref a), .val (.ref b)] [(.int len)])) (own_arrlen X0 hx hZ e0 V_b (n := len) hl (g := (mkF m 1 #[.val (.ref a), .val (.ref b)] [(.ref b)])) rfl rfl (hb hby dap_1)) ?_
  by_cases hp : (0 : Int32) < len
  · refine own_go (U' := s₁.setTop (mkF m 5 #[.val (.ref a), .val (.ref b)] [])) (fun t k => XS.ifNo X0.here hx rfl (hb hby dap_2) rfl ((if0 _ _).trans (tlt hp).2.2.2) k) ?_
    refine own_go (U' := s₁.setTop (mkF m 6 #[.val (.ref a), .val (.ref b)] [(.ref a)])) (fun t k => XS.aloadN X0.here hx rfl (hb hby dap_5) rfl rfl k) ?_
    obtain ⟨T1, X1, e1, st1⟩ := getF X0 hx hZ hown (host := "") (Or.inl (hw _ (List.mem_of_getElem? (i := 33) rfl))) Via.refl e0 F_parts_a (g := (mkF m 6 #[.val (.ref a), .val (.ref b)] [(.ref a)])) rfl rfl (hb hby dap_6)
    refine own_go (U' := T1.setTop (mkF m 9 #[.val (.ref a), .val (.ref b)] [(.ref y)])) st1 ?_
    obtain ⟨T2, h2, X2, e2, E2, A2, D2, -, st2⟩ := newO X1 hx hZ hown (hw _ (List.mem_of_getElem? (i := 72) rfl)) (hw _ (List.mem_of_getElem? (i := 73) rfl)) (hw _ (List.mem_of_getElem? (i := 74) rfl)) e1 (g := (mkF m 9 #[.val (.ref a), .val (.ref b)] [(.ref y)])) rfl (hb hby dap_9) (by decide) (by decide)
    obtain ⟨b2, g2⟩ : ∃ z, z = h0.size := ⟨_, rfl⟩
    rw [← g2] at A2 D2 st2
    have ne_a_b2 : a ≠ b2 := Nat.ne_of_lt (Nat.lt_of_lt_of_eq E_a.lt g2.symm)
    have ne_y_b2 : y ≠ b2 := Nat.ne_of_lt (Nat.lt_of_lt_of_eq E_y.lt g2.symm)
    have ne_b_b2 : b ≠ b2 := Nat.ne_of_lt (Nat.lt_of_lt_of_eq V_b.lt g2.symm)
    have g_b2 : n0 ≤ b2 := Nat.le_trans (Nat.le_trans (Nat.le_of_eq O.1.symm) O.2.1) (Nat.le_of_eq g2.symm)
    have sz_b2 : h0.size ≤ b2 := Nat.le_trans K.1 (Nat.le_of_eq g2.symm)
    have K := K.ext E2
    have O := O.ext E2
    have E_a := E_a.ext E2
    have F_parts_a := F_parts_a.ext E2
    have F_open_a := F_open_a.ext E2
    have F_size_a := F_size_a.ext E2
    have F_position_a := F_position_a.ext E2
    have E_y := E_y.ext E2
    have F_modCount_y := F_modCount_y.ext E2
    have F_elementData_y := F_elementData_y.ext E2
    have F_size_y := F_size_y.ext E2
    have V_b := V_b.ext E2
    have E_b2 := A2
    have F_start_b2 : Fld Z h2 b2 "com/example/verity/verity/SplicedChannel$Part" "start" "J" (.long (0 : Int64)) := D2 (Or.inr (hw _ (List.mem_of_getElem? (i := 85) rfl))) (ty := .long) (by decide)
    have F_file_b2 : Fld Z h2 b2 "com/example/verity/verity/SplicedChannel$Part" "file" "Ljava/nio/channels/SeekableByteChannel;" .null := D2 (Or.inr (hw _ (List.mem_of_getElem? (i := 87) rfl))) (ty := (.object "java/nio/channels/SeekableByteChannel")) (by decide)
    have F_filePosition_b2 : Fld Z h2 b2 "com/example/verity/verity/SplicedChannel$Part" "filePosition" "J" (.long (0 : Int64)) := D2 (Or.inr (hw _ (List.mem_of_getElem? (i := 89) rfl))) (ty := .long) (by decide)
    have F_bytes_b2 : Fld Z h2 b2 "com/example/verity/verity/SplicedChannel$Part" "bytes" "[B" .null := D2 (Or.inr (hw _ (List.mem_of_getElem? (i := 91) rfl))) (ty := (.array .byte)) (by decide)
    have F_size_b2 : Fld Z h2 b2 "com/example/verity/verity/SplicedChannel$Part" "size" "J" (.long (0 : Int64)) := D2 (Or.inr (hw _ (List.mem_of_getElem? (i := 93) rfl))) (ty := .long) (by decide)
    refine own_go (U' := T2.setTop (mkF m 12 #[.val (.ref a), .val (.ref b)] [(.ref b2), (.ref y)])) st2 ?_
    refine own_go (U' := T2.setTop (mkF m 13 #[.val (.ref a), .val (.ref b)] [(.ref b2), (.ref b2), (.ref y)])) (fun t k => XS.dup X2.here hx rfl (hb hby dap_12) rfl rfl k) ?_
    refine own_go (U' := T2.setTop (mkF m 14 #[.val (.ref a), .val (.ref b)] [(.ref a), (.ref b2), (.ref b2), (.ref y)])) (fun t k => XS.aloadN X2.here hx rfl (hb hby dap_13) rfl rfl k) ?_
    obtain ⟨T3, X3, e3, st3⟩ := getF X2 hx hZ hown (host := "") (Or.inl (hw _ (List.mem_of_getElem? (i := 43) rfl))) Via.refl e2 F_size_a (g := (mkF m 14 #[.val (.ref a), .val (.ref b)] [(.ref a), (.ref b2), (.ref b2), (.ref y)])) rfl rfl (hb hby dap_14)
    refine own_go (U' := T3.setTop (mkF m 17 #[.val (.ref a), .val (.ref b)] [(.long (0 : Int64)), (.ref b2), (.ref b2), (.ref y)])) st3 ?_
    refine own_go (U' := T3.setTop (mkF m 18 #[.val (.ref a), .val (.ref b)] [.null, (.long (0 : Int64)), (.ref b2), (.ref b2), (.ref y)])) (fun t k => XS.aconstNull X3.here hx rfl (hb hby dap_17) k) ?_
    refine own_go (U' := T3.setTop (mkF m 19 #[.val (.ref a), .val (.ref b)] [(.long (0 : Int64)), .null, (.long (0 : Int64)), (.ref b2), (.ref b2), (.ref y)])) (fun t k => XS.lconst X3.here hx rfl (hb hby dap_18) k) ?_
    refine own_go (U' := T3.setTop (mkF m 20 #[.val (.ref a), .val (.ref b)] [(.ref b), (.long (0 : Int64)), .null, (.long (0 : Int64)), (.ref b2), (.ref b2), (.ref y)])) (fun t k => XS.aloadN X3.here hx rfl (hb hby dap_19) rfl rfl k) ?_
    refine own_go (U' := T3.setTop (mkF m 21 #[.val (.ref a), .val (.ref b)] [(.ref b), (.ref b), (.long (0 : Int64)), .null, (.long (0 : Int64)), (.ref b2), (.ref b2), (.ref y)])) (fun t k => XS.aloadN X3.here hx rfl (hb hby dap_20) rfl rfl k) ?_
    refine own_go (U' := T3.setTop (mkF m 22 #[.val (.ref a), .val (.ref b)] [(.int len), (.ref b), (.long (0 : Int64)), .null, (.long (0 : Int64)), (.ref b2), (.ref b2), (.ref y)])) (own_arrlen X3 hx hZ e3 V_b (n := len) hl (g := (mkF m 21 #[.val (.ref a), .val (.ref b)] [(.ref b), (.ref b), (.long (0 : Int64)), .null, (.long (0 : Int64)), (.ref b2), (.ref b2), (.ref y)])) rfl rfl (hb hby dap_21)) ?_
    refine own_go (U' := T3.setTop (mkF m 23 #[.val (.ref a), .val (.ref b)] [(.long (len.toInt64)), (.ref b), (.long (0 : Int64)), .null, (.long (0 : Int64)), (.ref b2), (.ref b2), (.ref y)])) (fun t k => XS.i2l X3.here hx rfl (hb hby dap_22) rfl k) ?_
    obtain ⟨v4, T4, h4, L4, e4, X4, hQ4, st4⟩ := own_callR X3 hx hZ (y := (⟨"com/example/verity/verity/SplicedChannel$Part", "<init>", "(JLjava/nio/channels/SeekableByteChannel;J[BJ)V"⟩ : MethodName)) rfl hown (hw _ (List.mem_of_getElem? (i := 75) rfl)) (hw _ (List.mem_of_getElem? (i := 76) rfl)) (hw _ (List.mem_of_getElem? (i := 74) rfl)) (hw _ (List.mem_of_getElem? (i := 77) rfl)) (by decide) (a := b2) (own_rmpi l Z a0 hw b2 0 0 b len.toInt64 h2 n0 g_b2 _ _ _ _ _ E_b2 F_start_b2 F_file_b2 F_filePosition_b2 F_bytes_b2 F_size_b2) (W := 2) (by decide) (by decide) (g := (mkF m 23 #[.val (.ref a), .val (.ref b)] [(.long (len.toInt64)), (.ref b), (.long (0 : Int64)), .null, (.long (0 : Int64)), (.ref b2), (.ref b2), (.ref y)])) rfl (by rw [hml]; rfl) (argsL := [(.long (0 : Int64)), .null, (.long (0 : Int64)), (.ref b), (.long (len.toInt64))]) (rest := [(.ref b2), (.ref y)]) (lenOf own_pd5 rfl) rfl rfl (by show 2 * 0 + _ ≤ _; exact Nat.le_of_eq rfl) (hb hby dap_23) e3 (by decide) (by decide)
    obtain ⟨rfl, Nq, Kq⟩ := hQ4
    have K := K.trans Kq (allS (Or.inr sz_b2) all0)
    have O := O.keep Kq (allS g_b2 all0)
    have E_a := E_a.keep Kq
    have F_parts_a := F_parts_a.keep Kq (ninS ne_a_b2 nin0)
    have F_open_a := F_open_a.keep Kq (ninS ne_a_b2 nin0)
    have F_size_a := F_size_a.keep Kq (ninS ne_a_b2 nin0)
    have F_position_a := F_position_a.keep Kq (ninS ne_a_b2 nin0)
    have E_y := E_y.keep Kq
    have F_modCount_y := F_modCount_y.keep Kq (ninS ne_y_b2 nin0)
    have F_elementData_y := F_elementData_y.keep Kq (ninS ne_y_b2 nin0)
    have F_size_y := F_size_y.keep Kq (ninS ne_y_b2 nin0)
    have V_b := V_b.keep Kq (ninS ne_b_b2 nin0)
    have E_b2 := E_b2.keep Kq
    have N4 := Fr.app N0 Nq
    refine own_go (U' := T4.setTop (mkF m 26 #[.val (.ref a), .val (.ref b)] [(.ref b2), (.ref y)])) st4 ?_
    obtain ⟨v5, T5, h5, L5, e5, X5, hQ5, st5⟩ := own_callI X4 hx hZ (y := (⟨"java/util/List", "add", "(Ljava/lang/Object;)Z"⟩ : MethodName)) (z := (⟨"java/util/ArrayList", "add", "(Ljava/lang/Object;)Z"⟩ : MethodName)) hown (hw _ (List.mem_of_getElem? (i := 94) rfl)) (hw _ (List.mem_of_getElem? (i := 95) rfl)) (mvT hZ (hw _ (List.mem_of_getElem? (i := 96) rfl))) (hw _ (List.mem_of_getElem? (i := 97) rfl)) (hw _ (List.mem_of_getElem? (i := 98) rfl)) (hw _ (List.mem_of_getElem? (i := 99) rfl)) (hw _ (List.mem_of_getElem? (i := 100) rfl)) (hw _ (List.mem_of_getElem? (i := 101) rfl)) (hw _ (List.mem_of_getElem? (i := 11) rfl)) (hw _ (List.mem_of_getElem? (i := 102) rfl)) (by decide) E_y (own_rma1 l Z a0 hw y b2 h4 n0 g_y 0 dd cdd O S_dd A_dd hcdd E_y F_modCount_y F_elementData_y F_size_y E_b2) (W := 0) (by decide) (by decide) (g := (mkF m 26 #[.val (.ref a), .val (.ref b)] [(.ref b2), (.ref y)])) rfl (by rw [hml]; rfl) (argsL := [(.ref b2)]) (rest := []) (lenOf own_pd10 rfl) rfl rfl (by show 2 * 0 + _ ≤ _; exact Nat.le_of_eq rfl) (hb hby dap_26) e4 (by decide) (by decide)
    obtain ⟨rfl, Nq, Kq, xa, ka, Fm, Fe, Fs, Va⟩ := hQ5
    have K := K.trans Kq (allS (Or.inl (List.mem_of_getElem? (i := 1) rfl)) all0)
    have O := O.keep Kq (allS g_y all0)
    have E_a := E_a.keep Kq
    have F_parts_a := F_parts_a.keep Kq (ninS ne_a_y nin0)
    have F_open_a := F_open_a.keep Kq (ninS ne_a_y nin0)
    have F_size_a := F_size_a.keep Kq (ninS ne_a_y nin0)
    have F_position_a := F_position_a.keep Kq (ninS ne_a_y nin0)
    have E_y := E_y.keep Kq
    have V_b := V_b.keep Kq (ninS (Ne.symm ne_y_b) nin0)
    have E_b2 := E_b2.keep Kq
    have N5 := Fr.app N4 Nq
    refine own_go (U' := T5.setTop (mkF m 31 #[.val (.ref a), .val (.ref b)] [(.int (1 : Int32))])) st5 ?_
    refine own_go (U' := T5.setTop (mkF m 32 #[.val (.ref a), .val (.ref b)] [])) (fun t k => XS.pop X5.here hx rfl (hb hby dap_31) rfl rfl k) ?_
    refine own_go (U' := T5.setTop (mkF m 33 #[.val (.ref a), .val (.ref b)] [(.ref a)])) (fun t k => XS.aloadN X5.here hx rfl (hb hby dap_32) rfl rfl k) ?_
    refine own_go (U' := T5.setTop (mkF m 34 #[.val (.ref a), .val (.ref b)] [(.ref a), (.ref a)])) (fun t k => XS.dup X5.here hx rfl (hb hby dap_33) rfl rfl k) ?_
    obtain ⟨T6, X6, e6, st6⟩ := getF X5 hx hZ hown (host := "") (Or.inl (hw _ (List.mem_of_getElem? (i := 43) rfl))) Via.refl e5 F_size_a (g := (mkF m 34 #[.val (.ref a), .val (.ref b)] [(.ref a), (.ref a)])) rfl rfl (hb hby dap_34)
    refine own_go (U' := T6.setTop (mkF m 37 #[.val (.ref a), .val (.ref b)] [(.long (0 : Int64)), (.ref a)])) st6 ?_
    refine own_go (U' := T6.setTop (mkF m 38 #[.val (.ref a), .val (.ref b)] [(.ref b), (.long (0 : Int64)), (.ref a)])) (fun t k => XS.aloadN X6.here hx rfl (hb hby dap_37) rfl rfl k) ?_
    refine own_go (U' := T6.setTop (mkF m 39 #[.val (.ref a), .val (.ref b)] [(.int len), (.long (0 : Int64)), (.ref a)])) (own_arrlen X6 hx hZ e6 V_b (n := len) hl (g := (mkF m 38 #[.val (.ref a), .val (.ref b)] [(.ref b), (.long (0 : Int64)), (.ref a)])) rfl rfl (hb hby dap_38)) ?_
    refine own_go (U' := T6.setTop (mkF m 40 #[.val (.ref a), .val (.ref b)] [(.long (len.toInt64)), (.long (0 : Int64)), (.ref a)])) (fun t k => XS.i2l X6.here hx rfl (hb hby dap_39) rfl k) ?_
    refine own_go (U' := T6.setTop (mkF m 41 #[.val (.ref a), .val (.ref b)] [(.long ((0 : Int64) + (len.toInt64))), (.ref a)])) (fun t k => XS.ladd X6.here hx rfl (hb hby dap_40) rfl k) ?_
    obtain ⟨T7, h7, X7, e7, W7, st7⟩ := putF X6 hx hZ hown (host := "") (Or.inl (hw _ (List.mem_of_getElem? (i := 43) rfl))) Via.refl e6 F_size_a E_a (Or.inl (hw _ (List.mem_of_getElem? (i := 44) rfl))) (hw _ (List.mem_of_getElem? (i := 1) rfl)) (ty := .long) (by decide) rfl rfl (g := (mkF m 41 #[.val (.ref a), .val (.ref b)] [(.long ((0 : Int64) + (len.toInt64))), (.ref a)])) rfl rfl (hb hby dap_41)
    have K := K.wr W7 (Or.inl (List.mem_of_getElem? (i := 0) rfl))
    have O := O.wr W7 g_a
    have E_a := E_a.wr W7
    have F_parts_a := F_parts_a.other W7 (Or.inr (slot_ne (Or.inr (hw _ (List.mem_of_getElem? (i := 34) rfl))) (Or.inl (hw _ (List.mem_of_getElem? (i := 44) rfl))) (by decide) (t := (.object "java/util/List")) (t' := .long) (by decide) (by decide)))
    have F_open_a := F_open_a.other W7 (Or.inr (slot_ne (Or.inl (hw _ (List.mem_of_getElem? (i := 36) rfl))) (Or.inl (hw _ (List.mem_of_getElem? (i := 44) rfl))) (by decide) (t := .boolean) (t' := .long) (by decide) (by decide)))
    have F_position_a := F_position_a.other W7 (Or.inr (slot_ne (Or.inl (hw _ (List.mem_of_getElem? (i := 56) rfl))) (Or.inl (hw _ (List.mem_of_getElem? (i := 44) rfl))) (by decide) (t := .long) (t' := .long) (by decide) (by decide)))
    have E_y := E_y.wr W7
    have V_b := V_b.other W7 (Ne.symm ne_a_b)
    have F_size_a := F_size_a.same W7
    have N7 := Fr.snoc X7 N5 g_a
    refine own_go (U' := T7.setTop (mkF m 44 #[.val (.ref a), .val (.ref b)] [])) st7 ?_
    rw [Int64.zero_add] at F_size_a
    refine own_retV X7 hx hret hlk (hb hby dap_44) ?_ (by decide) (by decide)
    rw [e7]
    exact ⟨rfl, N7, K, F_parts_a, F_open_a, F_size_a, F_position_a⟩
  · refine own_go (U' := s₁.setTop (mkF m 32 #[.val (.ref a), .val (.ref b)] [])) (fun t k => XS.ifYes X0.here hx rfl (pc0 := 2) (pc' := 32) rfl (hb hby dap_2) rfl ((if0 _ _).trans (flt hp).2.2.2) (by decide) (by decide) k) ?_
    refine own_go (U' := s₁.setTop (mkF m 33 #[.val (.ref a), .val (.ref b)] [(.ref a)])) (fun t k => XS.aloadN X0.here hx rfl (hb hby dap_32) rfl rfl k) ?_
    refine own_go (U' := s₁.setTop (mkF m 34 #[.val (.ref a), .val (.ref b)] [(.ref a), (.ref a)])) (fun t k => XS.dup X0.here hx rfl (hb hby dap_33) rfl rfl k) ?_
    obtain ⟨T8, X8, e8, st8⟩ := getF X0 hx hZ hown (host := "") (Or.inl (hw _ (List.mem_of_getElem? (i := 43) rfl))) Via.refl e0 F_size_a (g := (mkF m 34 #[.val (.ref a), .val (.ref b)] [(.ref a), (.ref a)])) rfl rfl (hb hby dap_34)
    refine own_go (U' := T8.setTop (mkF m 37 #[.val (.ref a), .val (.ref b)] [(.long (0 : Int64)), (.ref a)])) st8 ?_
    refine own_go (U' := T8.setTop (mkF m 38 #[.val (.ref a), .val (.ref b)] [(.ref b), (.long (0 : Int64)), (.ref a)])) (fun t k => XS.aloadN X8.here hx rfl (hb hby dap_37) rfl rfl k) ?_
    refine own_go (U' := T8.setTop (mkF m 39 #[.val (.ref a), .val (.ref b)] [(.int len), (.long (0 : Int64)), (.ref a)])) (own_arrlen X8 hx hZ e8 V_b (n := len) hl (g := (mkF m 38 #[.val (.ref a), .val (.ref b)] [(.ref b), (.long (0 : Int64)), (.ref a)])) rfl rfl (hb hby dap_38)) ?_
    refine own_go (U' := T8.setTop (mkF m 40 #[.val (.ref a), .val (.ref b)] [(.long (len.toInt64)), (.long (0 : Int64)), (.ref a)])) (fun t k => XS.i2l X8.here hx rfl (hb hby dap_39) rfl k) ?_
    refine own_go (U' := T8.setTop (mkF m 41 #[.val (.ref a), .val (.ref b)] [(.long ((0 : Int64) + (len.toInt64))), (.ref a)])) (fun t k => XS.ladd X8.here hx rfl (hb hby dap_40) rfl k) ?_
    obtain ⟨T9, h9, X9, e9, W9, st9⟩ := putF X8 hx hZ hown (host := "") (Or.inl (hw _ (List.mem_of_getElem? (i := 43) rfl))) Via.refl e8 F_size_a E_a (Or.inl (hw _ (List.mem_of_getElem? (i := 44) rfl))) (hw _ (List.mem_of_getElem? (i := 1) rfl)) (ty := .long) (by decide) rfl rfl (g := (mkF m 41 #[.val (.ref a), .val (.ref b)] [(.long ((0 : Int64) + (len.toInt64))), (.ref a)])) rfl rfl (hb hby dap_41)
    have K := K.wr W9 (Or.inl (List.mem_of_getElem? (i := 0) rfl))
    have O := O.wr W9 g_a
    have E_a := E_a.wr W9
    have F_parts_a := F_parts_a.other W9 (Or.inr (slot_ne (Or.inr (hw _ (List.mem_of_getElem? (i := 34) rfl))) (Or.inl (hw _ (List.mem_of_getElem? (i := 44) rfl))) (by decide) (t := (.object "java/util/List")) (t' := .long) (by decide) (by decide)))
    have F_open_a := F_open_a.other W9 (Or.inr (slot_ne (Or.inl (hw _ (List.mem_of_getElem? (i := 36) rfl))) (Or.inl (hw _ (List.mem_of_getElem? (i := 44) rfl))) (by decide) (t := .boolean) (t' := .long) (by decide) (by decide)))
    have F_position_a := F_position_a.other W9 (Or.inr (slot_ne (Or.inl (hw _ (List.mem_of_getElem? (i := 56) rfl))) (Or.inl (hw _ (List.mem_of_getElem? (i := 44) rfl))) (by decide) (t := .long) (t' := .long) (by decide) (by decide)))
    have E_y := E_y.wr W9
    have F_modCount_y := F_modCount_y.other W9 (Or.inl (Ne.symm ne_a_y))
    have F_elementData_y := F_elementData_y.other W9 (Or.inl (Ne.symm ne_a_y))
    have F_size_y := F_size_y.other W9 (Or.inl (Ne.symm ne_a_y))
    have V_b := V_b.other W9 (Ne.symm ne_a_b)
    have F_size_a := F_size_a.same W9
    have N9 := Fr.snoc X9 N0 g_a
    refine own_go (U' := T9.setTop (mkF m 44 #[.val (.ref a), .val (.ref b)] [])) st9 ?_
    rw [Int64.zero_add] at F_size_a
    refine own_retV X9 hx hret hlk (hb hby dap_44) ?_ (by decide) (by decide)
    rw [e9]
    exact ⟨rfl, N9, K, F_parts_a, F_open_a, F_size_a, F_position_a⟩
theorem dco_0 : decode prog_48_method_14_code 0 = .ok (.aload_n 0, 1) := by decide +kernel
theorem dco_1 : decode prog_48_method_14_code 1 = .ok (.getfield 16, 3) := by decide +kernel
theorem dco_4 : decode prog_48_method_14_code 4 = .ok (.ifCond .ne 11, 3) := by decide +kernel
theorem dco_7 : decode prog_48_method_14_code 7 = .ok (.new 119, 3) := by decide +kernel
theorem dco_10 : decode prog_48_method_14_code 10 = .ok (.dup, 1) := by decide +kernel
theorem dco_11 : decode prog_48_method_14_code 11 = .ok (.invokespecial 121, 3) := by decide +kernel
theorem dco_14 : decode prog_48_method_14_code 14 = .ok (.athrow, 1) := by decide +kernel
theorem dco_15 : decode prog_48_method_14_code 15 = .ok (.return_, 1) := by decide +kernel
theorem own_efco (m : MethodId) (a : Addr) : entryFrame m #[(.ref a)] 1 = mkF m 0 #[.val (.ref a)] [] := by first | (simp [entryFrame, mkF, argsToLocals, Value.category]; done) | rfl
set_option maxRecDepth 65536 in
set_option maxHeartbeats 40000000 in
theorem own_rmco (l : Launch) (Z : State) (a0 : Array Value) (hw : ∀ d ∈ tables_1, d.before a0 Z = true) (a : Addr) (h0 : Heap) (F_open_a : Fld Z h0 a "com/example/verity/verity/SplicedChannel" "open" "Z" (.int 1)) :
    own_C l Z (⟨"com/example/verity/verity/SplicedChannel", "checkOpen", "()V"⟩ : MethodName) prog_48_method_14_code 1 none [] ({ frames := 0, cells := 0, slots := 0, locals := 0 } : Room) #[(.ref a)] h0 (fun v h L => v = none ∧ L = [] ∧ h = h0) := by
  refine own_body (plainFor_of_name own_pn4) fun p e s m below meth c s₁ hx hby hml hret hlk hown hnm hZ X0 e0 => ?_
  rw [own_efco m a]
  refine own_go (U' := s₁.setTop (mkF m 1 #[.val (.ref a)] [(.ref a)])) (fun t k => XS.aloadN X0.here hx rfl (hb hby dco_0) rfl rfl k) ?_
  obtain ⟨T1, X1, e1, st1⟩ := getF X0 hx hZ hown (host := "") (Or.inl (hw _ (List.mem_of_getElem? (i := 35) rfl))) Via.refl e0 F_open_a (g := (mkF m 1 #[.val (.ref a)] [(.ref a)])) rfl rfl (hb hby dco_1)
  refine own_go (U' := T1.setTop (mkF m 4 #[.val (.ref a)] [(.int (1 : Int32))])) st1 ?_
  refine own_go (U' := T1.setTop (mkF m 15 #[.val (.ref a)] [])) (fun t k => XS.ifYes X1.here hx rfl (pc0 := 4) (pc' := 15) rfl (hb hby dco_4) rfl ((if0 _ _).trans (feq (by decide)).2) (by decide) (by decide) k) ?_
  refine own_retV X1 hx hret hlk (hb hby dco_15) ?_ (by decide) (by decide)
  exact ⟨rfl, rfl, e1⟩
theorem dps_0 : decode prog_48_method_9_code 0 = .ok (.aload_n 0, 1) := by decide +kernel
theorem dps_1 : decode prog_48_method_9_code 1 = .ok (.invokevirtual 63, 3) := by decide +kernel
theorem dps_4 : decode prog_48_method_9_code 4 = .ok (.lload_n 1, 1) := by decide +kernel
theorem dps_5 : decode prog_48_method_9_code 5 = .ok (.lconst 0, 1) := by decide +kernel
theorem dps_6 : decode prog_48_method_9_code 6 = .ok (.lcmp, 1) := by decide +kernel
theorem dps_7 : decode prog_48_method_9_code 7 = .ok (.ifCond .ge 17, 3) := by decide +kernel
theorem dps_10 : decode prog_48_method_9_code 10 = .ok (.new 110, 3) := by decide +kernel
theorem dps_13 : decode prog_48_method_9_code 13 = .ok (.dup, 1) := by decide +kernel
theorem dps_14 : decode prog_48_method_9_code 14 = .ok (.lload_n 1, 1) := by decide +kernel
theorem dps_20 : decode prog_48_method_9_code 20 = .ok (.invokespecial 116, 3) := by decide +kernel
theorem dps_23 : decode prog_48_method_9_code 23 = .ok (.athrow, 1) := by decide +kernel
theorem dps_24 : decode prog_48_method_9_code 24 = .ok (.aload_n 0, 1) := by decide +kernel
theorem dps_25 : decode prog_48_method_9_code 25 = .ok (.lload_n 1, 1) := by decide +kernel
theorem dps_26 : decode prog_48_method_9_code 26 = .ok (.putfield 66, 3) := by decide +kernel
theorem dps_29 : decode prog_48_method_9_code 29 = .ok (.aload_n 0, 1) := by decide +kernel
theorem dps_30 : decode prog_48_method_9_code 30 = .ok (.areturn, 1) := by decide +kernel
theorem own_efps (m : MethodId) (a : Addr) (q1 : Int64) : entryFrame m #[(.ref a), (.long q1)] 3 = mkF m 0 #[.val (.ref a), .val (.long q1), .second] [] := by first | (simp [entryFrame, mkF, argsToLocals, Value.category]; done) | rfl
set_option maxRecDepth 65536 in
set_option maxHeartbeats 40000000 in
theorem own_rmps (l : Launch) (Z : State) (a0 : Array Value) (hw : ∀ d ∈ tables_1, d.before a0 Z = true) (a : Addr) (q1 : Int64) (h0 : Heap) (n0 : Nat) (g_a : n0 ≤ a) (y : Addr) (z q : Int64) (hq : ¬ q1 < 0) (E_a : Exa Z h0 a "com/example/verity/verity/SplicedChannel") (F_parts_a : Fld Z h0 a "com/example/verity/verity/SplicedChannel" "parts" "Ljava/util/List;" (.ref y)) (F_open_a : Fld Z h0 a "com/example/verity/verity/SplicedChannel" "open" "Z" (.int 1)) (F_size_a : Fld Z h0 a "com/example/verity/verity/SplicedChannel" "size" "J" (.long z)) (F_position_a : Fld Z h0 a "com/example/verity/verity/SplicedChannel" "position" "J" (.long q)) :
    own_C l Z (⟨"com/example/verity/verity/SplicedChannel", "position", "(J)Ljava/nio/channels/SeekableByteChannel;"⟩ : MethodName) prog_48_method_9_code 3 (some (.object "java/nio/channels/SeekableByteChannel")) [] ({ frames := 1, cells := 0, slots := 0, locals := 12 } : Room) #[(.ref a), (.long q1)] h0 (fun v h L => v = some (.ref a) ∧ Fr n0 L ∧ Keep h0 h [a] ∧ Fld Z h a "com/example/verity/verity/SplicedChannel" "parts" "Ljava/util/List;" (.ref y) ∧ Fld Z h a "com/example/verity/verity/SplicedChannel" "open" "Z" (.int 1) ∧ Fld Z h a "com/example/verity/verity/SplicedChannel" "size" "J" (.long z) ∧ Fld Z h a "com/example/verity/verity/SplicedChannel" "position" "J" (.long q1)) := by
  refine own_body (plainFor_of_name own_pn4) fun p e s m below meth c s₁ hx hby hml hret hlk hown hnm hZ X0 e0 => ?_
  rw [own_efps m a q1]
  have N0 := Fr.nil n0
  have K := Keep.refl h0 [a]
  refine own_go (U' := s₁.setTop (mkF m 1 #[.val (.ref a), .val (.long q1), .second] [(.ref a)])) (fun t k => XS.aloadN X0.here hx rfl (hb hby dps_0) rfl rfl k) ?_
  obtain ⟨v1, T1, h1, L1, e1, X1, hQ1, st1⟩ := own_callP X0 hx hZ (y := (⟨"com/example/verity/verity/SplicedChannel", "checkOpen", "()V"⟩ : MethodName)) hown (hw _ (List.mem_of_getElem? (i := 51) rfl)) (hw _ (List.mem_of_getElem? (i := 52) rfl)) (own_selP (y0 := (⟨"com/example/verity/verity/SplicedChannel", "append", "([B)V"⟩ : MethodName)) (hw _ (List.mem_of_getElem? (i := 41) rfl)) rfl (hw _ (List.mem_of_getElem? (i := 53) rfl)) (hw _ (List.mem_of_getElem? (i := 52) rfl)) (by decide)) (hw _ (List.mem_of_getElem? (i := 53) rfl)) (hw _ (List.mem_of_getElem? (i := 2) rfl)) (hw _ (List.mem_of_getElem? (i := 54) rfl)) (by decide) E_a (own_rmco l Z a0 hw a h0 F_open_a) (W := 0) (by decide) (by decide) (g := (mkF m 1 #[.val (.ref a), .val (.long q1), .second] [(.ref a)])) rfl (by rw [hml]; rfl) (argsL := []) (rest := []) (lenOf own_pd0 rfl) rfl rfl (by show 2 * 0 + _ ≤ _; exact Nat.le_of_eq rfl) (hb hby dps_1) e0 (by decide) (by decide)
  obtain ⟨rfl, rfl, eh1⟩ := hQ1
  have e1 := e1.trans eh1
  rw [List.append_nil] at X1
  refine own_go (U' := T1.setTop (mkF m 4 #[.val (.ref a), .val (.long q1), .second] [])) st1 ?_
  refine own_go (U' := T1.setTop (mkF m 5 #[.val (.ref a), .val (.long q1), .second] [(.long q1)])) (fun t k => XS.lloadN X1.here hx rfl (hb hby dps_4) rfl k) ?_
  refine own_go (U' := T1.setTop (mkF m 6 #[.val (.ref a), .val (.long q1), .second] [(.long (0 : Int64)), (.long q1)])) (fun t k => XS.lconst X1.here hx rfl (hb hby dps_5) k) ?_
  refine own_go (U' := T1.setTop (mkF m 7 #[.val (.ref a), .val (.long q1), .second] [(.int (lcmpW q1 (0 : Int64)))])) (fun t k => XS.lcmp X1.here hx rfl (hb hby dps_6) rfl k) ?_
  refine own_go (U' := T1.setTop (mkF m 24 #[.val (.ref a), .val (.long q1), .second] [])) (fun t k => XS.ifYes X1.here hx rfl (pc0 := 7) (pc' := 24) rfl (hb hby dps_7) rfl ((if0 _ _).trans (flt (fun q => hq ((lw_lt q1 (0 : Int64)).mp q))).2.1) (by decide) (by decide) k) ?_
  refine own_go (U' := T1.setTop (mkF m 25 #[.val (.ref a), .val (.long q1), .second] [(.ref a)])) (fun t k => XS.aloadN X1.here hx rfl (hb hby dps_24) rfl rfl k) ?_
  refine own_go (U' := T1.setTop (mkF m 26 #[.val (.ref a), .val (.long q1), .second] [(.long q1), (.ref a)])) (fun t k => XS.lloadN X1.here hx rfl (hb hby dps_25) rfl k) ?_
  obtain ⟨T2, h2, X2, e2, W2, st2⟩ := putF X1 hx hZ hown (host := "") (Or.inl (hw _ (List.mem_of_getElem? (i := 55) rfl))) Via.refl e1 F_position_a E_a (Or.inl (hw _ (List.mem_of_getElem? (i := 56) rfl))) (hw _ (List.mem_of_getElem? (i := 1) rfl)) (ty := .long) (by decide) rfl rfl (g := (mkF m 26 #[.val (.ref a), .val (.long q1), .second] [(.long q1), (.ref a)])) rfl rfl (hb hby dps_26)
  have K := K.wr W2 (Or.inl (List.mem_of_getElem? (i := 0) rfl))
  have E_a := E_a.wr W2
  have F_parts_a := F_parts_a.other W2 (Or.inr (slot_ne (Or.inr (hw _ (List.mem_of_getElem? (i := 34) rfl))) (Or.inl (hw _ (List.mem_of_getElem? (i := 56) rfl))) (by decide) (t := (.object "java/util/List")) (t' := .long) (by decide) (by decide)))
  have F_open_a := F_open_a.other W2 (Or.inr (slot_ne (Or.inl (hw _ (List.mem_of_getElem? (i := 36) rfl))) (Or.inl (hw _ (List.mem_of_getElem? (i := 56) rfl))) (by decide) (t := .boolean) (t' := .long) (by decide) (by decide)))
  have F_size_a := F_size_a.other W2 (Or.inr (slot_ne (Or.inl (hw _ (List.mem_of_getElem? (i := 44) rfl))) (Or.inl (hw _ (List.mem_of_getElem? (i := 56) rfl))) (by decide) (t := .long) (t' := .long) (by decide) (by decide)))
  have F_position_a := F_position_a.same W2
  have N2 := Fr.snoc X2 N0 g_a
  refine own_go (U' := T2.setTop (mkF m 29 #[.val (.ref a), .val (.long q1), .second] [])) st2 ?_
  refine own_go (U' := T2.setTop (mkF m 30 #[.val (.ref a), .val (.long q1), .second] [(.ref a)])) (fun t k => XS.aloadN X2.here hx rfl (hb hby dps_29) rfl rfl k) ?_
  refine own_retA X2 hx (t := (.object "java/nio/channels/SeekableByteChannel")) hret rfl hlk rfl (hb hby dps_30) ?_ (by decide) (by decide)
  rw [e2]
  exact ⟨rfl, N2, K, F_parts_a, F_open_a, F_size_a, F_position_a⟩
theorem dpg_0 : decode prog_48_method_8_code 0 = .ok (.aload_n 0, 1) := by decide +kernel
theorem dpg_1 : decode prog_48_method_8_code 1 = .ok (.invokevirtual 63, 3) := by decide +kernel
theorem dpg_4 : decode prog_48_method_8_code 4 = .ok (.aload_n 0, 1) := by decide +kernel
theorem dpg_5 : decode prog_48_method_8_code 5 = .ok (.getfield 66, 3) := by decide +kernel
theorem dpg_8 : decode prog_48_method_8_code 8 = .ok (.lreturn, 1) := by decide +kernel
theorem own_efpg (m : MethodId) (a : Addr) : entryFrame m #[(.ref a)] 1 = mkF m 0 #[.val (.ref a)] [] := by first | (simp [entryFrame, mkF, argsToLocals, Value.category]; done) | rfl
set_option maxRecDepth 65536 in
set_option maxHeartbeats 40000000 in
theorem own_rmpg (l : Launch) (Z : State) (a0 : Array Value) (hw : ∀ d ∈ tables_1, d.before a0 Z = true) (a : Addr) (h0 : Heap) (y : Addr) (z q : Int64) (E_a : Exa Z h0 a "com/example/verity/verity/SplicedChannel") (F_parts_a : Fld Z h0 a "com/example/verity/verity/SplicedChannel" "parts" "Ljava/util/List;" (.ref y)) (F_open_a : Fld Z h0 a "com/example/verity/verity/SplicedChannel" "open" "Z" (.int 1)) (F_size_a : Fld Z h0 a "com/example/verity/verity/SplicedChannel" "size" "J" (.long z)) (F_position_a : Fld Z h0 a "com/example/verity/verity/SplicedChannel" "position" "J" (.long q)) :
    own_C l Z (⟨"com/example/verity/verity/SplicedChannel", "position", "()J"⟩ : MethodName) prog_48_method_8_code 1 (some .long) [] ({ frames := 1, cells := 0, slots := 0, locals := 12 } : Room) #[(.ref a)] h0 (fun v h L => v = some (.long q) ∧ L = [] ∧ h = h0) := by
  refine own_body (plainFor_of_name own_pn4) fun p e s m below meth c s₁ hx hby hml hret hlk hown hnm hZ X0 e0 => ?_
  rw [own_efpg m a]
  refine own_go (U' := s₁.setTop (mkF m 1 #[.val (.ref a)] [(.ref a)])) (fun t k => XS.aloadN X0.here hx rfl (hb hby dpg_0) rfl rfl k) ?_
  obtain ⟨v1, T1, h1, L1, e1, X1, hQ1, st1⟩ := own_callP X0 hx hZ (y := (⟨"com/example/verity/verity/SplicedChannel", "checkOpen", "()V"⟩ : MethodName)) hown (hw _ (List.mem_of_getElem? (i := 51) rfl)) (hw _ (List.mem_of_getElem? (i := 52) rfl)) (own_selP (y0 := (⟨"com/example/verity/verity/SplicedChannel", "append", "([B)V"⟩ : MethodName)) (hw _ (List.mem_of_getElem? (i := 41) rfl)) rfl (hw _ (List.mem_of_getElem? (i := 53) rfl)) (hw _ (List.mem_of_getElem? (i := 52) rfl)) (by decide)) (hw _ (List.mem_of_getElem? (i := 53) rfl)) (hw _ (List.mem_of_getElem? (i := 2) rfl)) (hw _ (List.mem_of_getElem? (i := 54) rfl)) (by decide) E_a (own_rmco l Z a0 hw a h0 F_open_a) (W := 0) (by decide) (by decide) (g := (mkF m 1 #[.val (.ref a)] [(.ref a)])) rfl (by rw [hml]; rfl) (argsL := []) (rest := []) (lenOf own_pd0 rfl) rfl rfl (by show 2 * 0 + _ ≤ _; exact Nat.le_of_eq rfl) (hb hby dpg_1) e0 (by decide) (by decide)
  obtain ⟨rfl, rfl, eh1⟩ := hQ1
  have e1 := e1.trans eh1
  rw [List.append_nil] at X1
  refine own_go (U' := T1.setTop (mkF m 4 #[.val (.ref a)] [])) st1 ?_
  refine own_go (U' := T1.setTop (mkF m 5 #[.val (.ref a)] [(.ref a)])) (fun t k => XS.aloadN X1.here hx rfl (hb hby dpg_4) rfl rfl k) ?_
  obtain ⟨T2, X2, e2, st2⟩ := getF X1 hx hZ hown (host := "") (Or.inl (hw _ (List.mem_of_getElem? (i := 55) rfl))) Via.refl e1 F_position_a (g := (mkF m 5 #[.val (.ref a)] [(.ref a)])) rfl rfl (hb hby dpg_5)
  refine own_go (U' := T2.setTop (mkF m 8 #[.val (.ref a)] [(.long q)])) st2 ?_
  refine own_retL X2 hx hret hlk (hb hby dpg_8) ?_ (by decide) (by decide)
  exact ⟨rfl, rfl, e2⟩
theorem dsg_0 : decode prog_48_method_10_code 0 = .ok (.aload_n 0, 1) := by decide +kernel
theorem dsg_1 : decode prog_48_method_10_code 1 = .ok (.invokevirtual 63, 3) := by decide +kernel
theorem dsg_4 : decode prog_48_method_10_code 4 = .ok (.aload_n 0, 1) := by decide +kernel
theorem dsg_5 : decode prog_48_method_10_code 5 = .ok (.getfield 56, 3) := by decide +kernel
theorem dsg_8 : decode prog_48_method_10_code 8 = .ok (.lreturn, 1) := by decide +kernel
theorem own_efsg (m : MethodId) (a : Addr) : entryFrame m #[(.ref a)] 1 = mkF m 0 #[.val (.ref a)] [] := by first | (simp [entryFrame, mkF, argsToLocals, Value.category]; done) | rfl
set_option maxRecDepth 65536 in
set_option maxHeartbeats 40000000 in
theorem own_rmsg (l : Launch) (Z : State) (a0 : Array Value) (hw : ∀ d ∈ tables_1, d.before a0 Z = true) (a : Addr) (h0 : Heap) (y : Addr) (z q : Int64) (E_a : Exa Z h0 a "com/example/verity/verity/SplicedChannel") (F_parts_a : Fld Z h0 a "com/example/verity/verity/SplicedChannel" "parts" "Ljava/util/List;" (.ref y)) (F_open_a : Fld Z h0 a "com/example/verity/verity/SplicedChannel" "open" "Z" (.int 1)) (F_size_a : Fld Z h0 a "com/example/verity/verity/SplicedChannel" "size" "J" (.long z)) (F_position_a : Fld Z h0 a "com/example/verity/verity/SplicedChannel" "position" "J" (.long q)) :
    own_C l Z (⟨"com/example/verity/verity/SplicedChannel", "size", "()J"⟩ : MethodName) prog_48_method_10_code 1 (some .long) [] ({ frames := 1, cells := 0, slots := 0, locals := 12 } : Room) #[(.ref a)] h0 (fun v h L => v = some (.long z) ∧ L = [] ∧ h = h0) := by
  refine own_body (plainFor_of_name own_pn4) fun p e s m below meth c s₁ hx hby hml hret hlk hown hnm hZ X0 e0 => ?_
  rw [own_efsg m a]
  refine own_go (U' := s₁.setTop (mkF m 1 #[.val (.ref a)] [(.ref a)])) (fun t k => XS.aloadN X0.here hx rfl (hb hby dsg_0) rfl rfl k) ?_
  obtain ⟨v1, T1, h1, L1, e1, X1, hQ1, st1⟩ := own_callP X0 hx hZ (y := (⟨"com/example/verity/verity/SplicedChannel", "checkOpen", "()V"⟩ : MethodName)) hown (hw _ (List.mem_of_getElem? (i := 51) rfl)) (hw _ (List.mem_of_getElem? (i := 52) rfl)) (own_selP (y0 := (⟨"com/example/verity/verity/SplicedChannel", "append", "([B)V"⟩ : MethodName)) (hw _ (List.mem_of_getElem? (i := 41) rfl)) rfl (hw _ (List.mem_of_getElem? (i := 53) rfl)) (hw _ (List.mem_of_getElem? (i := 52) rfl)) (by decide)) (hw _ (List.mem_of_getElem? (i := 53) rfl)) (hw _ (List.mem_of_getElem? (i := 2) rfl)) (hw _ (List.mem_of_getElem? (i := 54) rfl)) (by decide) E_a (own_rmco l Z a0 hw a h0 F_open_a) (W := 0) (by decide) (by decide) (g := (mkF m 1 #[.val (.ref a)] [(.ref a)])) rfl (by rw [hml]; rfl) (argsL := []) (rest := []) (lenOf own_pd0 rfl) rfl rfl (by show 2 * 0 + _ ≤ _; exact Nat.le_of_eq rfl) (hb hby dsg_1) e0 (by decide) (by decide)
  obtain ⟨rfl, rfl, eh1⟩ := hQ1
  have e1 := e1.trans eh1
  rw [List.append_nil] at X1
  refine own_go (U' := T1.setTop (mkF m 4 #[.val (.ref a)] [])) st1 ?_
  refine own_go (U' := T1.setTop (mkF m 5 #[.val (.ref a)] [(.ref a)])) (fun t k => XS.aloadN X1.here hx rfl (hb hby dsg_4) rfl rfl k) ?_
  obtain ⟨T2, X2, e2, st2⟩ := getF X1 hx hZ hown (host := "") (Or.inl (hw _ (List.mem_of_getElem? (i := 43) rfl))) Via.refl e1 F_size_a (g := (mkF m 5 #[.val (.ref a)] [(.ref a)])) rfl rfl (hb hby dsg_5)
  refine own_go (U' := T2.setTop (mkF m 8 #[.val (.ref a)] [(.long z)])) st2 ?_
  refine own_retL X2 hx hret hlk (hb hby dsg_8) ?_ (by decide) (by decide)
  exact ⟨rfl, rfl, e2⟩
theorem dio_0 : decode prog_48_method_12_code 0 = .ok (.aload_n 0, 1) := by decide +kernel
theorem dio_1 : decode prog_48_method_12_code 1 = .ok (.getfield 16, 3) := by decide +kernel
theorem dio_4 : decode prog_48_method_12_code 4 = .ok (.ireturn, 1) := by decide +kernel
theorem own_efio (m : MethodId) (a : Addr) : entryFrame m #[(.ref a)] 1 = mkF m 0 #[.val (.ref a)] [] := by first | (simp [entryFrame, mkF, argsToLocals, Value.category]; done) | rfl
set_option maxRecDepth 65536 in
set_option maxHeartbeats 40000000 in
theorem own_rmio (l : Launch) (Z : State) (a0 : Array Value) (hw : ∀ d ∈ tables_1, d.before a0 Z = true) (a : Addr) (h0 : Heap) (F_open_a : Fld Z h0 a "com/example/verity/verity/SplicedChannel" "open" "Z" (.int 1)) :
    own_C l Z (⟨"com/example/verity/verity/SplicedChannel", "isOpen", "()Z"⟩ : MethodName) prog_48_method_12_code 1 (some .boolean) [] ({ frames := 0, cells := 0, slots := 0, locals := 0 } : Room) #[(.ref a)] h0 (fun v h L => v = some (.int 1) ∧ L = [] ∧ h = h0) := by
  refine own_body (plainFor_of_name own_pn4) fun p e s m below meth c s₁ hx hby hml hret hlk hown hnm hZ X0 e0 => ?_
  rw [own_efio m a]
  refine own_go (U' := s₁.setTop (mkF m 1 #[.val (.ref a)] [(.ref a)])) (fun t k => XS.aloadN X0.here hx rfl (hb hby dio_0) rfl rfl k) ?_
  obtain ⟨T1, X1, e1, st1⟩ := getF X0 hx hZ hown (host := "") (Or.inl (hw _ (List.mem_of_getElem? (i := 35) rfl))) Via.refl e0 F_open_a (g := (mkF m 1 #[.val (.ref a)] [(.ref a)])) rfl rfl (hb hby dio_1)
  refine own_go (U' := T1.setTop (mkF m 4 #[.val (.ref a)] [(.int (1 : Int32))])) st1 ?_
  refine own_retN X1 hx (t := .boolean) hret (by simp) hlk (hb hby dio_4) ?_ (by decide) (by decide)
  exact ⟨rfl, rfl, e1⟩
theorem own_seven (x : Int32) : ∃ k : Nat, k ≤ 7 ∧ x &&& (7 : Int32) = Int32.ofNat k := by
  have h := c_mask x 7 3 (by decide) (by decide)
  refine ⟨((x &&& (7 : Int32)).toInt).toNat, by omega, Int32.toInt_inj.mp ?_⟩
  rw [Int32.toInt_ofNat_of_lt (by omega)]; omega
theorem own_ofn {i : Nat} (h : i < 100) : ¬ Int32.ofNat i < 0 ∧ (Int32.ofNat i).toNatClampNeg = i ∧ (Int32.ofNat i).toInt = i := by
  have e : (Int32.ofNat i).toInt = i := Int32.toInt_ofNat_of_lt (by omega)
  refine ⟨fun q => ?_, by rw [Int32.toNatClampNeg, e]; rfl, e⟩
  rw [Int32.lt_iff_toInt_lt, e] at q
  have : (0 : Int32).toInt = 0 := rfl
  omega
theorem own_pos (x : Int64) : ¬ (x &&& (9223372036854775807 : Int64)) < 0 := by
  have h := c_maskL x 9223372036854775807 63 (by decide) (by decide)
  rw [Int64.lt_iff_toInt_lt, h]
  have : (0 : Int64).toInt = 0 := rfl
  omega
theorem own_pn6 : plainName "com/example/verity/verity/SplicedChannelPositionPinLaw" = true := by first | (simp [plainName, overriddenIn]; done) | decide +kernel
theorem own_ef0 (m : MethodId) (q1 q2 : Int64) (p1 : Int32) : entryFrame m #[(.long q1), (.long q2), (.int p1)] maxLocals = mkF m 0 #[.val (.long q1), .second, .val (.long q2), .second, .val (.int p1), .unset, .unset, .unset, .unset, .unset, .unset, .unset, .unset, .unset, .unset, .unset, .unset, .unset] [] := by first | (simp [entryFrame, mkF, argsToLocals, Value.category, maxLocals]; done) | rfl
set_option maxRecDepth 65536 in
set_option maxHeartbeats 40000000 in
theorem own_rm0 (l : Launch) (Z : State) (a0 : Array Value) (hw : ∀ d ∈ tables_1, d.before a0 Z = true) (ws : List Jvm.Cond) (q1 q2 : Int64) (p1 : Int32) (h0 : Heap) (n0 : Nat) (dd : Addr) (cdd : Cell) (O : Old Z n0 h0) (S_dd : Sta Z Z.heap "java/util/ArrayList" "DEFAULTCAPACITY_EMPTY_ELEMENTDATA" "[Ljava/lang/Object;" (.ref dd)) (A_dd : Arr Z Z.heap dd cdd (.object "java/lang/Object")) (hcdd : cdd.slots.size.toInt32 = 0) :
    own_C l Z x code maxLocals ret ws room_1 #[(.long q1), (.long q2), (.int p1)] h0 (fun v h L => v = some (.int 1) ∧ Fr n0 L) := by
  refine own_body (plainFor_of_name own_pn6) fun p e s m below meth c s₁ hx hby hml hret hlk hown hnm hZ X0 e0 => ?_
  rw [own_ef0 m q1 q2 p1]
  have hml : c.maxLocals = 18 := hml
  have hret : meth.sig.returnType = some .boolean := hret
  have N0 := Fr.nil n0
  obtain ⟨T1, h1, X1, e1, E1, A1, D1, -, st1⟩ := newO X0 hx hZ hown (hw _ (List.mem_of_getElem? (i := 0) rfl)) (hw _ (List.mem_of_getElem? (i := 1) rfl)) (hw _ (List.mem_of_getElem? (i := 2) rfl)) e0 (g := (mkF m 0 #[.val (.long q1), .second, .val (.long q2), .second, .val (.int p1), .unset, .unset, .unset, .unset, .unset, .unset, .unset, .unset, .unset, .unset, .unset, .unset, .unset] [])) rfl (hb hby at_0) (by decide) (by decide)
  obtain ⟨b1, g1⟩ : ∃ z, z = h0.size := ⟨_, rfl⟩
  rw [← g1] at A1 D1 st1
  have g_b1 : n0 ≤ b1 := Nat.le_trans (Nat.le_trans (Nat.le_of_eq O.1.symm) O.2.1) (Nat.le_of_eq g1.symm)
  have O := O.ext E1
  have E_b1 := A1
  have F_parts_b1 : Fld Z h1 b1 "com/example/verity/verity/SplicedChannel" "parts" "Ljava/util/List;" .null := D1 (Or.inr (hw _ (List.mem_of_getElem? (i := 34) rfl))) (ty := (.object "java/util/List")) (by decide)
  have F_open_b1 : Fld Z h1 b1 "com/example/verity/verity/SplicedChannel" "open" "Z" (.int (0 : Int32)) := D1 (Or.inl (hw _ (List.mem_of_getElem? (i := 36) rfl))) (ty := .boolean) (by decide)
  have F_size_b1 : Fld Z h1 b1 "com/example/verity/verity/SplicedChannel" "size" "J" (.long (0 : Int64)) := D1 (Or.inl (hw _ (List.mem_of_getElem? (i := 44) rfl))) (ty := .long) (by decide)
  have F_position_b1 : Fld Z h1 b1 "com/example/verity/verity/SplicedChannel" "position" "J" (.long (0 : Int64)) := D1 (Or.inl (hw _ (List.mem_of_getElem? (i := 56) rfl))) (ty := .long) (by decide)
  refine own_go (U' := T1.setTop (mkF m 3 #[.val (.long q1), .second, .val (.long q2), .second, .val (.int p1), .unset, .unset, .unset, .unset, .unset, .unset, .unset, .unset, .unset, .unset, .unset, .unset, .unset] [(.ref b1)])) st1 ?_
  refine own_go (U' := T1.setTop (mkF m 4 #[.val (.long q1), .second, .val (.long q2), .second, .val (.int p1), .unset, .unset, .unset, .unset, .unset, .unset, .unset, .unset, .unset, .unset, .unset, .unset, .unset] [(.ref b1), (.ref b1)])) (fun t k => XS.dup X1.here hx rfl (hb hby at_3) rfl rfl k) ?_
  obtain ⟨v2, T2, h2, L2, e2, X2, hQ2, st2⟩ := own_callC X1 hx hZ (y := (⟨"com/example/verity/verity/SplicedChannel", "<init>", "()V"⟩ : MethodName)) rfl hown (hw _ (List.mem_of_getElem? (i := 3) rfl)) (hw _ (List.mem_of_getElem? (i := 4) rfl)) (hw _ (List.mem_of_getElem? (i := 2) rfl)) (hw _ (List.mem_of_getElem? (i := 5) rfl)) (by decide) (a := b1) (own_rmci l Z a0 hw b1 h1 n0 g_b1 _ _ dd cdd O S_dd A_dd hcdd E_b1 F_parts_b1 F_open_b1 F_size_b1 F_position_b1) (W := 1) (by decide) (by decide) (g := (mkF m 4 #[.val (.long q1), .second, .val (.long q2), .second, .val (.int p1), .unset, .unset, .unset, .unset, .unset, .unset, .unset, .unset, .unset, .unset, .unset, .unset, .unset] [(.ref b1), (.ref b1)])) rfl (by rw [hml]; rfl) (argsL := []) (rest := [(.ref b1)]) (lenOf own_pd0 rfl) rfl rfl (by show 2 * 0 + _ ≤ _; exact Nat.le_of_eq rfl) (hb hby at_4) e1 (by decide) (by decide)
  have la : b1 < h1.size := E_b1.lt
  obtain ⟨rfl, Nq, Kq, y, g_y, sz_y, ⟨E_y, F_modCount_y, F_elementData_y, F_size_y⟩, F1, F2, F3, F4⟩ := hQ2
  have O := O.keep Kq (allS g_b1 all0)
  have E_b1 := E_b1.keep Kq
  have ne_b1_y : b1 ≠ y := Nat.ne_of_lt (Nat.lt_of_lt_of_le la sz_y)
  have F_parts_b1 := F1
  have F_open_b1 := F2
  have F_size_b1 := F3
  have F_position_b1 := F4
  have N2 := Fr.app N0 Nq
  refine own_go (U' := T2.setTop (mkF m 7 #[.val (.long q1), .second, .val (.long q2), .second, .val (.int p1), .unset, .unset, .unset, .unset, .unset, .unset, .unset, .unset, .unset, .unset, .unset, .unset, .unset] [(.ref b1)])) st2 ?_
  refine own_go (U' := T2.setTop (mkF m 9 #[.val (.long q1), .second, .val (.long q2), .second, .val (.int p1), .val (.ref b1), .unset, .unset, .unset, .unset, .unset, .unset, .unset, .unset, .unset, .unset, .unset, .unset] [])) (fun t k => XS.astore X2.here hx rfl (hb hby at_7) rfl rfl (l' := #[.val (.long q1), .second, .val (.long q2), .second, .val (.int p1), .val (.ref b1), .unset, .unset, .unset, .unset, .unset, .unset, .unset, .unset, .unset, .unset, .unset, .unset]) rfl k) ?_
  refine own_go (U' := T2.setTop (mkF m 11 #[.val (.long q1), .second, .val (.long q2), .second, .val (.int p1), .val (.ref b1), .unset, .unset, .unset, .unset, .unset, .unset, .unset, .unset, .unset, .unset, .unset, .unset] [(.int p1)])) (fun t k => XS.iload X2.here hx rfl (hb hby at_9) rfl k) ?_
  refine own_go (U' := T2.setTop (mkF m 13 #[.val (.long q1), .second, .val (.long q2), .second, .val (.int p1), .val (.ref b1), .unset, .unset, .unset, .unset, .unset, .unset, .unset, .unset, .unset, .unset, .unset, .unset] [(.int (7 : Int32)), (.int p1)])) (fun t k => XS.bipush X2.here hx rfl (hb hby at_11) k) ?_
  refine own_go (U' := T2.setTop (mkF m 14 #[.val (.long q1), .second, .val (.long q2), .second, .val (.int p1), .val (.ref b1), .unset, .unset, .unset, .unset, .unset, .unset, .unset, .unset, .unset, .unset, .unset, .unset] [(.int (p1 &&& (7 : Int32)))])) (fun t k => XS.iand X2.here hx rfl (hb hby at_13) rfl k) ?_
  obtain ⟨kl, hkl, ekl⟩ := own_seven p1
  rw [ekl]
  have ok := own_ofn (i := kl) (by omega)
  refine own_go (U' := T2.setTop (mkF m 16 #[.val (.long q1), .second, .val (.long q2), .second, .val (.int p1), .val (.ref b1), .val (.int (Int32.ofNat kl)), .unset, .unset, .unset, .unset, .unset, .unset, .unset, .unset, .unset, .unset, .unset] [])) (fun t k => XS.istore X2.here hx rfl (hb hby at_14) rfl (l' := #[.val (.long q1), .second, .val (.long q2), .second, .val (.int p1), .val (.ref b1), .val (.int (Int32.ofNat kl)), .unset, .unset, .unset, .unset, .unset, .unset, .unset, .unset, .unset, .unset, .unset]) rfl k) ?_
  refine own_go (U' := T2.setTop (mkF m 18 #[.val (.long q1), .second, .val (.long q2), .second, .val (.int p1), .val (.ref b1), .val (.int (Int32.ofNat kl)), .unset, .unset, .unset, .unset, .unset, .unset, .unset, .unset, .unset, .unset, .unset] [(.int (Int32.ofNat kl))])) (fun t k => XS.iload X2.here hx rfl (hb hby at_16) rfl k) ?_
  obtain ⟨T3, h3, k3, X3, e3, E3, A3, Y3, st3⟩ := own_newarr X2 hx hZ (hw _ (List.mem_of_getElem? (i := 37) rfl)) e2 (g := (mkF m 18 #[.val (.long q1), .second, .val (.long q2), .second, .val (.int p1), .val (.ref b1), .val (.int (Int32.ofNat kl)), .unset, .unset, .unset, .unset, .unset, .unset, .unset, .unset, .unset, .unset, .unset] [(.int (Int32.ofNat kl))])) rfl (hb hby at_18) rfl ok.1 (cap := 7) (by rw [ok.2.1]; exact hkl) (by decide) (by decide) (by decide) (ad := "[B") (by decide) rfl (vs := (List.replicate kl (.int (0 : Int32)))) (by rw [ok.2.1]; rfl)
  obtain ⟨b3, g3⟩ : ∃ z, z = h2.size := ⟨_, rfl⟩
  rw [← g3] at A3 Y3 st3
  have ne_b1_b3 : b1 ≠ b3 := Nat.ne_of_lt (Nat.lt_of_lt_of_eq E_b1.lt g3.symm)
  have ne_y_b3 : y ≠ b3 := Nat.ne_of_lt (Nat.lt_of_lt_of_eq E_y.lt g3.symm)
  have g_b3 : n0 ≤ b3 := Nat.le_trans (Nat.le_trans (Nat.le_of_eq O.1.symm) O.2.1) (Nat.le_of_eq g3.symm)
  have O := O.ext E3
  have E_b1 := E_b1.ext E3
  have F_parts_b1 := F_parts_b1.ext E3
  have F_open_b1 := F_open_b1.ext E3
  have F_size_b1 := F_size_b1.ext E3
  have F_position_b1 := F_position_b1.ext E3
  have E_y := E_y.ext E3
  have F_modCount_y := F_modCount_y.ext E3
  have F_elementData_y := F_elementData_y.ext E3
  have F_size_y := F_size_y.ext E3
  have V_b3 : own_Ar Z h3 b3 k3 .byte (List.replicate kl (.int (0 : Int32))) := A3
  have E_b3 := Y3
  refine own_go (U' := T3.setTop (mkF m 20 #[.val (.long q1), .second, .val (.long q2), .second, .val (.int p1), .val (.ref b1), .val (.int (Int32.ofNat kl)), .unset, .unset, .unset, .unset, .unset, .unset, .unset, .unset, .unset, .unset, .unset] [(.ref b3)])) st3 ?_
  refine own_go (U' := T3.setTop (mkF m 22 #[.val (.long q1), .second, .val (.long q2), .second, .val (.int p1), .val (.ref b1), .val (.int (Int32.ofNat kl)), .val (.ref b3), .unset, .unset, .unset, .unset, .unset, .unset, .unset, .unset, .unset, .unset] [])) (fun t k => XS.astore X3.here hx rfl (hb hby at_20) rfl rfl (l' := #[.val (.long q1), .second, .val (.long q2), .second, .val (.int p1), .val (.ref b1), .val (.int (Int32.ofNat kl)), .val (.ref b3), .unset, .unset, .unset, .unset, .unset, .unset, .unset, .unset, .unset, .unset]) rfl k) ?_
  refine own_go (U' := T3.setTop (mkF m 24 #[.val (.long q1), .second, .val (.long q2), .second, .val (.int p1), .val (.ref b1), .val (.int (Int32.ofNat kl)), .val (.ref b3), .unset, .unset, .unset, .unset, .unset, .unset, .unset, .unset, .unset, .unset] [(.ref b1)])) (fun t k => XS.aload X3.here hx rfl (hb hby at_22) rfl rfl k) ?_
  refine own_go (U' := T3.setTop (mkF m 26 #[.val (.long q1), .second, .val (.long q2), .second, .val (.int p1), .val (.ref b1), .val (.int (Int32.ofNat kl)), .val (.ref b3), .unset, .unset, .unset, .unset, .unset, .unset, .unset, .unset, .unset, .unset] [(.ref b3), (.ref b1)])) (fun t k => XS.aload X3.here hx rfl (hb hby at_24) rfl rfl k) ?_
  obtain ⟨v4, T4, h4, L4, e4, X4, hQ4, st4⟩ := own_callV X3 hx hZ (y := (⟨"com/example/verity/verity/SplicedChannel", "append", "([B)V"⟩ : MethodName)) (z := (⟨"com/example/verity/verity/SplicedChannel", "append", "([B)V"⟩ : MethodName)) hown (hw _ (List.mem_of_getElem? (i := 38) rfl)) (hw _ (List.mem_of_getElem? (i := 39) rfl)) (notFace_of_selects (args := #[]) (mvT hZ (hw _ (List.mem_of_getElem? (i := 41) rfl)))) (hw _ (List.mem_of_getElem? (i := 41) rfl)) (hw _ (List.mem_of_getElem? (i := 40) rfl)) (hw _ (List.mem_of_getElem? (i := 2) rfl)) (hw _ (List.mem_of_getElem? (i := 42) rfl)) (by decide) E_b1 (own_rmap l Z a0 hw b1 b3 h3 n0 g_b1 y g_y (Int32.ofNat kl) 0 _ _ ne_b1_y (by rw [List.length_replicate]) ok.1 dd cdd O S_dd A_dd hcdd E_y F_modCount_y F_elementData_y F_size_y V_b3 E_b1 F_parts_b1 F_open_b1 F_size_b1 F_position_b1) (W := 0) (by decide) (by decide) (g := (mkF m 26 #[.val (.long q1), .second, .val (.long q2), .second, .val (.int p1), .val (.ref b1), .val (.int (Int32.ofNat kl)), .val (.ref b3), .unset, .unset, .unset, .unset, .unset, .unset, .unset, .unset, .unset, .unset] [(.ref b3), (.ref b1)])) rfl (by rw [hml]; rfl) (argsL := [(.ref b3)]) (rest := []) (lenOf own_pd1 rfl) rfl rfl (by show 2 * 0 + _ ≤ _; exact Nat.le_of_eq rfl) (hb hby at_26) e3 (by decide) (by decide)
  obtain ⟨rfl, Nq, Kq, F1, F2, F3, F4⟩ := hQ4
  have O := O.keep Kq (allS g_b1 (allS g_y all0))
  have E_b1 := E_b1.keep Kq
  have E_y := E_y.keep Kq
  have F_parts_b1 := F1
  have F_open_b1 := F2
  have F_size_b1 := F3
  have F_position_b1 := F4
  have N4 := Fr.app N2 Nq
  refine own_go (U' := T4.setTop (mkF m 29 #[.val (.long q1), .second, .val (.long q2), .second, .val (.int p1), .val (.ref b1), .val (.int (Int32.ofNat kl)), .val (.ref b3), .unset, .unset, .unset, .unset, .unset, .unset, .unset, .unset, .unset, .unset] [])) st4 ?_
  refine own_go (U' := T4.setTop (mkF m 30 #[.val (.long q1), .second, .val (.long q2), .second, .val (.int p1), .val (.ref b1), .val (.int (Int32.ofNat kl)), .val (.ref b3), .unset, .unset, .unset, .unset, .unset, .unset, .unset, .unset, .unset, .unset] [(.long q1)])) (fun t k => XS.lloadN X4.here hx rfl (hb hby at_29) rfl k) ?_
  refine own_go (U' := T4.setTop (mkF m 33 #[.val (.long q1), .second, .val (.long q2), .second, .val (.int p1), .val (.ref b1), .val (.int (Int32.ofNat kl)), .val (.ref b3), .unset, .unset, .unset, .unset, .unset, .unset, .unset, .unset, .unset, .unset] [(.long (9223372036854775807 : Int64)), (.long q1)])) (fun t k => X4.ldc2Long hx hown (mvT hZ (hw _ (List.mem_of_getElem? (i := 45) rfl))) (g := (mkF m 30 #[.val (.long q1), .second, .val (.long q2), .second, .val (.int p1), .val (.ref b1), .val (.int (Int32.ofNat kl)), .val (.ref b3), .unset, .unset, .unset, .unset, .unset, .unset, .unset, .unset, .unset, .unset] [(.long q1)])) rfl (hb hby at_30) _ k) ?_
  refine own_go (U' := T4.setTop (mkF m 34 #[.val (.long q1), .second, .val (.long q2), .second, .val (.int p1), .val (.ref b1), .val (.int (Int32.ofNat kl)), .val (.ref b3), .unset, .unset, .unset, .unset, .unset, .unset, .unset, .unset, .unset, .unset] [(.long (q1 &&& (9223372036854775807 : Int64)))])) (fun t k => XS.land X4.here hx rfl (hb hby at_33) rfl k) ?_
  refine own_go (U' := T4.setTop (mkF m 36 #[.val (.long q1), .second, .val (.long q2), .second, .val (.int p1), .val (.ref b1), .val (.int (Int32.ofNat kl)), .val (.ref b3), .val (.long (q1 &&& (9223372036854775807 : Int64))), .second, .unset, .unset, .unset, .unset, .unset, .unset, .unset, .unset] [])) (fun t k => XS.lstore X4.here hx rfl (hb hby at_34) rfl (l' := #[.val (.long q1), .second, .val (.long q2), .second, .val (.int p1), .val (.ref b1), .val (.int (Int32.ofNat kl)), .val (.ref b3), .val (.long (q1 &&& (9223372036854775807 : Int64))), .second, .unset, .unset, .unset, .unset, .unset, .unset, .unset, .unset]) rfl k) ?_
  refine own_go (U' := T4.setTop (mkF m 37 #[.val (.long q1), .second, .val (.long q2), .second, .val (.int p1), .val (.ref b1), .val (.int (Int32.ofNat kl)), .val (.ref b3), .val (.long (q1 &&& (9223372036854775807 : Int64))), .second, .unset, .unset, .unset, .unset, .unset, .unset, .unset, .unset] [(.long q2)])) (fun t k => XS.lloadN X4.here hx rfl (hb hby at_36) rfl k) ?_
  refine own_go (U' := T4.setTop (mkF m 40 #[.val (.long q1), .second, .val (.long q2), .second, .val (.int p1), .val (.ref b1), .val (.int (Int32.ofNat kl)), .val (.ref b3), .val (.long (q1 &&& (9223372036854775807 : Int64))), .second, .unset, .unset, .unset, .unset, .unset, .unset, .unset, .unset] [(.long (9223372036854775807 : Int64)), (.long q2)])) (fun t k => X4.ldc2Long hx hown (mvT hZ (hw _ (List.mem_of_getElem? (i := 45) rfl))) (g := (mkF m 37 #[.val (.long q1), .second, .val (.long q2), .second, .val (.int p1), .val (.ref b1), .val (.int (Int32.ofNat kl)), .val (.ref b3), .val (.long (q1 &&& (9223372036854775807 : Int64))), .second, .unset, .unset, .unset, .unset, .unset, .unset, .unset, .unset] [(.long q2)])) rfl (hb hby at_37) _ k) ?_
  refine own_go (U' := T4.setTop (mkF m 41 #[.val (.long q1), .second, .val (.long q2), .second, .val (.int p1), .val (.ref b1), .val (.int (Int32.ofNat kl)), .val (.ref b3), .val (.long (q1 &&& (9223372036854775807 : Int64))), .second, .unset, .unset, .unset, .unset, .unset, .unset, .unset, .unset] [(.long (q2 &&& (9223372036854775807 : Int64)))])) (fun t k => XS.land X4.here hx rfl (hb hby at_40) rfl k) ?_
  refine own_go (U' := T4.setTop (mkF m 43 #[.val (.long q1), .second, .val (.long q2), .second, .val (.int p1), .val (.ref b1), .val (.int (Int32.ofNat kl)), .val (.ref b3), .val (.long (q1 &&& (9223372036854775807 : Int64))), .second, .val (.long (q2 &&& (9223372036854775807 : Int64))), .second, .unset, .unset, .unset, .unset, .unset, .unset] [])) (fun t k => XS.lstore X4.here hx rfl (hb hby at_41) rfl (l' := #[.val (.long q1), .second, .val (.long q2), .second, .val (.int p1), .val (.ref b1), .val (.int (Int32.ofNat kl)), .val (.ref b3), .val (.long (q1 &&& (9223372036854775807 : Int64))), .second, .val (.long (q2 &&& (9223372036854775807 : Int64))), .second, .unset, .unset, .unset, .unset, .unset, .unset]) rfl k) ?_
  refine own_go (U' := T4.setTop (mkF m 45 #[.val (.long q1), .second, .val (.long q2), .second, .val (.int p1), .val (.ref b1), .val (.int (Int32.ofNat kl)), .val (.ref b3), .val (.long (q1 &&& (9223372036854775807 : Int64))), .second, .val (.long (q2 &&& (9223372036854775807 : Int64))), .second, .unset, .unset, .unset, .unset, .unset, .unset] [(.ref b1)])) (fun t k => XS.aload X4.here hx rfl (hb hby at_43) rfl rfl k) ?_
  refine own_go (U' := T4.setTop (mkF m 47 #[.val (.long q1), .second, .val (.long q2), .second, .val (.int p1), .val (.ref b1), .val (.int (Int32.ofNat kl)), .val (.ref b3), .val (.long (q1 &&& (9223372036854775807 : Int64))), .second, .val (.long (q2 &&& (9223372036854775807 : Int64))), .second, .unset, .unset, .unset, .unset, .unset, .unset] [(.long (q1 &&& (9223372036854775807 : Int64))), (.ref b1)])) (fun t k => XS.lload X4.here hx rfl (hb hby at_45) rfl k) ?_
  obtain ⟨v5, T5, h5, L5, e5, X5, hQ5, st5⟩ := own_callV X4 hx hZ (y := (⟨"com/example/verity/verity/SplicedChannel", "position", "(J)Ljava/nio/channels/SeekableByteChannel;"⟩ : MethodName)) (z := (⟨"com/example/verity/verity/SplicedChannel", "position", "(J)Ljava/nio/channels/SeekableByteChannel;"⟩ : MethodName)) hown (hw _ (List.mem_of_getElem? (i := 46) rfl)) (hw _ (List.mem_of_getElem? (i := 47) rfl)) (notFace_of_selects (args := #[]) (mvT hZ (hw _ (List.mem_of_getElem? (i := 49) rfl)))) (hw _ (List.mem_of_getElem? (i := 49) rfl)) (hw _ (List.mem_of_getElem? (i := 48) rfl)) (hw _ (List.mem_of_getElem? (i := 2) rfl)) (hw _ (List.mem_of_getElem? (i := 50) rfl)) (by decide) E_b1 (own_rmps l Z a0 hw b1 (q1 &&& (9223372036854775807 : Int64)) h4 n0 g_b1 y _ 0 (own_pos q1) E_b1 F_parts_b1 F_open_b1 F_size_b1 F_position_b1) (W := 0) (by decide) (by decide) (g := (mkF m 47 #[.val (.long q1), .second, .val (.long q2), .second, .val (.int p1), .val (.ref b1), .val (.int (Int32.ofNat kl)), .val (.ref b3), .val (.long (q1 &&& (9223372036854775807 : Int64))), .second, .val (.long (q2 &&& (9223372036854775807 : Int64))), .second, .unset, .unset, .unset, .unset, .unset, .unset] [(.long (q1 &&& (9223372036854775807 : Int64))), (.ref b1)])) rfl (by rw [hml]; rfl) (argsL := [(.long (q1 &&& (9223372036854775807 : Int64)))]) (rest := []) (lenOf own_pd2 rfl) rfl rfl (by show 2 * 0 + _ ≤ _; exact Nat.le_of_eq rfl) (hb hby at_47) e4 (by decide) (by decide)
  obtain ⟨rfl, Nq, Kq, F1, F2, F3, F4⟩ := hQ5
  have O := O.keep Kq (allS g_b1 all0)
  have E_b1 := E_b1.keep Kq
  have F_parts_b1 := F1
  have F_open_b1 := F2
  have F_size_b1 := F3
  have F_position_b1 := F4
  have N5 := Fr.app N4 Nq
  refine own_go (U' := T5.setTop (mkF m 50 #[.val (.long q1), .second, .val (.long q2), .second, .val (.int p1), .val (.ref b1), .val (.int (Int32.ofNat kl)), .val (.ref b3), .val (.long (q1 &&& (9223372036854775807 : Int64))), .second, .val (.long (q2 &&& (9223372036854775807 : Int64))), .second, .unset, .unset, .unset, .unset, .unset, .unset] [(.ref b1)])) st5 ?_
  refine own_go (U' := T5.setTop (mkF m 52 #[.val (.long q1), .second, .val (.long q2), .second, .val (.int p1), .val (.ref b1), .val (.int (Int32.ofNat kl)), .val (.ref b3), .val (.long (q1 &&& (9223372036854775807 : Int64))), .second, .val (.long (q2 &&& (9223372036854775807 : Int64))), .second, .unset, .unset, .unset, .unset, .unset, .unset] [(.ref b1), (.ref b1)])) (fun t k => XS.aload X5.here hx rfl (hb hby at_50) rfl rfl k) ?_
  refine own_go (U' := T5.setTop (mkF m 55 #[.val (.long q1), .second, .val (.long q2), .second, .val (.int p1), .val (.ref b1), .val (.int (Int32.ofNat kl)), .val (.ref b3), .val (.long (q1 &&& (9223372036854775807 : Int64))), .second, .val (.long (q2 &&& (9223372036854775807 : Int64))), .second, .unset, .unset, .unset, .unset, .unset, .unset] [])) (fun t k => Jvm.RoadKit.acmp (g := (mkF m 52 #[.val (.long q1), .second, .val (.long q2), .second, .val (.int p1), .val (.ref b1), .val (.int (Int32.ofNat kl)), .val (.ref b3), .val (.long (q1 &&& (9223372036854775807 : Int64))), .second, .val (.long (q2 &&& (9223372036854775807 : Int64))), .second, .unset, .unset, .unset, .unset, .unset, .unset] [(.ref b1), (.ref b1)])) X5 hx rfl rfl rfl (pc0 := 52) (pc' := 55) (same := true) rfl (hb hby at_52) rfl (decide_eq_true (congrArg Value.ref rfl)) (by decide) (by decide) k) ?_
  refine own_go (U' := T5.setTop (mkF m 56 #[.val (.long q1), .second, .val (.long q2), .second, .val (.int p1), .val (.ref b1), .val (.int (Int32.ofNat kl)), .val (.ref b3), .val (.long (q1 &&& (9223372036854775807 : Int64))), .second, .val (.long (q2 &&& (9223372036854775807 : Int64))), .second, .unset, .unset, .unset, .unset, .unset, .unset] [(.int (1 : Int32))])) (fun t k => XS.iconst X5.here hx rfl (hb hby at_55) k) ?_
  refine own_go (U' := T5.setTop (mkF m 60 #[.val (.long q1), .second, .val (.long q2), .second, .val (.int p1), .val (.ref b1), .val (.int (Int32.ofNat kl)), .val (.ref b3), .val (.long (q1 &&& (9223372036854775807 : Int64))), .second, .val (.long (q2 &&& (9223372036854775807 : Int64))), .second, .unset, .unset, .unset, .unset, .unset, .unset] [(.int (1 : Int32))])) (fun t k => XS.goto X5.here hx rfl (pc0 := 56) (pc' := 60) rfl (hb hby at_56) (by decide) (by decide) k) ?_
  refine own_go (U' := T5.setTop (mkF m 62 #[.val (.long q1), .second, .val (.long q2), .second, .val (.int p1), .val (.ref b1), .val (.int (Int32.ofNat kl)), .val (.ref b3), .val (.long (q1 &&& (9223372036854775807 : Int64))), .second, .val (.long (q2 &&& (9223372036854775807 : Int64))), .second, .val (.int (1 : Int32)), .unset, .unset, .unset, .unset, .unset] [])) (fun t k => XS.istore X5.here hx rfl (hb hby at_60) rfl (l' := #[.val (.long q1), .second, .val (.long q2), .second, .val (.int p1), .val (.ref b1), .val (.int (Int32.ofNat kl)), .val (.ref b3), .val (.long (q1 &&& (9223372036854775807 : Int64))), .second, .val (.long (q2 &&& (9223372036854775807 : Int64))), .second, .val (.int (1 : Int32)), .unset, .unset, .unset, .unset, .unset]) rfl k) ?_
  refine own_go (U' := T5.setTop (mkF m 64 #[.val (.long q1), .second, .val (.long q2), .second, .val (.int p1), .val (.ref b1), .val (.int (Int32.ofNat kl)), .val (.ref b3), .val (.long (q1 &&& (9223372036854775807 : Int64))), .second, .val (.long (q2 &&& (9223372036854775807 : Int64))), .second, .val (.int (1 : Int32)), .unset, .unset, .unset, .unset, .unset] [(.ref b1)])) (fun t k => XS.aload X5.here hx rfl (hb hby at_62) rfl rfl k) ?_
  obtain ⟨v6, T6, h6, L6, e6, X6, hQ6, st6⟩ := own_callV X5 hx hZ (y := (⟨"com/example/verity/verity/SplicedChannel", "position", "()J"⟩ : MethodName)) (z := (⟨"com/example/verity/verity/SplicedChannel", "position", "()J"⟩ : MethodName)) hown (hw _ (List.mem_of_getElem? (i := 57) rfl)) (hw _ (List.mem_of_getElem? (i := 58) rfl)) (notFace_of_selects (args := #[]) (mvT hZ (hw _ (List.mem_of_getElem? (i := 60) rfl)))) (hw _ (List.mem_of_getElem? (i := 60) rfl)) (hw _ (List.mem_of_getElem? (i := 59) rfl)) (hw _ (List.mem_of_getElem? (i := 2) rfl)) (hw _ (List.mem_of_getElem? (i := 61) rfl)) (by decide) E_b1 (own_rmpg l Z a0 hw b1 h5 y _ _ E_b1 F_parts_b1 F_open_b1 F_size_b1 F_position_b1) (W := 0) (by decide) (by decide) (g := (mkF m 64 #[.val (.long q1), .second, .val (.long q2), .second, .val (.int p1), .val (.ref b1), .val (.int (Int32.ofNat kl)), .val (.ref b3), .val (.long (q1 &&& (9223372036854775807 : Int64))), .second, .val (.long (q2 &&& (9223372036854775807 : Int64))), .second, .val (.int (1 : Int32)), .unset, .unset, .unset, .unset, .unset] [(.ref b1)])) rfl (by rw [hml]; rfl) (argsL := []) (rest := []) (lenOf own_pd3 rfl) rfl rfl (by show 2 * 0 + _ ≤ _; exact Nat.le_of_eq rfl) (hb hby at_64) e5 (by decide) (by decide)
  obtain ⟨rfl, rfl, eh6⟩ := hQ6
  have e6 := e6.trans eh6
  rw [List.append_nil] at X6
  refine own_go (U' := T6.setTop (mkF m 67 #[.val (.long q1), .second, .val (.long q2), .second, .val (.int p1), .val (.ref b1), .val (.int (Int32.ofNat kl)), .val (.ref b3), .val (.long (q1 &&& (9223372036854775807 : Int64))), .second, .val (.long (q2 &&& (9223372036854775807 : Int64))), .second, .val (.int (1 : Int32)), .unset, .unset, .unset, .unset, .unset] [(.long (q1 &&& (9223372036854775807 : Int64)))])) st6 ?_
  refine own_go (U' := T6.setTop (mkF m 69 #[.val (.long q1), .second, .val (.long q2), .second, .val (.int p1), .val (.ref b1), .val (.int (Int32.ofNat kl)), .val (.ref b3), .val (.long (q1 &&& (9223372036854775807 : Int64))), .second, .val (.long (q2 &&& (9223372036854775807 : Int64))), .second, .val (.int (1 : Int32)), .unset, .unset, .unset, .unset, .unset] [(.long (q1 &&& (9223372036854775807 : Int64))), (.long (q1 &&& (9223372036854775807 : Int64)))])) (fun t k => XS.lload X6.here hx rfl (hb hby at_67) rfl k) ?_
  refine own_go (U' := T6.setTop (mkF m 70 #[.val (.long q1), .second, .val (.long q2), .second, .val (.int p1), .val (.ref b1), .val (.int (Int32.ofNat kl)), .val (.ref b3), .val (.long (q1 &&& (9223372036854775807 : Int64))), .second, .val (.long (q2 &&& (9223372036854775807 : Int64))), .second, .val (.int (1 : Int32)), .unset, .unset, .unset, .unset, .unset] [(.int (lcmpW (q1 &&& (9223372036854775807 : Int64)) (q1 &&& (9223372036854775807 : Int64))))])) (fun t k => XS.lcmp X6.here hx rfl (hb hby at_69) rfl k) ?_
  refine own_go (U' := T6.setTop (mkF m 73 #[.val (.long q1), .second, .val (.long q2), .second, .val (.int p1), .val (.ref b1), .val (.int (Int32.ofNat kl)), .val (.ref b3), .val (.long (q1 &&& (9223372036854775807 : Int64))), .second, .val (.long (q2 &&& (9223372036854775807 : Int64))), .second, .val (.int (1 : Int32)), .unset, .unset, .unset, .unset, .unset] [])) (fun t k => XS.ifNo X6.here hx rfl (hb hby at_70) rfl ((if0 _ _).trans (teq ((lw_eq (q1 &&& (9223372036854775807 : Int64)) (q1 &&& (9223372036854775807 : Int64))).mpr rfl)).2) k) ?_
  refine own_go (U' := T6.setTop (mkF m 74 #[.val (.long q1), .second, .val (.long q2), .second, .val (.int p1), .val (.ref b1), .val (.int (Int32.ofNat kl)), .val (.ref b3), .val (.long (q1 &&& (9223372036854775807 : Int64))), .second, .val (.long (q2 &&& (9223372036854775807 : Int64))), .second, .val (.int (1 : Int32)), .unset, .unset, .unset, .unset, .unset] [(.int (1 : Int32))])) (fun t k => XS.iconst X6.here hx rfl (hb hby at_73) k) ?_
  refine own_go (U' := T6.setTop (mkF m 78 #[.val (.long q1), .second, .val (.long q2), .second, .val (.int p1), .val (.ref b1), .val (.int (Int32.ofNat kl)), .val (.ref b3), .val (.long (q1 &&& (9223372036854775807 : Int64))), .second, .val (.long (q2 &&& (9223372036854775807 : Int64))), .second, .val (.int (1 : Int32)), .unset, .unset, .unset, .unset, .unset] [(.int (1 : Int32))])) (fun t k => XS.goto X6.here hx rfl (pc0 := 74) (pc' := 78) rfl (hb hby at_74) (by decide) (by decide) k) ?_
  refine own_go (U' := T6.setTop (mkF m 80 #[.val (.long q1), .second, .val (.long q2), .second, .val (.int p1), .val (.ref b1), .val (.int (Int32.ofNat kl)), .val (.ref b3), .val (.long (q1 &&& (9223372036854775807 : Int64))), .second, .val (.long (q2 &&& (9223372036854775807 : Int64))), .second, .val (.int (1 : Int32)), .val (.int (1 : Int32)), .unset, .unset, .unset, .unset] [])) (fun t k => XS.istore X6.here hx rfl (hb hby at_78) rfl (l' := #[.val (.long q1), .second, .val (.long q2), .second, .val (.int p1), .val (.ref b1), .val (.int (Int32.ofNat kl)), .val (.ref b3), .val (.long (q1 &&& (9223372036854775807 : Int64))), .second, .val (.long (q2 &&& (9223372036854775807 : Int64))), .second, .val (.int (1 : Int32)), .val (.int (1 : Int32)), .unset, .unset, .unset, .unset]) rfl k) ?_
  refine own_go (U' := T6.setTop (mkF m 82 #[.val (.long q1), .second, .val (.long q2), .second, .val (.int p1), .val (.ref b1), .val (.int (Int32.ofNat kl)), .val (.ref b3), .val (.long (q1 &&& (9223372036854775807 : Int64))), .second, .val (.long (q2 &&& (9223372036854775807 : Int64))), .second, .val (.int (1 : Int32)), .val (.int (1 : Int32)), .unset, .unset, .unset, .unset] [(.ref b1)])) (fun t k => XS.aload X6.here hx rfl (hb hby at_80) rfl rfl k) ?_
  refine own_go (U' := T6.setTop (mkF m 84 #[.val (.long q1), .second, .val (.long q2), .second, .val (.int p1), .val (.ref b1), .val (.int (Int32.ofNat kl)), .val (.ref b3), .val (.long (q1 &&& (9223372036854775807 : Int64))), .second, .val (.long (q2 &&& (9223372036854775807 : Int64))), .second, .val (.int (1 : Int32)), .val (.int (1 : Int32)), .unset, .unset, .unset, .unset] [(.long (q2 &&& (9223372036854775807 : Int64))), (.ref b1)])) (fun t k => XS.lload X6.here hx rfl (hb hby at_82) rfl k) ?_
  obtain ⟨v7, T7, h7, L7, e7, X7, hQ7, st7⟩ := own_callV X6 hx hZ (y := (⟨"com/example/verity/verity/SplicedChannel", "position", "(J)Ljava/nio/channels/SeekableByteChannel;"⟩ : MethodName)) (z := (⟨"com/example/verity/verity/SplicedChannel", "position", "(J)Ljava/nio/channels/SeekableByteChannel;"⟩ : MethodName)) hown (hw _ (List.mem_of_getElem? (i := 46) rfl)) (hw _ (List.mem_of_getElem? (i := 47) rfl)) (notFace_of_selects (args := #[]) (mvT hZ (hw _ (List.mem_of_getElem? (i := 49) rfl)))) (hw _ (List.mem_of_getElem? (i := 49) rfl)) (hw _ (List.mem_of_getElem? (i := 48) rfl)) (hw _ (List.mem_of_getElem? (i := 2) rfl)) (hw _ (List.mem_of_getElem? (i := 50) rfl)) (by decide) E_b1 (own_rmps l Z a0 hw b1 (q2 &&& (9223372036854775807 : Int64)) h5 n0 g_b1 y _ (q1 &&& (9223372036854775807 : Int64)) (own_pos q2) E_b1 F_parts_b1 F_open_b1 F_size_b1 F_position_b1) (W := 0) (by decide) (by decide) (g := (mkF m 84 #[.val (.long q1), .second, .val (.long q2), .second, .val (.int p1), .val (.ref b1), .val (.int (Int32.ofNat kl)), .val (.ref b3), .val (.long (q1 &&& (9223372036854775807 : Int64))), .second, .val (.long (q2 &&& (9223372036854775807 : Int64))), .second, .val (.int (1 : Int32)), .val (.int (1 : Int32)), .unset, .unset, .unset, .unset] [(.long (q2 &&& (9223372036854775807 : Int64))), (.ref b1)])) rfl (by rw [hml]; rfl) (argsL := [(.long (q2 &&& (9223372036854775807 : Int64)))]) (rest := []) (lenOf own_pd2 rfl) rfl rfl (by show 2 * 0 + _ ≤ _; exact Nat.le_of_eq rfl) (hb hby at_84) e6 (by decide) (by decide)
  obtain ⟨rfl, Nq, Kq, F1, F2, F3, F4⟩ := hQ7
  have O := O.keep Kq (allS g_b1 all0)
  have E_b1 := E_b1.keep Kq
  have F_parts_b1 := F1
  have F_open_b1 := F2
  have F_size_b1 := F3
  have F_position_b1 := F4
  have N7 := Fr.app N5 Nq
  refine own_go (U' := T7.setTop (mkF m 87 #[.val (.long q1), .second, .val (.long q2), .second, .val (.int p1), .val (.ref b1), .val (.int (Int32.ofNat kl)), .val (.ref b3), .val (.long (q1 &&& (9223372036854775807 : Int64))), .second, .val (.long (q2 &&& (9223372036854775807 : Int64))), .second, .val (.int (1 : Int32)), .val (.int (1 : Int32)), .unset, .unset, .unset, .unset] [(.ref b1)])) st7 ?_
  refine own_go (U' := T7.setTop (mkF m 89 #[.val (.long q1), .second, .val (.long q2), .second, .val (.int p1), .val (.ref b1), .val (.int (Int32.ofNat kl)), .val (.ref b3), .val (.long (q1 &&& (9223372036854775807 : Int64))), .second, .val (.long (q2 &&& (9223372036854775807 : Int64))), .second, .val (.int (1 : Int32)), .val (.int (1 : Int32)), .unset, .unset, .unset, .unset] [(.ref b1), (.ref b1)])) (fun t k => XS.aload X7.here hx rfl (hb hby at_87) rfl rfl k) ?_
  refine own_go (U' := T7.setTop (mkF m 92 #[.val (.long q1), .second, .val (.long q2), .second, .val (.int p1), .val (.ref b1), .val (.int (Int32.ofNat kl)), .val (.ref b3), .val (.long (q1 &&& (9223372036854775807 : Int64))), .second, .val (.long (q2 &&& (9223372036854775807 : Int64))), .second, .val (.int (1 : Int32)), .val (.int (1 : Int32)), .unset, .unset, .unset, .unset] [])) (fun t k => Jvm.RoadKit.acmp (g := (mkF m 89 #[.val (.long q1), .second, .val (.long q2), .second, .val (.int p1), .val (.ref b1), .val (.int (Int32.ofNat kl)), .val (.ref b3), .val (.long (q1 &&& (9223372036854775807 : Int64))), .second, .val (.long (q2 &&& (9223372036854775807 : Int64))), .second, .val (.int (1 : Int32)), .val (.int (1 : Int32)), .unset, .unset, .unset, .unset] [(.ref b1), (.ref b1)])) X7 hx rfl rfl rfl (pc0 := 89) (pc' := 92) (same := true) rfl (hb hby at_89) rfl (decide_eq_true (congrArg Value.ref rfl)) (by decide) (by decide) k) ?_
  refine own_go (U' := T7.setTop (mkF m 93 #[.val (.long q1), .second, .val (.long q2), .second, .val (.int p1), .val (.ref b1), .val (.int (Int32.ofNat kl)), .val (.ref b3), .val (.long (q1 &&& (9223372036854775807 : Int64))), .second, .val (.long (q2 &&& (9223372036854775807 : Int64))), .second, .val (.int (1 : Int32)), .val (.int (1 : Int32)), .unset, .unset, .unset, .unset] [(.int (1 : Int32))])) (fun t k => XS.iconst X7.here hx rfl (hb hby at_92) k) ?_
  refine own_go (U' := T7.setTop (mkF m 97 #[.val (.long q1), .second, .val (.long q2), .second, .val (.int p1), .val (.ref b1), .val (.int (Int32.ofNat kl)), .val (.ref b3), .val (.long (q1 &&& (9223372036854775807 : Int64))), .second, .val (.long (q2 &&& (9223372036854775807 : Int64))), .second, .val (.int (1 : Int32)), .val (.int (1 : Int32)), .unset, .unset, .unset, .unset] [(.int (1 : Int32))])) (fun t k => XS.goto X7.here hx rfl (pc0 := 93) (pc' := 97) rfl (hb hby at_93) (by decide) (by decide) k) ?_
  refine own_go (U' := T7.setTop (mkF m 99 #[.val (.long q1), .second, .val (.long q2), .second, .val (.int p1), .val (.ref b1), .val (.int (Int32.ofNat kl)), .val (.ref b3), .val (.long (q1 &&& (9223372036854775807 : Int64))), .second, .val (.long (q2 &&& (9223372036854775807 : Int64))), .second, .val (.int (1 : Int32)), .val (.int (1 : Int32)), .val (.int (1 : Int32)), .unset, .unset, .unset] [])) (fun t k => XS.istore X7.here hx rfl (hb hby at_97) rfl (l' := #[.val (.long q1), .second, .val (.long q2), .second, .val (.int p1), .val (.ref b1), .val (.int (Int32.ofNat kl)), .val (.ref b3), .val (.long (q1 &&& (9223372036854775807 : Int64))), .second, .val (.long (q2 &&& (9223372036854775807 : Int64))), .second, .val (.int (1 : Int32)), .val (.int (1 : Int32)), .val (.int (1 : Int32)), .unset, .unset, .unset]) rfl k) ?_
  refine own_go (U' := T7.setTop (mkF m 101 #[.val (.long q1), .second, .val (.long q2), .second, .val (.int p1), .val (.ref b1), .val (.int (Int32.ofNat kl)), .val (.ref b3), .val (.long (q1 &&& (9223372036854775807 : Int64))), .second, .val (.long (q2 &&& (9223372036854775807 : Int64))), .second, .val (.int (1 : Int32)), .val (.int (1 : Int32)), .val (.int (1 : Int32)), .unset, .unset, .unset] [(.ref b1)])) (fun t k => XS.aload X7.here hx rfl (hb hby at_99) rfl rfl k) ?_
  obtain ⟨v8, T8, h8, L8, e8, X8, hQ8, st8⟩ := own_callV X7 hx hZ (y := (⟨"com/example/verity/verity/SplicedChannel", "position", "()J"⟩ : MethodName)) (z := (⟨"com/example/verity/verity/SplicedChannel", "position", "()J"⟩ : MethodName)) hown (hw _ (List.mem_of_getElem? (i := 57) rfl)) (hw _ (List.mem_of_getElem? (i := 58) rfl)) (notFace_of_selects (args := #[]) (mvT hZ (hw _ (List.mem_of_getElem? (i := 60) rfl)))) (hw _ (List.mem_of_getElem? (i := 60) rfl)) (hw _ (List.mem_of_getElem? (i := 59) rfl)) (hw _ (List.mem_of_getElem? (i := 2) rfl)) (hw _ (List.mem_of_getElem? (i := 61) rfl)) (by decide) E_b1 (own_rmpg l Z a0 hw b1 h7 y _ _ E_b1 F_parts_b1 F_open_b1 F_size_b1 F_position_b1) (W := 0) (by decide) (by decide) (g := (mkF m 101 #[.val (.long q1), .second, .val (.long q2), .second, .val (.int p1), .val (.ref b1), .val (.int (Int32.ofNat kl)), .val (.ref b3), .val (.long (q1 &&& (9223372036854775807 : Int64))), .second, .val (.long (q2 &&& (9223372036854775807 : Int64))), .second, .val (.int (1 : Int32)), .val (.int (1 : Int32)), .val (.int (1 : Int32)), .unset, .unset, .unset] [(.ref b1)])) rfl (by rw [hml]; rfl) (argsL := []) (rest := []) (lenOf own_pd3 rfl) rfl rfl (by show 2 * 0 + _ ≤ _; exact Nat.le_of_eq rfl) (hb hby at_101) e7 (by decide) (by decide)
  obtain ⟨rfl, rfl, eh8⟩ := hQ8
  have e8 := e8.trans eh8
  rw [List.append_nil] at X8
  refine own_go (U' := T8.setTop (mkF m 104 #[.val (.long q1), .second, .val (.long q2), .second, .val (.int p1), .val (.ref b1), .val (.int (Int32.ofNat kl)), .val (.ref b3), .val (.long (q1 &&& (9223372036854775807 : Int64))), .second, .val (.long (q2 &&& (9223372036854775807 : Int64))), .second, .val (.int (1 : Int32)), .val (.int (1 : Int32)), .val (.int (1 : Int32)), .unset, .unset, .unset] [(.long (q2 &&& (9223372036854775807 : Int64)))])) st8 ?_
  refine own_go (U' := T8.setTop (mkF m 106 #[.val (.long q1), .second, .val (.long q2), .second, .val (.int p1), .val (.ref b1), .val (.int (Int32.ofNat kl)), .val (.ref b3), .val (.long (q1 &&& (9223372036854775807 : Int64))), .second, .val (.long (q2 &&& (9223372036854775807 : Int64))), .second, .val (.int (1 : Int32)), .val (.int (1 : Int32)), .val (.int (1 : Int32)), .unset, .unset, .unset] [(.long (q2 &&& (9223372036854775807 : Int64))), (.long (q2 &&& (9223372036854775807 : Int64)))])) (fun t k => XS.lload X8.here hx rfl (hb hby at_104) rfl k) ?_
  refine own_go (U' := T8.setTop (mkF m 107 #[.val (.long q1), .second, .val (.long q2), .second, .val (.int p1), .val (.ref b1), .val (.int (Int32.ofNat kl)), .val (.ref b3), .val (.long (q1 &&& (9223372036854775807 : Int64))), .second, .val (.long (q2 &&& (9223372036854775807 : Int64))), .second, .val (.int (1 : Int32)), .val (.int (1 : Int32)), .val (.int (1 : Int32)), .unset, .unset, .unset] [(.int (lcmpW (q2 &&& (9223372036854775807 : Int64)) (q2 &&& (9223372036854775807 : Int64))))])) (fun t k => XS.lcmp X8.here hx rfl (hb hby at_106) rfl k) ?_
  refine own_go (U' := T8.setTop (mkF m 110 #[.val (.long q1), .second, .val (.long q2), .second, .val (.int p1), .val (.ref b1), .val (.int (Int32.ofNat kl)), .val (.ref b3), .val (.long (q1 &&& (9223372036854775807 : Int64))), .second, .val (.long (q2 &&& (9223372036854775807 : Int64))), .second, .val (.int (1 : Int32)), .val (.int (1 : Int32)), .val (.int (1 : Int32)), .unset, .unset, .unset] [])) (fun t k => XS.ifNo X8.here hx rfl (hb hby at_107) rfl ((if0 _ _).trans (teq ((lw_eq (q2 &&& (9223372036854775807 : Int64)) (q2 &&& (9223372036854775807 : Int64))).mpr rfl)).2) k) ?_
  refine own_go (U' := T8.setTop (mkF m 111 #[.val (.long q1), .second, .val (.long q2), .second, .val (.int p1), .val (.ref b1), .val (.int (Int32.ofNat kl)), .val (.ref b3), .val (.long (q1 &&& (9223372036854775807 : Int64))), .second, .val (.long (q2 &&& (9223372036854775807 : Int64))), .second, .val (.int (1 : Int32)), .val (.int (1 : Int32)), .val (.int (1 : Int32)), .unset, .unset, .unset] [(.int (1 : Int32))])) (fun t k => XS.iconst X8.here hx rfl (hb hby at_110) k) ?_
  refine own_go (U' := T8.setTop (mkF m 115 #[.val (.long q1), .second, .val (.long q2), .second, .val (.int p1), .val (.ref b1), .val (.int (Int32.ofNat kl)), .val (.ref b3), .val (.long (q1 &&& (9223372036854775807 : Int64))), .second, .val (.long (q2 &&& (9223372036854775807 : Int64))), .second, .val (.int (1 : Int32)), .val (.int (1 : Int32)), .val (.int (1 : Int32)), .unset, .unset, .unset] [(.int (1 : Int32))])) (fun t k => XS.goto X8.here hx rfl (pc0 := 111) (pc' := 115) rfl (hb hby at_111) (by decide) (by decide) k) ?_
  refine own_go (U' := T8.setTop (mkF m 117 #[.val (.long q1), .second, .val (.long q2), .second, .val (.int p1), .val (.ref b1), .val (.int (Int32.ofNat kl)), .val (.ref b3), .val (.long (q1 &&& (9223372036854775807 : Int64))), .second, .val (.long (q2 &&& (9223372036854775807 : Int64))), .second, .val (.int (1 : Int32)), .val (.int (1 : Int32)), .val (.int (1 : Int32)), .val (.int (1 : Int32)), .unset, .unset] [])) (fun t k => XS.istore X8.here hx rfl (hb hby at_115) rfl (l' := #[.val (.long q1), .second, .val (.long q2), .second, .val (.int p1), .val (.ref b1), .val (.int (Int32.ofNat kl)), .val (.ref b3), .val (.long (q1 &&& (9223372036854775807 : Int64))), .second, .val (.long (q2 &&& (9223372036854775807 : Int64))), .second, .val (.int (1 : Int32)), .val (.int (1 : Int32)), .val (.int (1 : Int32)), .val (.int (1 : Int32)), .unset, .unset]) rfl k) ?_
  refine own_go (U' := T8.setTop (mkF m 119 #[.val (.long q1), .second, .val (.long q2), .second, .val (.int p1), .val (.ref b1), .val (.int (Int32.ofNat kl)), .val (.ref b3), .val (.long (q1 &&& (9223372036854775807 : Int64))), .second, .val (.long (q2 &&& (9223372036854775807 : Int64))), .second, .val (.int (1 : Int32)), .val (.int (1 : Int32)), .val (.int (1 : Int32)), .val (.int (1 : Int32)), .unset, .unset] [(.ref b1)])) (fun t k => XS.aload X8.here hx rfl (hb hby at_117) rfl rfl k) ?_
  obtain ⟨v9, T9, h9, L9, e9, X9, hQ9, st9⟩ := own_callV X8 hx hZ (y := (⟨"com/example/verity/verity/SplicedChannel", "size", "()J"⟩ : MethodName)) (z := (⟨"com/example/verity/verity/SplicedChannel", "size", "()J"⟩ : MethodName)) hown (hw _ (List.mem_of_getElem? (i := 62) rfl)) (hw _ (List.mem_of_getElem? (i := 63) rfl)) (notFace_of_selects (args := #[]) (mvT hZ (hw _ (List.mem_of_getElem? (i := 65) rfl)))) (hw _ (List.mem_of_getElem? (i := 65) rfl)) (hw _ (List.mem_of_getElem? (i := 64) rfl)) (hw _ (List.mem_of_getElem? (i := 2) rfl)) (hw _ (List.mem_of_getElem? (i := 66) rfl)) (by decide) E_b1 (own_rmsg l Z a0 hw b1 h7 y _ _ E_b1 F_parts_b1 F_open_b1 F_size_b1 F_position_b1) (W := 0) (by decide) (by decide) (g := (mkF m 119 #[.val (.long q1), .second, .val (.long q2), .second, .val (.int p1), .val (.ref b1), .val (.int (Int32.ofNat kl)), .val (.ref b3), .val (.long (q1 &&& (9223372036854775807 : Int64))), .second, .val (.long (q2 &&& (9223372036854775807 : Int64))), .second, .val (.int (1 : Int32)), .val (.int (1 : Int32)), .val (.int (1 : Int32)), .val (.int (1 : Int32)), .unset, .unset] [(.ref b1)])) rfl (by rw [hml]; rfl) (argsL := []) (rest := []) (lenOf own_pd3 rfl) rfl rfl (by show 2 * 0 + _ ≤ _; exact Nat.le_of_eq rfl) (hb hby at_119) e8 (by decide) (by decide)
  obtain ⟨rfl, rfl, eh9⟩ := hQ9
  have e9 := e9.trans eh9
  rw [List.append_nil] at X9
  refine own_go (U' := T9.setTop (mkF m 122 #[.val (.long q1), .second, .val (.long q2), .second, .val (.int p1), .val (.ref b1), .val (.int (Int32.ofNat kl)), .val (.ref b3), .val (.long (q1 &&& (9223372036854775807 : Int64))), .second, .val (.long (q2 &&& (9223372036854775807 : Int64))), .second, .val (.int (1 : Int32)), .val (.int (1 : Int32)), .val (.int (1 : Int32)), .val (.int (1 : Int32)), .unset, .unset] [(.long (Int32.ofNat kl).toInt64)])) st9 ?_
  refine own_go (U' := T9.setTop (mkF m 124 #[.val (.long q1), .second, .val (.long q2), .second, .val (.int p1), .val (.ref b1), .val (.int (Int32.ofNat kl)), .val (.ref b3), .val (.long (q1 &&& (9223372036854775807 : Int64))), .second, .val (.long (q2 &&& (9223372036854775807 : Int64))), .second, .val (.int (1 : Int32)), .val (.int (1 : Int32)), .val (.int (1 : Int32)), .val (.int (1 : Int32)), .unset, .unset] [(.int (Int32.ofNat kl)), (.long (Int32.ofNat kl).toInt64)])) (fun t k => XS.iload X9.here hx rfl (hb hby at_122) rfl k) ?_
  refine own_go (U' := T9.setTop (mkF m 125 #[.val (.long q1), .second, .val (.long q2), .second, .val (.int p1), .val (.ref b1), .val (.int (Int32.ofNat kl)), .val (.ref b3), .val (.long (q1 &&& (9223372036854775807 : Int64))), .second, .val (.long (q2 &&& (9223372036854775807 : Int64))), .second, .val (.int (1 : Int32)), .val (.int (1 : Int32)), .val (.int (1 : Int32)), .val (.int (1 : Int32)), .unset, .unset] [(.long ((Int32.ofNat kl).toInt64)), (.long (Int32.ofNat kl).toInt64)])) (fun t k => XS.i2l X9.here hx rfl (hb hby at_124) rfl k) ?_
  refine own_go (U' := T9.setTop (mkF m 126 #[.val (.long q1), .second, .val (.long q2), .second, .val (.int p1), .val (.ref b1), .val (.int (Int32.ofNat kl)), .val (.ref b3), .val (.long (q1 &&& (9223372036854775807 : Int64))), .second, .val (.long (q2 &&& (9223372036854775807 : Int64))), .second, .val (.int (1 : Int32)), .val (.int (1 : Int32)), .val (.int (1 : Int32)), .val (.int (1 : Int32)), .unset, .unset] [(.int (lcmpW (Int32.ofNat kl).toInt64 ((Int32.ofNat kl).toInt64)))])) (fun t k => XS.lcmp X9.here hx rfl (hb hby at_125) rfl k) ?_
  refine own_go (U' := T9.setTop (mkF m 129 #[.val (.long q1), .second, .val (.long q2), .second, .val (.int p1), .val (.ref b1), .val (.int (Int32.ofNat kl)), .val (.ref b3), .val (.long (q1 &&& (9223372036854775807 : Int64))), .second, .val (.long (q2 &&& (9223372036854775807 : Int64))), .second, .val (.int (1 : Int32)), .val (.int (1 : Int32)), .val (.int (1 : Int32)), .val (.int (1 : Int32)), .unset, .unset] [])) (fun t k => XS.ifNo X9.here hx rfl (hb hby at_126) rfl ((if0 _ _).trans (teq ((lw_eq (Int32.ofNat kl).toInt64 ((Int32.ofNat kl).toInt64)).mpr rfl)).2) k) ?_
  refine own_go (U' := T9.setTop (mkF m 130 #[.val (.long q1), .second, .val (.long q2), .second, .val (.int p1), .val (.ref b1), .val (.int (Int32.ofNat kl)), .val (.ref b3), .val (.long (q1 &&& (9223372036854775807 : Int64))), .second, .val (.long (q2 &&& (9223372036854775807 : Int64))), .second, .val (.int (1 : Int32)), .val (.int (1 : Int32)), .val (.int (1 : Int32)), .val (.int (1 : Int32)), .unset, .unset] [(.int (1 : Int32))])) (fun t k => XS.iconst X9.here hx rfl (hb hby at_129) k) ?_
  refine own_go (U' := T9.setTop (mkF m 134 #[.val (.long q1), .second, .val (.long q2), .second, .val (.int p1), .val (.ref b1), .val (.int (Int32.ofNat kl)), .val (.ref b3), .val (.long (q1 &&& (9223372036854775807 : Int64))), .second, .val (.long (q2 &&& (9223372036854775807 : Int64))), .second, .val (.int (1 : Int32)), .val (.int (1 : Int32)), .val (.int (1 : Int32)), .val (.int (1 : Int32)), .unset, .unset] [(.int (1 : Int32))])) (fun t k => XS.goto X9.here hx rfl (pc0 := 130) (pc' := 134) rfl (hb hby at_130) (by decide) (by decide) k) ?_
  refine own_go (U' := T9.setTop (mkF m 136 #[.val (.long q1), .second, .val (.long q2), .second, .val (.int p1), .val (.ref b1), .val (.int (Int32.ofNat kl)), .val (.ref b3), .val (.long (q1 &&& (9223372036854775807 : Int64))), .second, .val (.long (q2 &&& (9223372036854775807 : Int64))), .second, .val (.int (1 : Int32)), .val (.int (1 : Int32)), .val (.int (1 : Int32)), .val (.int (1 : Int32)), .val (.int (1 : Int32)), .unset] [])) (fun t k => XS.istore X9.here hx rfl (hb hby at_134) rfl (l' := #[.val (.long q1), .second, .val (.long q2), .second, .val (.int p1), .val (.ref b1), .val (.int (Int32.ofNat kl)), .val (.ref b3), .val (.long (q1 &&& (9223372036854775807 : Int64))), .second, .val (.long (q2 &&& (9223372036854775807 : Int64))), .second, .val (.int (1 : Int32)), .val (.int (1 : Int32)), .val (.int (1 : Int32)), .val (.int (1 : Int32)), .val (.int (1 : Int32)), .unset]) rfl k) ?_
  refine own_go (U' := T9.setTop (mkF m 138 #[.val (.long q1), .second, .val (.long q2), .second, .val (.int p1), .val (.ref b1), .val (.int (Int32.ofNat kl)), .val (.ref b3), .val (.long (q1 &&& (9223372036854775807 : Int64))), .second, .val (.long (q2 &&& (9223372036854775807 : Int64))), .second, .val (.int (1 : Int32)), .val (.int (1 : Int32)), .val (.int (1 : Int32)), .val (.int (1 : Int32)), .val (.int (1 : Int32)), .unset] [(.ref b1)])) (fun t k => XS.aload X9.here hx rfl (hb hby at_136) rfl rfl k) ?_
  obtain ⟨v10, T10, h10, L10, e10, X10, hQ10, st10⟩ := own_callV X9 hx hZ (y := (⟨"com/example/verity/verity/SplicedChannel", "isOpen", "()Z"⟩ : MethodName)) (z := (⟨"com/example/verity/verity/SplicedChannel", "isOpen", "()Z"⟩ : MethodName)) hown (hw _ (List.mem_of_getElem? (i := 67) rfl)) (hw _ (List.mem_of_getElem? (i := 68) rfl)) (notFace_of_selects (args := #[]) (mvT hZ (hw _ (List.mem_of_getElem? (i := 70) rfl)))) (hw _ (List.mem_of_getElem? (i := 70) rfl)) (hw _ (List.mem_of_getElem? (i := 69) rfl)) (hw _ (List.mem_of_getElem? (i := 2) rfl)) (hw _ (List.mem_of_getElem? (i := 71) rfl)) (by decide) E_b1 (own_rmio l Z a0 hw b1 h7 F_open_b1) (W := 0) (by decide) (by decide) (g := (mkF m 138 #[.val (.long q1), .second, .val (.long q2), .second, .val (.int p1), .val (.ref b1), .val (.int (Int32.ofNat kl)), .val (.ref b3), .val (.long (q1 &&& (9223372036854775807 : Int64))), .second, .val (.long (q2 &&& (9223372036854775807 : Int64))), .second, .val (.int (1 : Int32)), .val (.int (1 : Int32)), .val (.int (1 : Int32)), .val (.int (1 : Int32)), .val (.int (1 : Int32)), .unset] [(.ref b1)])) rfl (by rw [hml]; rfl) (argsL := []) (rest := []) (lenOf own_pd4 rfl) rfl rfl (by show 2 * 0 + _ ≤ _; exact Nat.le_of_eq rfl) (hb hby at_138) e9 (by decide) (by decide)
  obtain ⟨rfl, rfl, eh10⟩ := hQ10
  have e10 := e10.trans eh10
  rw [List.append_nil] at X10
  refine own_go (U' := T10.setTop (mkF m 141 #[.val (.long q1), .second, .val (.long q2), .second, .val (.int p1), .val (.ref b1), .val (.int (Int32.ofNat kl)), .val (.ref b3), .val (.long (q1 &&& (9223372036854775807 : Int64))), .second, .val (.long (q2 &&& (9223372036854775807 : Int64))), .second, .val (.int (1 : Int32)), .val (.int (1 : Int32)), .val (.int (1 : Int32)), .val (.int (1 : Int32)), .val (.int (1 : Int32)), .unset] [(.int (1 : Int32))])) st10 ?_
  refine own_go (U' := T10.setTop (mkF m 143 #[.val (.long q1), .second, .val (.long q2), .second, .val (.int p1), .val (.ref b1), .val (.int (Int32.ofNat kl)), .val (.ref b3), .val (.long (q1 &&& (9223372036854775807 : Int64))), .second, .val (.long (q2 &&& (9223372036854775807 : Int64))), .second, .val (.int (1 : Int32)), .val (.int (1 : Int32)), .val (.int (1 : Int32)), .val (.int (1 : Int32)), .val (.int (1 : Int32)), .val (.int (1 : Int32))] [])) (fun t k => XS.istore X10.here hx rfl (hb hby at_141) rfl (l' := #[.val (.long q1), .second, .val (.long q2), .second, .val (.int p1), .val (.ref b1), .val (.int (Int32.ofNat kl)), .val (.ref b3), .val (.long (q1 &&& (9223372036854775807 : Int64))), .second, .val (.long (q2 &&& (9223372036854775807 : Int64))), .second, .val (.int (1 : Int32)), .val (.int (1 : Int32)), .val (.int (1 : Int32)), .val (.int (1 : Int32)), .val (.int (1 : Int32)), .val (.int (1 : Int32))]) rfl k) ?_
  refine own_go (U' := T10.setTop (mkF m 145 #[.val (.long q1), .second, .val (.long q2), .second, .val (.int p1), .val (.ref b1), .val (.int (Int32.ofNat kl)), .val (.ref b3), .val (.long (q1 &&& (9223372036854775807 : Int64))), .second, .val (.long (q2 &&& (9223372036854775807 : Int64))), .second, .val (.int (1 : Int32)), .val (.int (1 : Int32)), .val (.int (1 : Int32)), .val (.int (1 : Int32)), .val (.int (1 : Int32)), .val (.int (1 : Int32))] [(.int (1 : Int32))])) (fun t k => XS.iload X10.here hx rfl (hb hby at_143) rfl k) ?_
  refine own_go (U' := T10.setTop (mkF m 148 #[.val (.long q1), .second, .val (.long q2), .second, .val (.int p1), .val (.ref b1), .val (.int (Int32.ofNat kl)), .val (.ref b3), .val (.long (q1 &&& (9223372036854775807 : Int64))), .second, .val (.long (q2 &&& (9223372036854775807 : Int64))), .second, .val (.int (1 : Int32)), .val (.int (1 : Int32)), .val (.int (1 : Int32)), .val (.int (1 : Int32)), .val (.int (1 : Int32)), .val (.int (1 : Int32))] [])) (fun t k => XS.ifNo X10.here hx rfl (hb hby at_145) rfl ((if0 _ _).trans (feq (by decide)).1) k) ?_
  refine own_go (U' := T10.setTop (mkF m 150 #[.val (.long q1), .second, .val (.long q2), .second, .val (.int p1), .val (.ref b1), .val (.int (Int32.ofNat kl)), .val (.ref b3), .val (.long (q1 &&& (9223372036854775807 : Int64))), .second, .val (.long (q2 &&& (9223372036854775807 : Int64))), .second, .val (.int (1 : Int32)), .val (.int (1 : Int32)), .val (.int (1 : Int32)), .val (.int (1 : Int32)), .val (.int (1 : Int32)), .val (.int (1 : Int32))] [(.int (1 : Int32))])) (fun t k => XS.iload X10.here hx rfl (hb hby at_148) rfl k) ?_
  refine own_go (U' := T10.setTop (mkF m 153 #[.val (.long q1), .second, .val (.long q2), .second, .val (.int p1), .val (.ref b1), .val (.int (Int32.ofNat kl)), .val (.ref b3), .val (.long (q1 &&& (9223372036854775807 : Int64))), .second, .val (.long (q2 &&& (9223372036854775807 : Int64))), .second, .val (.int (1 : Int32)), .val (.int (1 : Int32)), .val (.int (1 : Int32)), .val (.int (1 : Int32)), .val (.int (1 : Int32)), .val (.int (1 : Int32))] [])) (fun t k => XS.ifNo X10.here hx rfl (hb hby at_150) rfl ((if0 _ _).trans (feq (by decide)).1) k) ?_
  refine own_go (U' := T10.setTop (mkF m 155 #[.val (.long q1), .second, .val (.long q2), .second, .val (.int p1), .val (.ref b1), .val (.int (Int32.ofNat kl)), .val (.ref b3), .val (.long (q1 &&& (9223372036854775807 : Int64))), .second, .val (.long (q2 &&& (9223372036854775807 : Int64))), .second, .val (.int (1 : Int32)), .val (.int (1 : Int32)), .val (.int (1 : Int32)), .val (.int (1 : Int32)), .val (.int (1 : Int32)), .val (.int (1 : Int32))] [(.int (1 : Int32))])) (fun t k => XS.iload X10.here hx rfl (hb hby at_153) rfl k) ?_
  refine own_go (U' := T10.setTop (mkF m 158 #[.val (.long q1), .second, .val (.long q2), .second, .val (.int p1), .val (.ref b1), .val (.int (Int32.ofNat kl)), .val (.ref b3), .val (.long (q1 &&& (9223372036854775807 : Int64))), .second, .val (.long (q2 &&& (9223372036854775807 : Int64))), .second, .val (.int (1 : Int32)), .val (.int (1 : Int32)), .val (.int (1 : Int32)), .val (.int (1 : Int32)), .val (.int (1 : Int32)), .val (.int (1 : Int32))] [])) (fun t k => XS.ifNo X10.here hx rfl (hb hby at_155) rfl ((if0 _ _).trans (feq (by decide)).1) k) ?_
  refine own_go (U' := T10.setTop (mkF m 160 #[.val (.long q1), .second, .val (.long q2), .second, .val (.int p1), .val (.ref b1), .val (.int (Int32.ofNat kl)), .val (.ref b3), .val (.long (q1 &&& (9223372036854775807 : Int64))), .second, .val (.long (q2 &&& (9223372036854775807 : Int64))), .second, .val (.int (1 : Int32)), .val (.int (1 : Int32)), .val (.int (1 : Int32)), .val (.int (1 : Int32)), .val (.int (1 : Int32)), .val (.int (1 : Int32))] [(.int (1 : Int32))])) (fun t k => XS.iload X10.here hx rfl (hb hby at_158) rfl k) ?_
  refine own_go (U' := T10.setTop (mkF m 163 #[.val (.long q1), .second, .val (.long q2), .second, .val (.int p1), .val (.ref b1), .val (.int (Int32.ofNat kl)), .val (.ref b3), .val (.long (q1 &&& (9223372036854775807 : Int64))), .second, .val (.long (q2 &&& (9223372036854775807 : Int64))), .second, .val (.int (1 : Int32)), .val (.int (1 : Int32)), .val (.int (1 : Int32)), .val (.int (1 : Int32)), .val (.int (1 : Int32)), .val (.int (1 : Int32))] [])) (fun t k => XS.ifNo X10.here hx rfl (hb hby at_160) rfl ((if0 _ _).trans (feq (by decide)).1) k) ?_
  refine own_go (U' := T10.setTop (mkF m 165 #[.val (.long q1), .second, .val (.long q2), .second, .val (.int p1), .val (.ref b1), .val (.int (Int32.ofNat kl)), .val (.ref b3), .val (.long (q1 &&& (9223372036854775807 : Int64))), .second, .val (.long (q2 &&& (9223372036854775807 : Int64))), .second, .val (.int (1 : Int32)), .val (.int (1 : Int32)), .val (.int (1 : Int32)), .val (.int (1 : Int32)), .val (.int (1 : Int32)), .val (.int (1 : Int32))] [(.int (1 : Int32))])) (fun t k => XS.iload X10.here hx rfl (hb hby at_163) rfl k) ?_
  refine own_go (U' := T10.setTop (mkF m 168 #[.val (.long q1), .second, .val (.long q2), .second, .val (.int p1), .val (.ref b1), .val (.int (Int32.ofNat kl)), .val (.ref b3), .val (.long (q1 &&& (9223372036854775807 : Int64))), .second, .val (.long (q2 &&& (9223372036854775807 : Int64))), .second, .val (.int (1 : Int32)), .val (.int (1 : Int32)), .val (.int (1 : Int32)), .val (.int (1 : Int32)), .val (.int (1 : Int32)), .val (.int (1 : Int32))] [])) (fun t k => XS.ifNo X10.here hx rfl (hb hby at_165) rfl ((if0 _ _).trans (feq (by decide)).1) k) ?_
  refine own_go (U' := T10.setTop (mkF m 170 #[.val (.long q1), .second, .val (.long q2), .second, .val (.int p1), .val (.ref b1), .val (.int (Int32.ofNat kl)), .val (.ref b3), .val (.long (q1 &&& (9223372036854775807 : Int64))), .second, .val (.long (q2 &&& (9223372036854775807 : Int64))), .second, .val (.int (1 : Int32)), .val (.int (1 : Int32)), .val (.int (1 : Int32)), .val (.int (1 : Int32)), .val (.int (1 : Int32)), .val (.int (1 : Int32))] [(.int (1 : Int32))])) (fun t k => XS.iload X10.here hx rfl (hb hby at_168) rfl k) ?_
  refine own_go (U' := T10.setTop (mkF m 173 #[.val (.long q1), .second, .val (.long q2), .second, .val (.int p1), .val (.ref b1), .val (.int (Int32.ofNat kl)), .val (.ref b3), .val (.long (q1 &&& (9223372036854775807 : Int64))), .second, .val (.long (q2 &&& (9223372036854775807 : Int64))), .second, .val (.int (1 : Int32)), .val (.int (1 : Int32)), .val (.int (1 : Int32)), .val (.int (1 : Int32)), .val (.int (1 : Int32)), .val (.int (1 : Int32))] [])) (fun t k => XS.ifNo X10.here hx rfl (hb hby at_170) rfl ((if0 _ _).trans (feq (by decide)).1) k) ?_
  refine own_go (U' := T10.setTop (mkF m 174 #[.val (.long q1), .second, .val (.long q2), .second, .val (.int p1), .val (.ref b1), .val (.int (Int32.ofNat kl)), .val (.ref b3), .val (.long (q1 &&& (9223372036854775807 : Int64))), .second, .val (.long (q2 &&& (9223372036854775807 : Int64))), .second, .val (.int (1 : Int32)), .val (.int (1 : Int32)), .val (.int (1 : Int32)), .val (.int (1 : Int32)), .val (.int (1 : Int32)), .val (.int (1 : Int32))] [(.int (1 : Int32))])) (fun t k => XS.iconst X10.here hx rfl (hb hby at_173) k) ?_
  refine own_go (U' := T10.setTop (mkF m 178 #[.val (.long q1), .second, .val (.long q2), .second, .val (.int p1), .val (.ref b1), .val (.int (Int32.ofNat kl)), .val (.ref b3), .val (.long (q1 &&& (9223372036854775807 : Int64))), .second, .val (.long (q2 &&& (9223372036854775807 : Int64))), .second, .val (.int (1 : Int32)), .val (.int (1 : Int32)), .val (.int (1 : Int32)), .val (.int (1 : Int32)), .val (.int (1 : Int32)), .val (.int (1 : Int32))] [(.int (1 : Int32))])) (fun t k => XS.goto X10.here hx rfl (pc0 := 174) (pc' := 178) rfl (hb hby at_174) (by decide) (by decide) k) ?_
  refine own_retN X10 hx (t := .boolean) hret (by simp) hlk (hb hby at_178) ?_ (by decide) (by decide)
  exact ⟨rfl, N7⟩
set_option maxRecDepth 65536 in
set_option maxHeartbeats 40000000 in
theorem comes_1 {Post : Tables → Env → Array Value → State → Outcome → State → Prop} (hpost : ∀ tb e args s v u, (limb_1_1.after args s (.returned v) u = true ∧ limb_1_2.after args s (.returned v) u = true) → FrameEnd s (.returned v) u (Jvm.fieldLocs frame_1_writes args s ++ Jvm.arrayLocs frame_1_arrays args s ++ Jvm.staticLocs frame_1_statics s) 24 128 → Post tb e args s (.returned v) u) :
    ArmFor flags0 classFile x code maxLocals ret World_1 tables_1 room_1 Calls_1 rest_1 Pre_1 Post := by
  intro l hfl _ _ p e ha hc hk s m args below hf hA hF happ hP
  obtain ⟨hcalls, hrest, hpre⟩ := hP
  obtain ⟨-, -, -, hnamed, -, -, -, hat⟩ := (Spec.applies_iff hf).mp happ
  obtain ⟨hg, hn⟩ := and_e (Cond.before_iff.mp (show (Jvm.Cond.and given_1 narrow_1).before args s = true from hpre))
  obtain ⟨hcount, r0⟩ := and_e hg
  obtain ⟨g0, r1⟩ := and_e r0
  obtain ⟨g1, g2⟩ := and_e r1
  obtain ⟨w0, w1, w2, rfl⟩ : ∃ w0 w1 w2 : Value, args = #[w0, w1, w2] := by
    have hs : args.size = 3 := by simpa [Cond.value, given_1] using hcount
    obtain ⟨L⟩ := args
    match L, hs with
    | [w0, w1, w2], _ => exact ⟨w0, w1, w2, rfl⟩
  have hw := fun d (hd : d ∈ tables_1) => atoms_spec (ws := Jvm.Cond.code x code maxLocals ret :: tables_1) hat d (List.mem_cons_of_mem _ hd)
  have hfit : Fit s := fun {y c} hc i hi => by
    obtain ⟨ha, rfl⟩ := Array.getElem?_eq_some_iff.mp hc
    have q := List.all_eq_true.mp ((Array.all_eq_true_iff_forall_mem.mp hF) _ (Array.getElem_mem ha)) i (List.mem_range.mpr hi)
    simpa [Array.getElem?_eq_getElem hi] using q
  obtain ⟨hsets, hown0⟩ := atoms_of _ (rest_1_c_eq ▸ (show rest_1_c.before _ s = true from hrest))
  have hr0 := Cond.before_iff.mp hown0
  obtain ⟨i0, ei0⟩ := isL_v g0
  obtain rfl : w0 = (.long i0) := Option.some.inj ei0
  obtain ⟨i1, ei1⟩ := isL_v g1
  obtain rfl : w1 = (.long i1) := Option.some.inj ei1
  obtain ⟨i2, ei2⟩ := is_v g2
  obtain rfl : w2 = (.int i2) := Option.some.inj ei2
  obtain ⟨dd, evdd⟩ := exa_v (Cond.before_iff.mp (hsets _ (List.mem_of_getElem? (i := 7) rfl)))
  have S_dd := Sta.start evdd (Or.inr ⟨hw _ (List.mem_of_getElem? (i := 11) rfl), hsets _ (List.mem_of_getElem? (i := 2) rfl)⟩)
  obtain ⟨cdd, A_dd, hcdd⟩ := own_len0 evdd (hsets _ (List.mem_of_getElem? (i := 6) rfl)) (hsets _ (List.mem_of_getElem? (i := 8) rfl))
  obtain ⟨n, o, h1, h2, h3, _, L, rfl, ⟨rfl, N⟩, hq⟩ := own_rm0 l s _ hw tables_1 i0 i1 i2 s.heap s.heap.size dd cdd (Old.start s) S_dd A_dd hcdd p e ha hc hk s m _ below hf ((Spec.applies_iff_loose hf).mp happ).1 ⟨rfl, State.Warmed39.refl s, rfl⟩ trivial
  refine ⟨n, _, h1, h2, h3, hpost _ _ _ _ _ _ ⟨Cond.after_iff.mpr rfl, Cond.after_iff.mpr (eq_i res_at (Term.int_eval (1)) rfl)⟩ ⟨hq.1, hq.2.1, (hq.2.2.sift fun y hy => Or.inr (N y hy)).mono (by decide) (by decide)⟩⟩
theorem main_1_1 : Claimed_1_1 := comes_1 fun _ _ _ _ _ _ h hF => ⟨h.1, hF⟩
theorem main_1_2 : Claimed_1_2 := comes_1 fun _ _ _ _ _ _ h hF => ⟨h.2, hF⟩
end Jvm.Pilot.@@N@@
namespace Jvm.Pilot.@@N@@
open Jvm Jvm.ClassFile Sem Op Lib Jvm.Free Jvm.Stand Jvm.Pilot.@@N@@.Jvm.D
/-! MADE BY PROGRAM (witnessworld.py) out of the Statement's table words and the real class files: 22 classes; the members and pool entries that the words name. The judged class is class 1, her method 1. -/
namespace start1
open Jvm.ClassFile
def u (s : String) : CpInfo := .utf8 (stringToUtf16 s)
/-- a pool by its gaps: so many unusable entries, then the entry; so many at the end -/
def gap : Nat → List CpInfo → List CpInfo
  | 0, r => r
  | n + 1, r => .unusable :: gap n r
def poolList (es : List (Nat × CpInfo)) (last : Nat) : List CpInfo := es.foldr (fun e r => gap e.1 (e.2 :: r)) (gap last [])
def pool (es : List (Nat × CpInfo)) (last : Nat) : Array CpInfo := ⟨poolList es last⟩
def fileOf (pool : Array CpInfo) (this : Nat) (attrs : Array Attribute := #[]) (ms : Array MethodInfo := #[]) (fl : Nat := 33) (sup : Nat := 0) (ifs : Array Nat := #[]) (fds : Array FieldInfo := #[]) : ClassFile where
  minorVersion := 0
  majorVersion := 65
  constantPool := pool
  accessFlags := fl
  thisClass := this
  superClass := sup
  interfaces := ifs
  fields := fds
  methods := ms
  attributes := attrs
def plain (name : String) (sup : Option ClassId) : Class where
  name := name
  kind := .ordinary
  loader := none
  accessFlags := 33
  super := sup
  interfaces := #[]
  cf := none
  fields := #[]
  methods := #[]
  instanceTypes := #[]
  staticTypes := #[]
  resolved := #[]
  callSites := []
  init := .initialized
  statics := none
  mirror := none

def pool0 : Array CpInfo := pool [(5, u "<init>"), (0, u "()V"), (1, .class_ 10), (1, u "java/lang/Object")] 113

def k0c0 : Code := { maxStack := 0, maxLocals := 1, code := object_method_1_code, exceptionTable := #[], attributes := #[] }
def k0m0 : Method := { name := "<init>", desc := "()V", sig := { parameters := [], returnType := none }, accessFlags := 1, code := some k0c0 }
/-- java/lang/Object -/
def k0 : Class := { plain "java/lang/Object" none with
  accessFlags := 33
  interfaces := #[]
  cf := some (fileOf pool0 8 #[] #[{ accessFlags := 1, nameIndex := 5, descriptorIndex := 6, attributes := #[] }] 33 0 #[] #[])
  fields := #[]
  methods := #[k0m0]
  instanceTypes := #[]
  staticTypes := #[]
  resolved := Array.replicate 124 none
  statics := none }

def pool1 : Array CpInfo := pool [(2, .class_ 4), (0, .nameAndType 5 6), (0, u "java/lang/Object"), (0, u "<init>"), (0, u "()V"), (0, .class_ 8), (0, u "com/example/verity/verity/SplicedChannel"), (0, .methodref 7 3), (0, .methodref 7 11), (0, .nameAndType 12 13), (0, u "append"), (0, u "([B)V"), (2, .long 9223372036854775807), (1, .methodref 7 19), (0, .nameAndType 20 21), (0, u "position"), (0, u "(J)Ljava/nio/channels/SeekableByteChannel;"), (0, .methodref 7 23), (0, .nameAndType 20 24), (0, u "()J"), (0, .methodref 7 26), (0, .nameAndType 27 24), (0, u "size"), (0, .methodref 7 29), (0, .nameAndType 30 31), (0, u "isOpen"), (0, u "()Z"), (0, .class_ 33), (0, u "com/example/verity/verity/SplicedChannelPositionPinLaw"), (2, u "law"), (0, u "(JJI)Z")] 8

def k1m0 : Method := { name := "<init>", desc := "()V", sig := { parameters := [], returnType := none }, accessFlags := 1, code := none }
def k1c1 : Code := { maxStack := 4, maxLocals := 18, code := code, exceptionTable := #[], attributes := #[] }
def k1m1 : Method := { name := "law", desc := "(JJI)Z", sig := { parameters := [.long, .long, .int], returnType := some .boolean }, accessFlags := 9, code := some k1c1 }
/-- com/example/verity/verity/SplicedChannelPositionPinLaw -/
def k1 : Class := { plain "com/example/verity/verity/SplicedChannelPositionPinLaw" (some 0) with
  accessFlags := 49
  interfaces := #[]
  cf := some (fileOf pool1 32 #[] #[{ accessFlags := 1, nameIndex := 5, descriptorIndex := 6, attributes := #[] }, { accessFlags := 9, nameIndex := 36, descriptorIndex := 37, attributes := #[] }] 49 2 #[] #[])
  fields := #[]
  methods := #[k1m0, k1m1]
  instanceTypes := #[]
  staticTypes := #[]
  resolved := Array.replicate 46 none
  statics := none }

def pool2 : Array CpInfo := pool [(1, u "java/nio/channels/SeekableByteChannel"), (0, .class_ 1), (0, u "java/lang/Object"), (0, .class_ 3)] 0

/-- java/nio/channels/SeekableByteChannel -/
def k2 : Class := { plain "java/nio/channels/SeekableByteChannel" (some 0) with
  accessFlags := 1537
  interfaces := #[]
  cf := some (fileOf pool2 2 #[] #[] 1537 4 #[] #[])
  fields := #[]
  methods := #[]
  instanceTypes := #[]
  staticTypes := #[]
  resolved := Array.replicate 5 none
  statics := none }

def pool3 : Array CpInfo := pool [(1, .methodref 2 3), (0, .class_ 4), (0, .nameAndType 5 6), (0, u "java/lang/Object"), (0, u "<init>"), (0, u "()V"), (0, .class_ 8), (0, u "java/util/ArrayList"), (0, .methodref 7 3), (0, .fieldref 11 12), (0, .class_ 13), (0, .nameAndType 14 15), (0, u "com/example/verity/verity/SplicedChannel"), (0, u "parts"), (0, u "Ljava/util/List;"), (0, .fieldref 11 17), (0, .nameAndType 18 19), (0, u "open"), (0, u "Z"), (1, .class_ 23), (1, u "java/util/List"), (1, u "()Z"), (2, u "size"), (5, .class_ 35), (0, u "com/example/verity/verity/SplicedChannel$Part"), (7, u "()J"), (5, .methodref 34 50), (0, .nameAndType 5 51), (0, u "(JLjava/nio/channels/SeekableByteChannel;J[BJ)V"), (4, .fieldref 11 57), (0, .nameAndType 28 58), (0, u "J"), (0, .interfaceMethodref 21 60), (0, .nameAndType 61 62), (0, u "add"), (0, u "(Ljava/lang/Object;)Z"), (0, .methodref 11 64), (0, .nameAndType 65 6), (0, u "checkOpen"), (0, .fieldref 11 67), (0, .nameAndType 68 58), (0, u "position"), (53, .class_ 123), (0, u "java/nio/channels/SeekableByteChannel"), (4, u "append"), (2, u "([B)V"), (7, u "(J)Ljava/nio/channels/SeekableByteChannel;"), (1, u "isOpen")] 20

def k3c0 : Code := { maxStack := 3, maxLocals := 1, code := prog_48_method_1_code, exceptionTable := #[], attributes := #[] }
def k3m0 : Method := { name := "<init>", desc := "()V", sig := { parameters := [], returnType := none }, accessFlags := 0, code := some k3c0 }
def k3c1 : Code := { maxStack := 11, maxLocals := 2, code := prog_48_method_3_code, exceptionTable := #[], attributes := #[] }
def k3m1 : Method := { name := "append", desc := "([B)V", sig := { parameters := [(.array .byte)], returnType := none }, accessFlags := 0, code := some k3c1 }
def k3c2 : Code := { maxStack := 2, maxLocals := 1, code := prog_48_method_8_code, exceptionTable := #[], attributes := #[] }
def k3m2 : Method := { name := "position", desc := "()J", sig := { parameters := [], returnType := some .long }, accessFlags := 1, code := some k3c2 }
def k3c3 : Code := { maxStack := 4, maxLocals := 3, code := prog_48_method_9_code, exceptionTable := #[], attributes := #[] }
def k3m3 : Method := { name := "position", desc := "(J)Ljava/nio/channels/SeekableByteChannel;", sig := { parameters := [.long], returnType := some (.object "java/nio/channels/SeekableByteChannel") }, accessFlags := 1, code := some k3c3 }
def k3c4 : Code := { maxStack := 2, maxLocals := 1, code := prog_48_method_10_code, exceptionTable := #[], attributes := #[] }
def k3m4 : Method := { name := "size", desc := "()J", sig := { parameters := [], returnType := some .long }, accessFlags := 1, code := some k3c4 }
def k3c5 : Code := { maxStack := 1, maxLocals := 1, code := prog_48_method_12_code, exceptionTable := #[], attributes := #[] }
def k3m5 : Method := { name := "isOpen", desc := "()Z", sig := { parameters := [], returnType := some .boolean }, accessFlags := 1, code := some k3c5 }
def k3c6 : Code := { maxStack := 2, maxLocals := 1, code := prog_48_method_14_code, exceptionTable := #[], attributes := #[] }
def k3m6 : Method := { name := "checkOpen", desc := "()V", sig := { parameters := [], returnType := none }, accessFlags := 2, code := some k3c6 }
/-- com/example/verity/verity/SplicedChannel -/
def k3 : Class := { plain "com/example/verity/verity/SplicedChannel" (some 0) with
  accessFlags := 48
  interfaces := #[2]
  cf := some (fileOf pool3 11 #[.nestMembers #[34]] #[{ accessFlags := 0, nameIndex := 5, descriptorIndex := 6, attributes := #[] }, { accessFlags := 0, nameIndex := 128, descriptorIndex := 131, attributes := #[] }, { accessFlags := 1, nameIndex := 68, descriptorIndex := 43, attributes := #[] }, { accessFlags := 1, nameIndex := 68, descriptorIndex := 139, attributes := #[] }, { accessFlags := 1, nameIndex := 28, descriptorIndex := 43, attributes := #[] }, { accessFlags := 1, nameIndex := 141, descriptorIndex := 25, attributes := #[] }, { accessFlags := 2, nameIndex := 65, descriptorIndex := 6, attributes := #[] }] 48 2 #[122] #[{ accessFlags := 18, nameIndex := 14, descriptorIndex := 15, attributes := #[] }, { accessFlags := 2, nameIndex := 28, descriptorIndex := 58, attributes := #[] }, { accessFlags := 2, nameIndex := 68, descriptorIndex := 58, attributes := #[] }, { accessFlags := 2, nameIndex := 18, descriptorIndex := 19, attributes := #[] }])
  fields := #[{ name := "parts", type := (.object "java/util/List"), accessFlags := 18, slot := 0, constantValue := 0 }, { name := "size", type := .long, accessFlags := 2, slot := 1, constantValue := 0 }, { name := "position", type := .long, accessFlags := 2, slot := 2, constantValue := 0 }, { name := "open", type := .boolean, accessFlags := 2, slot := 3, constantValue := 0 }]
  methods := #[k3m0, k3m1, k3m2, k3m3, k3m4, k3m5, k3m6]
  instanceTypes := #[(.object "java/util/List"), .long, .long, .boolean]
  staticTypes := #[]
  resolved := ((Array.replicate 162 none).setIfInBounds 49 (some (.method ⟨15, 0⟩))).setIfInBounds 34 (some (.cls 15))
  statics := none }

def pool4 : Array CpInfo := pool [(8, .class_ 10), (1, u "java/lang/Iterable"), (24, .class_ 36), (0, u "java/lang/Object")] 25

/-- java/lang/Iterable -/
def k4 : Class := { plain "java/lang/Iterable" (some 0) with
  accessFlags := 1537
  interfaces := #[]
  cf := some (fileOf pool4 8 #[] #[] 1537 35 #[] #[])
  fields := #[]
  methods := #[]
  instanceTypes := #[]
  staticTypes := #[]
  resolved := Array.replicate 62 none
  statics := none }

def pool5 : Array CpInfo := pool [(10, .class_ 12), (1, u "java/util/Collection"), (47, .class_ 61), (0, u "java/lang/Object"), (0, .class_ 63), (0, u "java/lang/Iterable")] 51

/-- java/util/Collection -/
def k5 : Class := { plain "java/util/Collection" (some 0) with
  accessFlags := 1537
  interfaces := #[4]
  cf := some (fileOf pool5 10 #[] #[] 1537 60 #[62] #[])
  fields := #[]
  methods := #[]
  instanceTypes := #[]
  staticTypes := #[]
  resolved := Array.replicate 115 none
  statics := none }

def pool6 : Array CpInfo := pool [(1, .methodref 2 3), (0, .class_ 4), (0, .nameAndType 5 6), (0, u "java/lang/Object"), (0, u "<init>"), (0, u "()V"), (1, .class_ 10), (1, u "java/util/AbstractCollection"), (66, .class_ 78), (0, u "java/util/Collection")] 81

def k6c0 : Code := { maxStack := 1, maxLocals := 1, code := jdk_22_method_1_code, exceptionTable := #[], attributes := #[] }
def k6m0 : Method := { name := "<init>", desc := "()V", sig := { parameters := [], returnType := none }, accessFlags := 4, code := some k6c0 }
/-- java/util/AbstractCollection -/
def k6 : Class := { plain "java/util/AbstractCollection" (some 0) with
  accessFlags := 1057
  interfaces := #[5]
  cf := some (fileOf pool6 8 #[] #[{ accessFlags := 4, nameIndex := 5, descriptorIndex := 6, attributes := #[] }] 1057 2 #[77] #[])
  fields := #[]
  methods := #[k6m0]
  instanceTypes := #[]
  staticTypes := #[]
  resolved := Array.replicate 160 none
  statics := none }

def pool7 : Array CpInfo := pool [(8, .class_ 10), (1, u "java/util/SequencedCollection"), (15, .class_ 27), (0, u "java/lang/Object"), (0, .class_ 29), (0, u "java/util/Collection")] 27

/-- java/util/SequencedCollection -/
def k7 : Class := { plain "java/util/SequencedCollection" (some 0) with
  accessFlags := 1537
  interfaces := #[5]
  cf := some (fileOf pool7 8 #[] #[] 1537 26 #[28] #[])
  fields := #[]
  methods := #[]
  instanceTypes := #[]
  staticTypes := #[]
  resolved := Array.replicate 57 none
  statics := none }

def pool8 : Array CpInfo := pool [(8, .class_ 10), (1, u "java/util/List"), (49, u "add"), (3, u "(Ljava/lang/Object;)Z"), (38, .class_ 104), (0, u "java/lang/Object"), (15, .class_ 121), (0, u "java/util/SequencedCollection")] 129

def k8m0 : Method := { name := "add", desc := "(Ljava/lang/Object;)Z", sig := { parameters := [(.object "java/lang/Object")], returnType := some .boolean }, accessFlags := 1025, code := none }
/-- java/util/List -/
def k8 : Class := { plain "java/util/List" (some 0) with
  accessFlags := 1537
  interfaces := #[7]
  cf := some (fileOf pool8 8 #[] #[{ accessFlags := 1025, nameIndex := 60, descriptorIndex := 64, attributes := #[] }] 1537 103 #[120] #[])
  fields := #[]
  methods := #[k8m0]
  instanceTypes := #[]
  staticTypes := #[]
  resolved := Array.replicate 251 none
  statics := none }

def pool9 : Array CpInfo := pool [(1, .methodref 2 3), (0, .class_ 4), (0, .nameAndType 5 6), (0, u "java/util/AbstractCollection"), (0, u "<init>"), (0, u "()V"), (0, .fieldref 8 9), (0, .class_ 10), (0, .nameAndType 11 12), (0, u "java/util/AbstractList"), (0, u "modCount"), (0, u "I"), (64, .class_ 78), (0, u "java/util/AbstractList$Itr"), (3, .class_ 83), (0, u "java/util/AbstractList$ListItr"), (9, .class_ 94), (0, u "java/util/AbstractList$RandomAccessSubList"), (3, .class_ 99), (0, u "java/util/AbstractList$SubList"), (33, .class_ 134), (0, u "java/util/List"), (73, .class_ 209), (0, u "java/util/AbstractList$SubList$1"), (0, .class_ 211), (0, u "java/util/AbstractList$RandomAccessSpliterator")] 6

def k9c0 : Code := { maxStack := 2, maxLocals := 1, code := jdk_39_method_1_code, exceptionTable := #[], attributes := #[] }
def k9m0 : Method := { name := "<init>", desc := "()V", sig := { parameters := [], returnType := none }, accessFlags := 4, code := some k9c0 }
/-- java/util/AbstractList -/
def k9 : Class := { plain "java/util/AbstractList" (some 6) with
  accessFlags := 1057
  interfaces := #[8]
  cf := some (fileOf pool9 8 #[.nestMembers #[93, 98, 208, 210, 82, 77]] #[{ accessFlags := 4, nameIndex := 5, descriptorIndex := 6, attributes := #[] }] 1057 2 #[133] #[{ accessFlags := 132, nameIndex := 11, descriptorIndex := 12, attributes := #[] }])
  fields := #[{ name := "modCount", type := .int, accessFlags := 132, slot := 0, constantValue := 0 }]
  methods := #[k9m0]
  instanceTypes := #[.int]
  staticTypes := #[]
  resolved := Array.replicate 218 none
  statics := none }

def pool10 : Array CpInfo := pool [(1, .class_ 2), (0, u "java/util/RandomAccess"), (0, .class_ 4), (0, u "java/lang/Object")] 2

/-- java/util/RandomAccess -/
def k10 : Class := { plain "java/util/RandomAccess" (some 0) with
  accessFlags := 1537
  interfaces := #[]
  cf := some (fileOf pool10 1 #[] #[] 1537 3 #[] #[])
  fields := #[]
  methods := #[]
  instanceTypes := #[]
  staticTypes := #[]
  resolved := Array.replicate 7 none
  statics := none }

def pool11 : Array CpInfo := pool [(1, .class_ 2), (0, u "java/lang/Cloneable"), (0, .class_ 4), (0, u "java/lang/Object")] 2

/-- java/lang/Cloneable -/
def k11 : Class := { plain "java/lang/Cloneable" (some 0) with
  accessFlags := 1537
  interfaces := #[]
  cf := some (fileOf pool11 1 #[] #[] 1537 3 #[] #[])
  fields := #[]
  methods := #[]
  instanceTypes := #[]
  staticTypes := #[]
  resolved := Array.replicate 7 none
  statics := none }

def pool12 : Array CpInfo := pool [(1, .class_ 2), (0, u "java/io/Serializable"), (0, .class_ 4), (0, u "java/lang/Object")] 2

/-- java/io/Serializable -/
def k12 : Class := { plain "java/io/Serializable" (some 0) with
  accessFlags := 1537
  interfaces := #[]
  cf := some (fileOf pool12 1 #[] #[] 1537 3 #[] #[])
  fields := #[]
  methods := #[]
  instanceTypes := #[]
  staticTypes := #[]
  resolved := Array.replicate 7 none
  statics := none }

def pool13 : Array CpInfo := pool [(1, .methodref 2 3), (0, .class_ 4), (0, .nameAndType 5 6), (0, u "java/util/AbstractList"), (0, u "<init>"), (0, u "()V"), (0, .class_ 8), (0, u "java/lang/Object"), (0, .fieldref 10 11), (0, .class_ 12), (0, .nameAndType 13 14), (0, u "java/util/ArrayList"), (0, u "elementData"), (0, u "[Ljava/lang/Object;"), (2, u "EMPTY_ELEMENTDATA"), (21, .fieldref 10 40), (0, .nameAndType 41 14), (0, u "DEFAULTCAPACITY_EMPTY_ELEMENTDATA"), (5, u "()[Ljava/lang/Object;"), (0, .fieldref 10 49), (0, .nameAndType 50 51), (0, u "size"), (0, u "I"), (11, .fieldref 10 64), (0, .nameAndType 65 51), (0, u "modCount"), (3, .methodref 10 70), (0, .nameAndType 71 72), (0, u "grow"), (0, u "(I)[Ljava/lang/Object;"), (6, .methodref 80 81), (0, .class_ 82), (0, .nameAndType 83 84), (0, u "java/lang/Math"), (0, u "max"), (0, u "(II)I"), (11, u "(Ljava/lang/Object;)Z"), (32, .methodref 10 130), (0, .nameAndType 71 47), (0, .methodref 10 132), (0, .nameAndType 133 134), (0, u "add"), (0, u "(Ljava/lang/Object;[Ljava/lang/Object;I)V"), (13, .class_ 149), (0, u "java/util/List"), (112, .class_ 263), (0, u "java/util/ArrayList$ListItr"), (3, .class_ 268), (0, u "java/util/ArrayList$Itr"), (7, .class_ 277), (0, u "java/util/ArrayList$SubList"), (12, .class_ 291), (0, u "java/util/ArrayList$ArrayListSpliterator"), (37, .class_ 330), (0, u "java/util/RandomAccess"), (0, .class_ 332), (0, u "java/lang/Cloneable"), (0, .class_ 334), (0, u "java/io/Serializable"), (0, u "serialVersionUID"), (0, u "J"), (3, u "DEFAULT_CAPACITY"), (159, .class_ 501), (0, u "java/util/ArrayList$SubList$2"), (0, .class_ 503), (0, u "java/util/ArrayList$SubList$1")] 5

def k13c0 : Code := { maxStack := 2, maxLocals := 1, code := jdk_38_method_2_code, exceptionTable := #[], attributes := #[] }
def k13m0 : Method := { name := "<init>", desc := "()V", sig := { parameters := [], returnType := none }, accessFlags := 1, code := some k13c0 }
def k13c1 : Code := { maxStack := 4, maxLocals := 4, code := jdk_38_method_6_code, exceptionTable := #[], attributes := #[] }
def k13m1 : Method := { name := "grow", desc := "(I)[Ljava/lang/Object;", sig := { parameters := [.int], returnType := some (.array (.object "java/lang/Object")) }, accessFlags := 2, code := some k13c1 }
def k13c2 : Code := { maxStack := 3, maxLocals := 1, code := jdk_38_method_7_code, exceptionTable := #[], attributes := #[] }
def k13m2 : Method := { name := "grow", desc := "()[Ljava/lang/Object;", sig := { parameters := [], returnType := some (.array (.object "java/lang/Object")) }, accessFlags := 2, code := some k13c2 }
def k13c3 : Code := { maxStack := 3, maxLocals := 4, code := jdk_38_method_24_code, exceptionTable := #[], attributes := #[] }
def k13m3 : Method := { name := "add", desc := "(Ljava/lang/Object;[Ljava/lang/Object;I)V", sig := { parameters := [(.object "java/lang/Object"), (.array (.object "java/lang/Object")), .int], returnType := none }, accessFlags := 2, code := some k13c3 }
def k13c4 : Code := { maxStack := 4, maxLocals := 2, code := jdk_38_method_25_code, exceptionTable := #[], attributes := #[] }
def k13m4 : Method := { name := "add", desc := "(Ljava/lang/Object;)Z", sig := { parameters := [(.object "java/lang/Object")], returnType := some .boolean }, accessFlags := 1, code := some k13c4 }
/-- java/util/ArrayList -/
def k13 : Class := { plain "java/util/ArrayList" (some 9) with
  accessFlags := 33
  interfaces := #[8, 10, 11, 12]
  cf := some (fileOf pool13 10 #[.nestMembers #[290, 276, 500, 502, 262, 267]] #[{ accessFlags := 1, nameIndex := 5, descriptorIndex := 6, attributes := #[] }, { accessFlags := 2, nameIndex := 71, descriptorIndex := 72, attributes := #[] }, { accessFlags := 2, nameIndex := 71, descriptorIndex := 47, attributes := #[] }, { accessFlags := 2, nameIndex := 133, descriptorIndex := 134, attributes := #[] }, { accessFlags := 1, nameIndex := 133, descriptorIndex := 96, attributes := #[] }] 33 2 #[148, 329, 331, 333] #[{ accessFlags := 26, nameIndex := 335, descriptorIndex := 336, attributes := #[] }, { accessFlags := 26, nameIndex := 340, descriptorIndex := 51, attributes := #[] }, { accessFlags := 26, nameIndex := 17, descriptorIndex := 14, attributes := #[] }, { accessFlags := 26, nameIndex := 41, descriptorIndex := 14, attributes := #[] }, { accessFlags := 128, nameIndex := 13, descriptorIndex := 14, attributes := #[] }, { accessFlags := 2, nameIndex := 50, descriptorIndex := 51, attributes := #[] }])
  fields := #[{ name := "serialVersionUID", type := .long, accessFlags := 26, slot := 0, constantValue := 0 }, { name := "DEFAULT_CAPACITY", type := .int, accessFlags := 26, slot := 1, constantValue := 0 }, { name := "EMPTY_ELEMENTDATA", type := (.array (.object "java/lang/Object")), accessFlags := 26, slot := 2, constantValue := 0 }, { name := "DEFAULTCAPACITY_EMPTY_ELEMENTDATA", type := (.array (.object "java/lang/Object")), accessFlags := 26, slot := 3, constantValue := 0 }, { name := "elementData", type := (.array (.object "java/lang/Object")), accessFlags := 128, slot := 1, constantValue := 0 }, { name := "size", type := .int, accessFlags := 2, slot := 2, constantValue := 0 }]
  methods := #[k13m0, k13m1, k13m2, k13m3, k13m4]
  instanceTypes := #[.int, (.array (.object "java/lang/Object")), .int]
  staticTypes := #[.long, .int, (.array (.object "java/lang/Object")), (.array (.object "java/lang/Object"))]
  resolved := Array.replicate 509 none
  statics := some 0 }

def pool14 : Array CpInfo := pool [(1, .methodref 2 3), (0, .class_ 4), (0, .nameAndType 5 6), (0, u "java/lang/Object"), (0, u "<init>"), (0, u "()V"), (0, .class_ 8), (0, u "java/lang/Record")] 13

def k14c0 : Code := { maxStack := 1, maxLocals := 1, code := jdk_30_method_1_code, exceptionTable := #[], attributes := #[] }
def k14m0 : Method := { name := "<init>", desc := "()V", sig := { parameters := [], returnType := none }, accessFlags := 4, code := some k14c0 }
/-- java/lang/Record -/
def k14 : Class := { plain "java/lang/Record" (some 0) with
  accessFlags := 1057
  interfaces := #[]
  cf := some (fileOf pool14 7 #[] #[{ accessFlags := 4, nameIndex := 5, descriptorIndex := 6, attributes := #[] }] 1057 2 #[] #[])
  fields := #[]
  methods := #[k14m0]
  instanceTypes := #[]
  staticTypes := #[]
  resolved := Array.replicate 22 none
  statics := none }

def pool15 : Array CpInfo := pool [(1, .methodref 2 3), (0, .class_ 4), (0, .nameAndType 5 6), (0, u "java/lang/Record"), (0, u "<init>"), (0, u "()V"), (0, .fieldref 8 9), (0, .class_ 10), (0, .nameAndType 11 12), (0, u "com/example/verity/verity/SplicedChannel$Part"), (0, u "start"), (0, u "J"), (0, .fieldref 8 14), (0, .nameAndType 15 16), (0, u "file"), (0, u "Ljava/nio/channels/SeekableByteChannel;"), (0, .fieldref 8 18), (0, .nameAndType 19 12), (0, u "filePosition"), (0, .fieldref 8 21), (0, .nameAndType 22 23), (0, u "bytes"), (0, u "[B"), (0, .fieldref 8 25), (0, .nameAndType 26 12), (0, u "size"), (12, u "(JLjava/nio/channels/SeekableByteChannel;J[BJ)V"), (12, .class_ 53), (0, u "com/example/verity/verity/SplicedChannel")] 23

def k15c0 : Code := { maxStack := 3, maxLocals := 9, code := prog_49_method_1_code, exceptionTable := #[], attributes := #[] }
def k15m0 : Method := { name := "<init>", desc := "(JLjava/nio/channels/SeekableByteChannel;J[BJ)V", sig := { parameters := [.long, (.object "java/nio/channels/SeekableByteChannel"), .long, (.array .byte), .long], returnType := none }, accessFlags := 2, code := some k15c0 }
/-- com/example/verity/verity/SplicedChannel$Part -/
def k15 : Class := { plain "com/example/verity/verity/SplicedChannel$Part" (some 14) with
  accessFlags := 48
  interfaces := #[]
  cf := some (fileOf pool15 8 #[.nestHost 52] #[{ accessFlags := 2, nameIndex := 5, descriptorIndex := 39, attributes := #[] }] 48 2 #[] #[{ accessFlags := 18, nameIndex := 11, descriptorIndex := 12, attributes := #[] }, { accessFlags := 18, nameIndex := 15, descriptorIndex := 16, attributes := #[] }, { accessFlags := 18, nameIndex := 19, descriptorIndex := 12, attributes := #[] }, { accessFlags := 18, nameIndex := 22, descriptorIndex := 23, attributes := #[] }, { accessFlags := 18, nameIndex := 26, descriptorIndex := 12, attributes := #[] }])
  fields := #[{ name := "start", type := .long, accessFlags := 18, slot := 0, constantValue := 0 }, { name := "file", type := (.object "java/nio/channels/SeekableByteChannel"), accessFlags := 18, slot := 1, constantValue := 0 }, { name := "filePosition", type := .long, accessFlags := 18, slot := 2, constantValue := 0 }, { name := "bytes", type := (.array .byte), accessFlags := 18, slot := 3, constantValue := 0 }, { name := "size", type := .long, accessFlags := 18, slot := 4, constantValue := 0 }]
  methods := #[k15m0]
  instanceTypes := #[.long, (.object "java/nio/channels/SeekableByteChannel"), .long, (.array .byte), .long]
  staticTypes := #[]
  resolved := Array.replicate 77 none
  statics := none }

def pool16 : Array CpInfo := pool [(1, .class_ 2), (0, u "java/lang/Math"), (1, .class_ 6), (1, u "java/lang/Object"), (0, u "<init>"), (0, u "()V"), (89, .class_ 100), (1, u "java/lang/Math$RandomNumberGeneratorHolder"), (71, u "negativeZeroFloatBits"), (0, u "J"), (2, u "negativeZeroDoubleBits"), (21, u "max"), (46, u "$assertionsDisabled"), (0, u "Z"), (88, u "(II)I"), (2, u "twoToTheDoubleScaleDown"), (0, u "D"), (4, u "twoToTheDoubleScaleUp"), (9, u "E"), (3, u "PI"), (2, u "TAU"), (2, u "DEGREES_TO_RADIANS"), (0, u "RADIANS_TO_DEGREES")] 94

def k16m0 : Method := { name := "<init>", desc := "()V", sig := { parameters := [], returnType := none }, accessFlags := 2, code := none }
def k16c1 : Code := { maxStack := 2, maxLocals := 2, code := jdk_29_method_65_code, exceptionTable := #[], attributes := #[] }
def k16m1 : Method := { name := "max", desc := "(II)I", sig := { parameters := [.int, .int], returnType := some .int }, accessFlags := 9, code := some k16c1 }
/-- java/lang/Math -/
def k16 : Class := { plain "java/lang/Math" (some 0) with
  accessFlags := 49
  interfaces := #[]
  cf := some (fileOf pool16 1 #[.nestMembers #[98]] #[{ accessFlags := 2, nameIndex := 7, descriptorIndex := 8, attributes := #[] }, { accessFlags := 9, nameIndex := 198, descriptorIndex := 335, attributes := #[] }] 49 4 #[] #[{ accessFlags := 25, nameIndex := 354, descriptorIndex := 339, attributes := #[] }, { accessFlags := 25, nameIndex := 358, descriptorIndex := 339, attributes := #[] }, { accessFlags := 25, nameIndex := 361, descriptorIndex := 339, attributes := #[] }, { accessFlags := 26, nameIndex := 364, descriptorIndex := 339, attributes := #[] }, { accessFlags := 26, nameIndex := 365, descriptorIndex := 339, attributes := #[] }, { accessFlags := 26, nameIndex := 172, descriptorIndex := 173, attributes := #[] }, { accessFlags := 26, nameIndex := 176, descriptorIndex := 173, attributes := #[] }, { accessFlags := 8, nameIndex := 344, descriptorIndex := 339, attributes := #[] }, { accessFlags := 8, nameIndex := 338, descriptorIndex := 339, attributes := #[] }, { accessFlags := 4120, nameIndex := 245, descriptorIndex := 246, attributes := #[] }])
  fields := #[{ name := "E", type := .double, accessFlags := 25, slot := 0, constantValue := 0 }, { name := "PI", type := .double, accessFlags := 25, slot := 1, constantValue := 0 }, { name := "TAU", type := .double, accessFlags := 25, slot := 2, constantValue := 0 }, { name := "DEGREES_TO_RADIANS", type := .double, accessFlags := 26, slot := 3, constantValue := 0 }, { name := "RADIANS_TO_DEGREES", type := .double, accessFlags := 26, slot := 4, constantValue := 0 }, { name := "negativeZeroFloatBits", type := .long, accessFlags := 26, slot := 5, constantValue := 0 }, { name := "negativeZeroDoubleBits", type := .long, accessFlags := 26, slot := 6, constantValue := 0 }, { name := "twoToTheDoubleScaleUp", type := .double, accessFlags := 8, slot := 7, constantValue := 0 }, { name := "twoToTheDoubleScaleDown", type := .double, accessFlags := 8, slot := 8, constantValue := 0 }, { name := "$assertionsDisabled", type := .boolean, accessFlags := 4120, slot := 9, constantValue := 0 }]
  methods := #[k16m0, k16m1]
  instanceTypes := #[]
  staticTypes := #[.double, .double, .double, .double, .double, .long, .long, .double, .double, .boolean]
  resolved := Array.replicate 460 none
  statics := none }

/-- the primitive byte -/
def k17 : Class := { plain "byte" none with kind := .primitive 'B', accessFlags := 0x411 }
/-- [B -/
def k18 : Class := { plain "[B" (some 0) with kind := .array 17 .byte, interfaces := #[11, 12], accessFlags := 1041 }

/-- the primitive int -/
def k19 : Class := { plain "int" none with kind := .primitive 'I', accessFlags := 0x411 }
/-- [I -/
def k20 : Class := { plain "[I" (some 0) with kind := .array 19 .int, interfaces := #[11, 12], accessFlags := 1041 }

/-- [Ljava/lang/Object; -/
def k21 : Class := { plain "[Ljava/lang/Object;" (some 0) with kind := .array 0 (.object "java/lang/Object"), interfaces := #[11, 12], accessFlags := 1041 }

def heap : Heap := #[{ cls := 13, slots := #[.long 0, .int 0, .ref 1, .ref 2], vm := .statics 13 },
  { cls := 21, slots := #[], vm := .none },
  { cls := 21, slots := #[], vm := .none }]
def classes : Array Class := #[k0, k1, k2, k3, k4, k5, k6, k7, k8, k9, k10, k11, k12, k13, k14, k15, k16, k17, k18, k19, k20, k21]
def interned : List (Array UInt16 × Addr) := []
def slotsUsed : Nat := 4
def theMethod : MethodId := ⟨1, 1⟩
def args0 : Array Value := #[.long 5, .long 7, .int 3]
def aboutOver (below : List Frame) : State where
  vm := { classes := classes, interned := interned.toArray }
  heap := heap
  slotsUsed := slotsUsed
  threads := #[{ frames := .invoking theMethod args0 :: below }]
def below0 : List Frame := [.native { method := ⟨0, 0⟩, args := #[] }]
def about1 : State := aboutOver below0
def p0 : Program := .bare "" "" ""
def e0 : Env := launch0.env 0 0 0
theorem w_frames : about1.frames = Frame.invoking theMethod args0 :: below0 := rfl
set_option maxRecDepth 65536 in
theorem w_args : argsFit about1.vm theMethod args0 = true := by decide +kernel
set_option maxRecDepth 65536 in
theorem w_heap : heapFits about1 = true := by decide +kernel
set_option maxRecDepth 65536 in
theorem w_runnable : about1.curStatus? = some .runnable := by decide +kernel
set_option maxRecDepth 65536 in
theorem w_alone : about1.alone = true := by decide +kernel
set_option maxRecDepth 65536 in
theorem w_named : about1.methodNamed? x = some theMethod := by decide +kernel
set_option maxRecDepth 65536 in
theorem w_hears : about1.hears theMethod below0 = true := by decide +kernel
set_option maxRecDepth 65536 in
theorem w_ripe : about1.ripe theMethod args0 below0 = true := by decide +kernel
theorem w_running : about1.status = .running := rfl
set_option maxRecDepth 65536 in
theorem w_room : about1.hasRoom e0.platform room_1 = true :=
  launch0.hasRoom_least _ room_1 (by decide +kernel) (by decide +kernel) (by decide +kernel) (by decide +kernel) (by decide +kernel) (by decide +kernel)
theorem allAtoms_all (ts : List Jvm.Cond) (a : Array Jvm.Value) (st : Jvm.State) : (allAtoms ts).before a st = ts.all (fun c => c.before a st) := by
  induction ts with
  | nil => rfl
  | cons c t ih =>
    show (Jvm.Cond.and c (allAtoms t)).before a st = _
    rw [Jvm.Cond.before_and, ih, List.all_cons]
def words1 : List Jvm.Cond := Jvm.Cond.code x code maxLocals ret :: tables_1
/-- a 'code' word, met by the world's own term for the bytes: nothing is compared byte by byte -/
theorem code_word {y : MethodName} {bytes : ByteArray} {mx : Nat} {rt : Option FieldType} {a : Array Value} {s : State} {m : MethodId} {meth : Method} {c : Code} (h1 : s.methodNamed? y = some m) (h2 : s.vm.method? m = some meth) (h3 : meth.code = some c) (h4 : c.code = bytes)
    (h5 : (c.maxLocals == mx && c.exceptionTable.isEmpty && decide (c.maxStack ≤ mostOperands) && decide (meth.sig.returnType = rt) && !meth.locks && decide (parseMethodDescriptor y.desc = some meth.sig)) = true) : (Jvm.Cond.code y bytes mx rt).before a s = true := by
  simp only [Bool.and_eq_true, beq_iff_eq, Bool.not_eq_true', decide_eq_true_eq] at h5
  obtain ⟨⟨⟨⟨⟨g1, g2⟩, g3⟩, g4⟩, g5⟩, g6⟩ := h5
  simp [Cond.before, Cond.holds, Cond.value, h1, h2, h3, h4, g1, g2, g3, g4, g5, g6]
def isCode : Jvm.Cond → Bool
  | .code _ _ _ _ => true
  | _ => false
theorem all_split {L : List Jvm.Cond} {P : Jvm.Cond → Bool} (h1 : L.all (fun c => isCode c || P c) = true) (h2 : ∀ c ∈ L.filter isCode, P c = true) : L.all P = true := by
  refine List.all_eq_true.mpr fun c hc => ?_
  have h := List.all_eq_true.mp h1 c hc
  rcases Bool.eq_false_or_eq_true (isCode c) with hi | hi
  · exact h2 c (List.mem_filter.mpr ⟨hc, hi⟩)
  · simpa [hi] using h
set_option maxRecDepth 65536 in
theorem w_c0 : (Jvm.Cond.code x code maxLocals ret).before args0 about1 = true := code_word (m := ⟨1, 1⟩) (meth := k1m1) (c := k1c1) (by decide +kernel) rfl rfl rfl (by decide +kernel)
set_option maxRecDepth 65536 in
theorem w_c1 : (Jvm.Cond.code ({ cls := "com/example/verity/verity/SplicedChannel", name := "<init>", desc := "()V" } : Jvm.MethodName) prog_48_method_1_code (1 : Nat) (Option.none : Option Jvm.ClassFile.FieldType)).before args0 about1 = true := code_word (m := ⟨3, 0⟩) (meth := k3m0) (c := k3c0) (by decide +kernel) rfl rfl rfl (by decide +kernel)
set_option maxRecDepth 65536 in
theorem w_c2 : (Jvm.Cond.code ({ cls := "java/lang/Object", name := "<init>", desc := "()V" } : Jvm.MethodName) object_method_1_code (1 : Nat) (Option.none : Option Jvm.ClassFile.FieldType)).before args0 about1 = true := code_word (m := ⟨0, 0⟩) (meth := k0m0) (c := k0c0) (by decide +kernel) rfl rfl rfl (by decide +kernel)
set_option maxRecDepth 65536 in
theorem w_c3 : (Jvm.Cond.code ({ cls := "java/util/ArrayList", name := "<init>", desc := "()V" } : Jvm.MethodName) jdk_38_method_2_code (1 : Nat) (Option.none : Option Jvm.ClassFile.FieldType)).before args0 about1 = true := code_word (m := ⟨13, 0⟩) (meth := k13m0) (c := k13c0) (by decide +kernel) rfl rfl rfl (by decide +kernel)
set_option maxRecDepth 65536 in
theorem w_c4 : (Jvm.Cond.code ({ cls := "java/util/AbstractList", name := "<init>", desc := "()V" } : Jvm.MethodName) jdk_39_method_1_code (1 : Nat) (Option.none : Option Jvm.ClassFile.FieldType)).before args0 about1 = true := code_word (m := ⟨9, 0⟩) (meth := k9m0) (c := k9c0) (by decide +kernel) rfl rfl rfl (by decide +kernel)
set_option maxRecDepth 65536 in
theorem w_c5 : (Jvm.Cond.code ({ cls := "java/util/AbstractCollection", name := "<init>", desc := "()V" } : Jvm.MethodName) jdk_22_method_1_code (1 : Nat) (Option.none : Option Jvm.ClassFile.FieldType)).before args0 about1 = true := code_word (m := ⟨6, 0⟩) (meth := k6m0) (c := k6c0) (by decide +kernel) rfl rfl rfl (by decide +kernel)
set_option maxRecDepth 65536 in
theorem w_c6 : (Jvm.Cond.code ({ cls := "com/example/verity/verity/SplicedChannel", name := "append", desc := "([B)V" } : Jvm.MethodName) prog_48_method_3_code (2 : Nat) (Option.none : Option Jvm.ClassFile.FieldType)).before args0 about1 = true := code_word (m := ⟨3, 1⟩) (meth := k3m1) (c := k3c1) (by decide +kernel) rfl rfl rfl (by decide +kernel)
set_option maxRecDepth 65536 in
theorem w_c7 : (Jvm.Cond.code ({ cls := "com/example/verity/verity/SplicedChannel", name := "position", desc := "(J)Ljava/nio/channels/SeekableByteChannel;" } : Jvm.MethodName) prog_48_method_9_code (3 : Nat) (Option.some (Jvm.ClassFile.FieldType.object "java/nio/channels/SeekableByteChannel"))).before args0 about1 = true := code_word (m := ⟨3, 3⟩) (meth := k3m3) (c := k3c3) (by decide +kernel) rfl rfl rfl (by decide +kernel)
set_option maxRecDepth 65536 in
theorem w_c8 : (Jvm.Cond.code ({ cls := "com/example/verity/verity/SplicedChannel", name := "checkOpen", desc := "()V" } : Jvm.MethodName) prog_48_method_14_code (1 : Nat) (Option.none : Option Jvm.ClassFile.FieldType)).before args0 about1 = true := code_word (m := ⟨3, 6⟩) (meth := k3m6) (c := k3c6) (by decide +kernel) rfl rfl rfl (by decide +kernel)
set_option maxRecDepth 65536 in
theorem w_c9 : (Jvm.Cond.code ({ cls := "com/example/verity/verity/SplicedChannel", name := "position", desc := "()J" } : Jvm.MethodName) prog_48_method_8_code (1 : Nat) (Option.some Jvm.ClassFile.FieldType.long)).before args0 about1 = true := code_word (m := ⟨3, 2⟩) (meth := k3m2) (c := k3c2) (by decide +kernel) rfl rfl rfl (by decide +kernel)
set_option maxRecDepth 65536 in
theorem w_c10 : (Jvm.Cond.code ({ cls := "com/example/verity/verity/SplicedChannel", name := "size", desc := "()J" } : Jvm.MethodName) prog_48_method_10_code (1 : Nat) (Option.some Jvm.ClassFile.FieldType.long)).before args0 about1 = true := code_word (m := ⟨3, 4⟩) (meth := k3m4) (c := k3c4) (by decide +kernel) rfl rfl rfl (by decide +kernel)
set_option maxRecDepth 65536 in
theorem w_c11 : (Jvm.Cond.code ({ cls := "com/example/verity/verity/SplicedChannel", name := "isOpen", desc := "()Z" } : Jvm.MethodName) prog_48_method_12_code (1 : Nat) (Option.some Jvm.ClassFile.FieldType.boolean)).before args0 about1 = true := code_word (m := ⟨3, 5⟩) (meth := k3m5) (c := k3c5) (by decide +kernel) rfl rfl rfl (by decide +kernel)
set_option maxRecDepth 65536 in
theorem w_c12 : (Jvm.Cond.code ({ cls := "com/example/verity/verity/SplicedChannel$Part", name := "<init>", desc := "(JLjava/nio/channels/SeekableByteChannel;J[BJ)V" } : Jvm.MethodName) prog_49_method_1_code (9 : Nat) (Option.none : Option Jvm.ClassFile.FieldType)).before args0 about1 = true := code_word (m := ⟨15, 0⟩) (meth := k15m0) (c := k15c0) (by decide +kernel) rfl rfl rfl (by decide +kernel)
set_option maxRecDepth 65536 in
theorem w_c13 : (Jvm.Cond.code ({ cls := "java/lang/Record", name := "<init>", desc := "()V" } : Jvm.MethodName) jdk_30_method_1_code (1 : Nat) (Option.none : Option Jvm.ClassFile.FieldType)).before args0 about1 = true := code_word (m := ⟨14, 0⟩) (meth := k14m0) (c := k14c0) (by decide +kernel) rfl rfl rfl (by decide +kernel)
set_option maxRecDepth 65536 in
theorem w_c14 : (Jvm.Cond.code ({ cls := "java/util/ArrayList", name := "add", desc := "(Ljava/lang/Object;)Z" } : Jvm.MethodName) jdk_38_method_25_code (2 : Nat) (Option.some Jvm.ClassFile.FieldType.boolean)).before args0 about1 = true := code_word (m := ⟨13, 4⟩) (meth := k13m4) (c := k13c4) (by decide +kernel) rfl rfl rfl (by decide +kernel)
set_option maxRecDepth 65536 in
theorem w_c15 : (Jvm.Cond.code ({ cls := "java/util/ArrayList", name := "add", desc := "(Ljava/lang/Object;[Ljava/lang/Object;I)V" } : Jvm.MethodName) jdk_38_method_24_code (4 : Nat) (Option.none : Option Jvm.ClassFile.FieldType)).before args0 about1 = true := code_word (m := ⟨13, 3⟩) (meth := k13m3) (c := k13c3) (by decide +kernel) rfl rfl rfl (by decide +kernel)
set_option maxRecDepth 65536 in
theorem w_c16 : (Jvm.Cond.code ({ cls := "java/util/ArrayList", name := "grow", desc := "()[Ljava/lang/Object;" } : Jvm.MethodName) jdk_38_method_7_code (1 : Nat) (Option.some (Jvm.ClassFile.FieldType.array (Jvm.ClassFile.FieldType.object "java/lang/Object")))).before args0 about1 = true := code_word (m := ⟨13, 2⟩) (meth := k13m2) (c := k13c2) (by decide +kernel) rfl rfl rfl (by decide +kernel)
set_option maxRecDepth 65536 in
theorem w_c17 : (Jvm.Cond.code ({ cls := "java/util/ArrayList", name := "grow", desc := "(I)[Ljava/lang/Object;" } : Jvm.MethodName) jdk_38_method_6_code (4 : Nat) (Option.some (Jvm.ClassFile.FieldType.array (Jvm.ClassFile.FieldType.object "java/lang/Object")))).before args0 about1 = true := code_word (m := ⟨13, 1⟩) (meth := k13m1) (c := k13c1) (by decide +kernel) rfl rfl rfl (by decide +kernel)
set_option maxRecDepth 65536 in
theorem w_c18 : (Jvm.Cond.code ({ cls := "java/lang/Math", name := "max", desc := "(II)I" } : Jvm.MethodName) jdk_29_method_65_code (2 : Nat) (Option.some Jvm.ClassFile.FieldType.int)).before args0 about1 = true := code_word (m := ⟨16, 1⟩) (meth := k16m1) (c := k16c1) (by decide +kernel) rfl rfl rfl (by decide +kernel)
def codes1 : List Jvm.Cond := [Jvm.Cond.code x code maxLocals ret, Jvm.Cond.code ({ cls := "com/example/verity/verity/SplicedChannel", name := "<init>", desc := "()V" } : Jvm.MethodName) prog_48_method_1_code (1 : Nat) (Option.none : Option Jvm.ClassFile.FieldType), Jvm.Cond.code ({ cls := "java/lang/Object", name := "<init>", desc := "()V" } : Jvm.MethodName) object_method_1_code (1 : Nat) (Option.none : Option Jvm.ClassFile.FieldType), Jvm.Cond.code ({ cls := "java/util/ArrayList", name := "<init>", desc := "()V" } : Jvm.MethodName) jdk_38_method_2_code (1 : Nat) (Option.none : Option Jvm.ClassFile.FieldType), Jvm.Cond.code ({ cls := "java/util/AbstractList", name := "<init>", desc := "()V" } : Jvm.MethodName) jdk_39_method_1_code (1 : Nat) (Option.none : Option Jvm.ClassFile.FieldType), Jvm.Cond.code ({ cls := "java/util/AbstractCollection", name := "<init>", desc := "()V" } : Jvm.MethodName) jdk_22_method_1_code (1 : Nat) (Option.none : Option Jvm.ClassFile.FieldType), Jvm.Cond.code ({ cls := "com/example/verity/verity/SplicedChannel", name := "append", desc := "([B)V" } : Jvm.MethodName) prog_48_method_3_code (2 : Nat) (Option.none : Option Jvm.ClassFile.FieldType), Jvm.Cond.code ({ cls := "com/example/verity/verity/SplicedChannel", name := "position", desc := "(J)Ljava/nio/channels/SeekableByteChannel;" } : Jvm.MethodName) prog_48_method_9_code (3 : Nat) (Option.some (Jvm.ClassFile.FieldType.object "java/nio/channels/SeekableByteChannel")), Jvm.Cond.code ({ cls := "com/example/verity/verity/SplicedChannel", name := "checkOpen", desc := "()V" } : Jvm.MethodName) prog_48_method_14_code (1 : Nat) (Option.none : Option Jvm.ClassFile.FieldType), Jvm.Cond.code ({ cls := "com/example/verity/verity/SplicedChannel", name := "position", desc := "()J" } : Jvm.MethodName) prog_48_method_8_code (1 : Nat) (Option.some Jvm.ClassFile.FieldType.long), Jvm.Cond.code ({ cls := "com/example/verity/verity/SplicedChannel", name := "size", desc := "()J" } : Jvm.MethodName) prog_48_method_10_code (1 : Nat) (Option.some Jvm.ClassFile.FieldType.long), Jvm.Cond.code ({ cls := "com/example/verity/verity/SplicedChannel", name := "isOpen", desc := "()Z" } : Jvm.MethodName) prog_48_method_12_code (1 : Nat) (Option.some Jvm.ClassFile.FieldType.boolean), Jvm.Cond.code ({ cls := "com/example/verity/verity/SplicedChannel$Part", name := "<init>", desc := "(JLjava/nio/channels/SeekableByteChannel;J[BJ)V" } : Jvm.MethodName) prog_49_method_1_code (9 : Nat) (Option.none : Option Jvm.ClassFile.FieldType), Jvm.Cond.code ({ cls := "java/lang/Record", name := "<init>", desc := "()V" } : Jvm.MethodName) jdk_30_method_1_code (1 : Nat) (Option.none : Option Jvm.ClassFile.FieldType), Jvm.Cond.code ({ cls := "java/util/ArrayList", name := "add", desc := "(Ljava/lang/Object;)Z" } : Jvm.MethodName) jdk_38_method_25_code (2 : Nat) (Option.some Jvm.ClassFile.FieldType.boolean), Jvm.Cond.code ({ cls := "java/util/ArrayList", name := "add", desc := "(Ljava/lang/Object;[Ljava/lang/Object;I)V" } : Jvm.MethodName) jdk_38_method_24_code (4 : Nat) (Option.none : Option Jvm.ClassFile.FieldType), Jvm.Cond.code ({ cls := "java/util/ArrayList", name := "grow", desc := "()[Ljava/lang/Object;" } : Jvm.MethodName) jdk_38_method_7_code (1 : Nat) (Option.some (Jvm.ClassFile.FieldType.array (Jvm.ClassFile.FieldType.object "java/lang/Object"))), Jvm.Cond.code ({ cls := "java/util/ArrayList", name := "grow", desc := "(I)[Ljava/lang/Object;" } : Jvm.MethodName) jdk_38_method_6_code (4 : Nat) (Option.some (Jvm.ClassFile.FieldType.array (Jvm.ClassFile.FieldType.object "java/lang/Object"))), Jvm.Cond.code ({ cls := "java/lang/Math", name := "max", desc := "(II)I" } : Jvm.MethodName) jdk_29_method_65_code (2 : Nat) (Option.some Jvm.ClassFile.FieldType.int)]
set_option maxRecDepth 65536 in
theorem codes_eq : words1.filter isCode = codes1 := rfl
theorem w_codes : ∀ c ∈ words1.filter isCode, c.before args0 about1 = true := by
  rw [codes_eq]
  intro c hc
  simp only [codes1, List.mem_cons, List.not_mem_nil, or_false] at hc
  rcases hc with rfl | rfl | rfl | rfl | rfl | rfl | rfl | rfl | rfl | rfl | rfl | rfl | rfl | rfl | rfl | rfl | rfl | rfl | rfl
  · exact w_c0
  · exact w_c1
  · exact w_c2
  · exact w_c3
  · exact w_c4
  · exact w_c5
  · exact w_c6
  · exact w_c7
  · exact w_c8
  · exact w_c9
  · exact w_c10
  · exact w_c11
  · exact w_c12
  · exact w_c13
  · exact w_c14
  · exact w_c15
  · exact w_c16
  · exact w_c17
  · exact w_c18
set_option maxRecDepth 65536 in
theorem w_t1 : (words1.take 24).all (fun c => isCode c || c.before args0 about1) = true := by decide +kernel
set_option maxRecDepth 65536 in
theorem w_t2 : ((words1.drop 24).take 24).all (fun c => isCode c || c.before args0 about1) = true := by decide +kernel
set_option maxRecDepth 65536 in
theorem w_t3 : (((words1.drop 24).drop 24).take 24).all (fun c => isCode c || c.before args0 about1) = true := by decide +kernel
set_option maxRecDepth 65536 in
theorem w_t4 : ((((words1.drop 24).drop 24).drop 24).take 24).all (fun c => isCode c || c.before args0 about1) = true := by decide +kernel
set_option maxRecDepth 65536 in
theorem w_t5 : (((((words1.drop 24).drop 24).drop 24).drop 24).take 24).all (fun c => isCode c || c.before args0 about1) = true := by decide +kernel
set_option maxRecDepth 65536 in
theorem w_t6 : (((((words1.drop 24).drop 24).drop 24).drop 24).drop 24).all (fun c => isCode c || c.before args0 about1) = true := by decide +kernel
theorem w_tables : (allAtoms (Jvm.Cond.code x code maxLocals ret :: tables_1)).before args0 about1 = true := by
  rw [allAtoms_all]
  show words1.all (fun c => c.before args0 about1) = true
  refine all_split ?_ w_codes
  rw [← List.take_append_drop 24 words1, List.all_append, w_t1, ← List.take_append_drop 24 (words1.drop 24), List.all_append, w_t2, ← List.take_append_drop 24 ((words1.drop 24).drop 24), List.all_append, w_t3, ← List.take_append_drop 24 (((words1.drop 24).drop 24).drop 24), List.all_append, w_t4, ← List.take_append_drop 24 ((((words1.drop 24).drop 24).drop 24).drop 24), List.all_append, w_t5, w_t6]
  rfl
set_option maxRecDepth 65536 in
theorem w_rest : rest_1_c.before args0 about1 = true := by decide +kernel
set_option maxRecDepth 65536 in
theorem w_case : (Jvm.Cond.and given_1 narrow_1).before args0 about1 = true := by decide +kernel
theorem w_applies : (headSpec (Jvm.Cond.code x code maxLocals ret :: tables_1) room_1).applies x e0.platform about1 = true :=
  (Spec.applies_iff w_frames).mpr ⟨w_running, w_runnable, w_alone, w_named, w_hears, w_ripe, w_room, w_tables⟩
theorem atStart : AtStart classFile x code maxLocals ret World_1 tables_1 room_1 Calls_1 rest_1 Pre_1 launch0 p0 e0 about1 theMethod args0 below0 :=
  ⟨lists_1, trivial, launch0.admits_env _ _ _, launch0.least_env, fairChoices_fair.cas, fairChoices_fair.clock, w_frames, w_args, w_heap, w_applies, trivial, w_rest, w_case⟩
end start1
theorem witness_1 : WitnessClaimed_1 := ⟨start1.p0, start1.e0, start1.about1, start1.theMethod, start1.args0, start1.below0, start1.atStart⟩
end Jvm.Pilot.@@N@@
