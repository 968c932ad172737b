import JvmDerived
import JvmDerived.Pilot.@@N@@Statement
import JvmDerived.Pilot.@@N@@Code
set_option linter.unusedVariables false
set_option linter.unusedSimpArgs false
namespace Jvm.Pilot.@@N@@
open Jvm Jvm.ClassFile Sem Op Lib Jvm.Free Jvm.Stand Jvm.LawKit Jvm.RoadKit Bundle Jvm.Pilot.@@N@@.Jvm.D
/-! own_: the walk's goal in one piece (from this state on the body returns, and what it leaves says Q), its steps, its ends, its calls -/
theorem own_succ (k : Nat) : Int32.ofNat (k + 1) = Int32.ofNat k + 1 := (Int32.ofNat_succ k).symm
theorem own_catR {v : Value} (h : v.isRef = true) : v.category = 1 := by rcases ref_cases h with rfl | ⟨a, rfl⟩ <;> rfl
theorem own_narR {v : Value} {t : FieldType} (h : v.isRef = true) : narrow t v = v := by rcases ref_cases h with rfl | ⟨a, rfl⟩ <;> cases t <;> rfl
theorem own_fitR {v : Value} {t : FieldType} (h : v.isRef = true) (ht : t.isReference = true) : fits t v = true := by rcases ref_cases h with rfl | ⟨a, rfl⟩ <;> cases t <;> first | rfl | cases ht
section OwnKit
variable {p : Program} {l : Launch} {e : Env} {R : Room} {s : State} {m : MethodId} {args : Array Value} {below : List Frame} {meth : Method} {c : Code} {T : State} {locs : List Loc} {cells slots : Nat} {Z : State} {a0 : Array Value} {h : Heap}
def own_Fin (p : Program) (e : Env) (below : List Frame) (s : State) (Q : Option Value → Heap → List Loc → Prop) (k n : Nat) (U : State) : Prop :=
  ∃ (s₂ : State) (o : Outcome), Steps p.tables e below U s₂ ∧ s₂.status = .running ∧ Ended s₂ below o ∧ ∃ v L, o = .returned v ∧ Q v s₂.heap L ∧ FrameEnd s o s₂ L k n
variable {Q : Option Value → Heap → List Loc → Prop} {k n : Nat}
theorem own_go {U U' : State} (st : ∀ t, Steps p.tables e below U' t → Steps p.tables e below U t) (F : own_Fin p e below s Q k n U') : own_Fin p e below s Q k n U := by
  obtain ⟨s2, o, h1, h2⟩ := F
  exact ⟨s2, o, st _ h1, h2⟩
theorem own_ret (X : Stand p l e R s m args below meth c T locs cells slots) (hx : p.tables.exec = Jvm.exec) {t : FieldType} (hret : meth.sig.returnType = some t) (hlk : meth.locks = false) {pc : Nat} {Ls : Array Slot} {w : Value} {i : Instr} {rest : List Value} (hn : narrow t w = w)
    (hi : (i = .ireturn ∧ (t = .int ∨ t = .boolean ∨ t = .byte ∨ t = .char ∨ t = .short) ∧ ∃ z, w = .int z) ∨ (i = .lreturn ∧ t = .long ∧ ∃ z, w = .long z) ∨ (i = .dreturn ∧ t = .double ∧ ∃ z, w = .double z) ∨ (i = .freturn ∧ t = .float ∧ ∃ z, w = .float z) ∨ (i = .areturn ∧ t.isReference = true ∧ w.isRef = true))
    (hd : decode c.code pc = .ok (i, 1)) (hQ : Q (some w) T.heap locs) (hc : cells ≤ k) (hs : slots ≤ n) : own_Fin p e below s Q k n (T.setTop (mkF m pc Ls (w :: rest))) := by
  obtain ⟨fs, hr, hrun, hended, hW, hsame⟩ := X.leave (v := some w) (fun h => by rw [hret] at h; cases h) hlk
  exact ⟨_, _, retOut X hx hret hn hi hd hr, hrun, hended, _, _, rfl, hQ, ⟨_, rfl⟩, hW, hsame.mono hc hs⟩
theorem own_retI (X : Stand p l e R s m args below meth c T locs cells slots) (hx : p.tables.exec = Jvm.exec) (hret : meth.sig.returnType = some .int) (hlk : meth.locks = false) {pc : Nat} {Ls : Array Slot} {z : Int32} {rest : List Value}
    (hd : decode c.code pc = .ok (.ireturn, 1)) (hQ : Q (some (.int z)) T.heap locs) (hc : cells ≤ k) (hs : slots ≤ n) : own_Fin p e below s Q k n (T.setTop (mkF m pc Ls (.int z :: rest))) :=
  own_ret X hx hret hlk rfl (Or.inl ⟨rfl, Or.inl rfl, z, rfl⟩) hd hQ hc hs
theorem own_retN (X : Stand p l e R s m args below meth c T locs cells slots) (hx : p.tables.exec = Jvm.exec) {t : FieldType} (hret : meth.sig.returnType = some t) (ht : t = .boolean ∨ t = .byte ∨ t = .char ∨ t = .short) (hlk : meth.locks = false) {pc : Nat} {Ls : Array Slot} {z : Int32} {rest : List Value}
    (hd : decode c.code pc = .ok (.ireturn, 1)) (hQ : Q (some (.int (nar t z))) T.heap locs) (hc : cells ≤ k) (hs : slots ≤ n) : own_Fin p e below s Q k n (T.setTop (mkF m pc Ls (.int z :: rest))) := by
  obtain ⟨fs, hr, hrun, hended, hW, hsame⟩ := X.leave (v := some (.int (nar t z))) (fun h => by rw [hret] at h; cases h) hlk
  exact ⟨_, _, retN X hx hret ht hd hr, hrun, hended, _, _, rfl, hQ, ⟨_, rfl⟩, hW, hsame.mono hc hs⟩
theorem own_retL (X : Stand p l e R s m args below meth c T locs cells slots) (hx : p.tables.exec = Jvm.exec) (hret : meth.sig.returnType = some .long) (hlk : meth.locks = false) {pc : Nat} {Ls : Array Slot} {z : Int64} {rest : List Value}
    (hd : decode c.code pc = .ok (.lreturn, 1)) (hQ : Q (some (.long z)) T.heap locs) (hc : cells ≤ k) (hs : slots ≤ n) : own_Fin p e below s Q k n (T.setTop (mkF m pc Ls (.long z :: rest))) :=
  own_ret X hx hret hlk rfl (Or.inr (Or.inl ⟨rfl, rfl, z, rfl⟩)) hd hQ hc hs
theorem own_retA (X : Stand p l e R s m args below meth c T locs cells slots) (hx : p.tables.exec = Jvm.exec) {t : FieldType} (hret : meth.sig.returnType = some t) (ht : t.isReference = true) (hlk : meth.locks = false) {pc : Nat} {Ls : Array Slot} {w : Value} {rest : List Value} (hw : w.isRef = true)
    (hd : decode c.code pc = .ok (.areturn, 1)) (hQ : Q (some w) T.heap locs) (hc : cells ≤ k) (hs : slots ≤ n) : own_Fin p e below s Q k n (T.setTop (mkF m pc Ls (w :: rest))) :=
  own_ret X hx hret hlk (by rcases ref_cases hw with rfl | ⟨z, rfl⟩ <;> cases t <;> rfl) (Or.inr (Or.inr (Or.inr (Or.inr ⟨rfl, ht, hw⟩)))) hd hQ hc hs
theorem own_retV (X : Stand p l e R s m args below meth c T locs cells slots) (hx : p.tables.exec = Jvm.exec) (hret : meth.sig.returnType = none) (hlk : meth.locks = false) {pc : Nat} {Ls : Array Slot}
    (hd : decode c.code pc = .ok (.return_, 1)) (hQ : Q none T.heap locs) (hc : cells ≤ k) (hs : slots ≤ n) : own_Fin p e below s Q k n (T.setTop (mkF m pc Ls [])) := by
  obtain ⟨fs, hr, hrun, hended, hW, hsame⟩ := X.leave (v := none) (fun _ => rfl) hlk
  exact ⟨_, _, X.returnOut hx hret hd hr, hrun, hended, _, _, rfl, hQ, ⟨_, rfl⟩, hW, hsame.mono hc hs⟩
/-- a body's contract: called with these arguments at this heap it returns, and what it leaves says Q -/
abbrev own_C (l : Launch) (Z : State) (y : MethodName) (bytes : ByteArray) (maxL : Nat) (ret : Option FieldType) (ws : List Jvm.Cond) (rm : Room) (as' : Array Value) (h0 : Heap) (Q : Option Value → Heap → List Loc → Prop) : Prop :=
  MetFree l y (head1 (Jvm.Cond.code y bytes maxL ret :: ws) rm) (fun a U => a = as' ∧ Z.Warmed39 U.vm ∧ U.heap = h0) (fun _ _ _ _ _ => True) (fun _ U o U' => ∃ v L, o = .returned v ∧ Q v U'.heap L ∧ FrameEnd U o U' L rm.cells rm.slots)
theorem own_body {y : MethodName} {bytes : ByteArray} {maxL : Nat} {ret : Option FieldType} {ws : List Jvm.Cond} {rm : Room} {as' : Array Value} {h0 : Heap} (hpn : plainFor y = true)
    (body : ∀ (p : Program) (e : Env) (s : State) (m : MethodId) (below : List Frame) (meth : Method) (c : Code) (s₁ : State), p.tables.exec = Jvm.exec → c.code = bytes → c.maxLocals = maxL → meth.sig.returnType = ret → meth.locks = false → s.vm.findClass y.cls = some m.cls → meth.name = y.name → Z.Warmed39 s.vm →
      Stand p l e rm s m as' below meth c s₁ [] 0 0 → s₁.heap = h0 → own_Fin p e below s Q rm.cells rm.slots (s₁.setTop (entryFrame m as' maxL))) : own_C l Z y bytes maxL ret ws rm as' h0 Q := by
  refine MetFree.of_bodySF hpn hisR ?_
  intro p e s m args below meth c s₁ Bd hml0 hP hK
  obtain ⟨rfl, hZ, hh⟩ := hP
  exact body p e s m below meth c s₁ Bd.exec Bd.bytes hml0 Bd.returns Bd.notSynchronized (findClass_of_methodNamed Bd.named) (name_of_methodNamed Bd.named Bd.method).1 hZ (Stand.of_body Bd) (by rw [← hh, Bd.state]; rfl)
theorem own_callS (X : Stand p l e R s m args below meth c T locs cells slots) (hx : p.tables.exec = Jvm.exec) (hZ : Z.Warmed39 s.vm) {own : String} {index : Nat} {y : MethodName} {bytes : ByteArray} {maxL : Nat} {ret : Option FieldType} (hown : s.vm.findClass own = some m.cls)
    (w1 : (Cond.methodLink own index y).before a0 Z = true) (w2 : (Cond.static y).before a0 Z = true) (w3 : (Cond.initialized y.cls).before a0 Z = true) (w4 : (Cond.code y bytes maxL ret).before a0 Z = true) (hy : y.cls ≠ "java/lang/invoke/MethodHandle" ∧ y.cls ≠ "java/lang/invoke/VarHandle")
    {rm : Room} {argsL rest : List Value} {as' : Array Value} (hM : own_C l Z y bytes maxL ret [] rm as' h Q) {W : Nat} (hf : rm.frames + 1 ≤ R.frames) (hl : W + (maxL + 11) + rm.locals ≤ R.locals) {g : JFrame} (hg : g.method = m) (hsize : g.locals.size = c.maxLocals)
    (hlen : ∀ sig, parseMethodDescriptor y.desc = some sig → argsL.length = sig.parameters.length) (hstack : g.stack = argsL.reverse ++ rest) (has : argsL.toArray = as') (hW : 2 * g.monitorRoom + (rest.map fun v => v.category).sum ≤ W) (hdg : decode c.code g.pc = .ok (.invokestatic index, 3)) (eT : T.heap = h)
    (hc : cells + rm.cells ≤ R.cells) (hs : slots + rm.slots ≤ R.slots) :
    ∃ (v : Option Value) (T' : State) (h' : Heap) (L : List Loc), T'.heap = h' ∧ Stand p l e R s m args below meth c T' (locs ++ L) (cells + rm.cells) (slots + rm.slots) ∧ Q v h' L ∧ ∀ target, Steps p.tables e below (T'.setTop { g with pc := g.pc + 3, stack := v.toList ++ rest }) target → Steps p.tables e below (T.setTop g) target := by
  obtain ⟨v, vm, ⟨T', L', k', n'⟩, -, X', ⟨Lc, hQ, l1, y1, z1⟩, st⟩ := Jvm.LawKit.callS X hx (y := y) hown (mvT hZ w1) (mvT hZ w2) (mvT hZ w3) (mvT hZ w4) hy (backOf (W := W) hM hZ w4 w3 hf hl) hg hsize hlen hstack hW hdg (fun _ _ => ⟨has, eT, hc, hs⟩)
  dsimp only [Pt.U, Pt.locs, Pt.cells, Pt.slots] at X' l1 y1 z1 st hQ
  subst l1 y1 z1
  exact ⟨v, T', _, Lc, rfl, X', hQ, st⟩
theorem own_callC (X : Stand p l e R s m args below meth c T locs cells slots) (hx : p.tables.exec = Jvm.exec) (hZ : Z.Warmed39 s.vm) {own : String} {index : Nat} {y : MethodName} {bytes : ByteArray} {maxL : Nat} (hy1 : y.name = "<init>") (hown : s.vm.findClass own = some m.cls)
    (w1 : (Cond.methodLink own index y).before a0 Z = true) (w2 : (Cond.instanceMethod y).before a0 Z = true) (w3 : (Cond.initialized y.cls).before a0 Z = true) (w4 : (Cond.code y bytes maxL none).before a0 Z = true) (hy : y.cls ≠ "java/lang/invoke/MethodHandle" ∧ y.cls ≠ "java/lang/invoke/VarHandle")
    {rm : Room} {a : Addr} {argsL rest : List Value} {as' : Array Value} (hM : own_C l Z y bytes maxL none [] rm as' h Q) {W : Nat} (hf : rm.frames + 1 ≤ R.frames) (hl : W + (maxL + 11) + rm.locals ≤ R.locals) {g : JFrame} (hg : g.method = m) (hsize : g.locals.size = c.maxLocals)
    (hlen : ∀ sig, parseMethodDescriptor y.desc = some sig → argsL.length = sig.parameters.length) (hstack : g.stack = argsL.reverse ++ .ref a :: rest) (has : (.ref a :: argsL).toArray = as') (hW : 2 * g.monitorRoom + (rest.map fun v => v.category).sum ≤ W) (hdg : decode c.code g.pc = .ok (.invokespecial index, 3)) (eT : T.heap = h)
    (hc : cells + rm.cells ≤ R.cells) (hs : slots + rm.slots ≤ R.slots) :
    ∃ (v : Option Value) (T' : State) (h' : Heap) (L : List Loc), T'.heap = h' ∧ Stand p l e R s m args below meth c T' (locs ++ L) (cells + rm.cells) (slots + rm.slots) ∧ Q v h' L ∧ ∀ target, Steps p.tables e below (T'.setTop { g with pc := g.pc + 3, stack := v.toList ++ rest }) target → Steps p.tables e below (T.setTop g) target := by
  obtain ⟨v, vm, ⟨T', L', k', n'⟩, -, X', ⟨Lc, hQ, l1, y1, z1⟩, st⟩ := X.specialBack hx (y := y) hy1 hown (mvT hZ w1) (mvT hZ w2) (mvT hZ w4) hy (backOf (W := W) hM hZ w4 w3 hf hl) hg hsize (Steps.refl _) hlen hstack hW hdg (fun _ _ => ⟨has, eT, hc, hs⟩)
  dsimp only [Pt.U, Pt.locs, Pt.cells, Pt.slots] at X' l1 y1 z1 st hQ
  subst l1 y1 z1
  exact ⟨v, T', _, Lc, rfl, X', hQ, fun _ k => st.trans k⟩
theorem own_callV (X : Stand p l e R s m args below meth c T locs cells slots) (hx : p.tables.exec = Jvm.exec) (hZ : Z.Warmed39 s.vm) {own C : String} {index : Nat} {y z : MethodName} {bytes : ByteArray} {maxL : Nat} {ret : Option FieldType} (hown : s.vm.findClass own = some m.cls)
    (w1 : (Cond.methodLink own index y).before a0 Z = true) (w2 : (Cond.declares y).before a0 Z = true) (hnf : NotFace s y) (w5 : (Cond.selects C y z).before a0 Z = true) (w6 : (Cond.instanceMethod z).before a0 Z = true) (w3 : (Cond.initialized z.cls).before a0 Z = true) (w4 : (Cond.code z bytes maxL ret).before a0 Z = true) (hy : y.cls ≠ "java/lang/invoke/MethodHandle" ∧ y.cls ≠ "java/lang/invoke/VarHandle")
    {rm : Room} {a : Addr} (E : Exa Z h a C) {argsL rest : List Value} {as' : Array Value} (hM : own_C l Z z bytes maxL ret [] rm as' h Q) {W : Nat} (hf : rm.frames + 1 ≤ R.frames) (hl : W + (maxL + 11) + rm.locals ≤ R.locals) {g : JFrame} (hg : g.method = m) (hsize : g.locals.size = c.maxLocals)
    (hlen : ∀ sig, parseMethodDescriptor y.desc = some sig → argsL.length = sig.parameters.length) (hstack : g.stack = argsL.reverse ++ .ref a :: rest) (has : (.ref a :: argsL).toArray = as') (hW : 2 * g.monitorRoom + (rest.map fun v => v.category).sum ≤ W) (hdg : decode c.code g.pc = .ok (.invokevirtual index, 3)) (eT : T.heap = h)
    (hc : cells + rm.cells ≤ R.cells) (hs : slots + rm.slots ≤ R.slots) :
    ∃ (v : Option Value) (T' : State) (h' : Heap) (L : List Loc), T'.heap = h' ∧ Stand p l e R s m args below meth c T' (locs ++ L) (cells + rm.cells) (slots + rm.slots) ∧ Q v h' L ∧ ∀ target, Steps p.tables e below (T'.setTop { g with pc := g.pc + 3, stack := v.toList ++ rest }) target → Steps p.tables e below (T.setTop g) target := by
  obtain ⟨cq, kq, qa, qb, qc⟩ := isOf hZ eT E
  obtain ⟨v, vm, ⟨T', L', k', n'⟩, -, X', ⟨Lc, hQ, l1, y1, z1⟩, st⟩ := X.virtualBack hx (y := y) (z := z) hown (mvT hZ w1) (mvT hZ w2) hnf (mvT hZ w5) (mvT hZ w6) hy (backOf (W := W) hM hZ w4 w3 hf hl) qa qc hg hsize (Steps.refl _) hlen hstack hW hdg (fun _ _ => ⟨has, eT, hc, hs⟩)
  dsimp only [Pt.U, Pt.locs, Pt.cells, Pt.slots] at X' l1 y1 z1 st hQ
  subst l1 y1 z1
  exact ⟨v, T', _, Lc, rfl, X', hQ, fun _ k => st.trans k⟩
theorem own_callI (X : Stand p l e R s m args below meth c T locs cells slots) (hx : p.tables.exec = Jvm.exec) (hZ : Z.Warmed39 s.vm) {own C : String} {index count : Nat} {y z : MethodName} {bytes : ByteArray} {maxL : Nat} {ret : Option FieldType} (hown : s.vm.findClass own = some m.cls)
    (w1 : (Cond.methodLink own index y).before a0 Z = true) (w2 : (Cond.declares y).before a0 Z = true) (w7 : (Cond.interfaceMethod y.cls y.cls y.name y.desc).before args s = true) (w5 : (Cond.selects C y z).before a0 Z = true) (w6 : (Cond.instanceMethod z).before a0 Z = true) (w8 : (Cond.publicMethod z).before a0 Z = true)
    (w9 : (Cond.unhidden C y.name y.desc).before a0 Z = true) (w10 : (Cond.castable C y.cls).before a0 Z = true) (w3 : (Cond.initialized z.cls).before a0 Z = true) (w4 : (Cond.code z bytes maxL ret).before a0 Z = true) (hy : y.cls ≠ "java/lang/invoke/MethodHandle" ∧ y.cls ≠ "java/lang/invoke/VarHandle")
    {rm : Room} {a : Addr} (E : Exa Z h a C) {argsL rest : List Value} {as' : Array Value} (hM : own_C l Z z bytes maxL ret [] rm as' h Q) {W : Nat} (hf : rm.frames + 1 ≤ R.frames) (hl : W + (maxL + 11) + rm.locals ≤ R.locals) {g : JFrame} (hg : g.method = m) (hsize : g.locals.size = c.maxLocals)
    (hlen : ∀ sig, parseMethodDescriptor y.desc = some sig → argsL.length = sig.parameters.length) (hstack : g.stack = argsL.reverse ++ .ref a :: rest) (has : (.ref a :: argsL).toArray = as') (hW : 2 * g.monitorRoom + (rest.map fun v => v.category).sum ≤ W) (hdg : decode c.code g.pc = .ok (.invokeinterface index count, 5)) (eT : T.heap = h)
    (hc : cells + rm.cells ≤ R.cells) (hs : slots + rm.slots ≤ R.slots) :
    ∃ (v : Option Value) (T' : State) (h' : Heap) (L : List Loc), T'.heap = h' ∧ Stand p l e R s m args below meth c T' (locs ++ L) (cells + rm.cells) (slots + rm.slots) ∧ Q v h' L ∧ ∀ target, Steps p.tables e below (T'.setTop { g with pc := g.pc + 5, stack := v.toList ++ rest }) target → Steps p.tables e below (T.setTop g) target := by
  obtain ⟨cq, kq, qa, qb, qc⟩ := isOf hZ eT E
  obtain ⟨v, vm, ⟨T', L', k', n'⟩, -, X', ⟨Lc, hQ, l1, y1, z1⟩, st⟩ := X.interfaceBack hx (xi := y) (y := z) hown (mvT hZ w1) (mvT hZ w2) w7 (mvT hZ w5) (mvT hZ w6) (mvT hZ w8) (mvT hZ w9) (mvT hZ w10) hy (backOf (W := W) hM hZ w4 w3 hf hl) qa qb qc hg hsize (Steps.refl _) hlen hstack hW hdg (fun _ _ => ⟨has, eT, hc, hs⟩)
  dsimp only [Pt.U, Pt.locs, Pt.cells, Pt.slots] at X' l1 y1 z1 st hQ
  subst l1 y1 z1
  exact ⟨v, T', _, Lc, rfl, X', hQ, fun _ k => st.trans k⟩
theorem own_callP (X : Stand p l e R s m args below meth c T locs cells slots) (hx : p.tables.exec = Jvm.exec) (hZ : Z.Warmed39 s.vm) {own C : String} {index : Nat} {y : MethodName} {bytes : ByteArray} {maxL : Nat} {ret : Option FieldType} (hown : s.vm.findClass own = some m.cls)
    (w1 : (Cond.methodLink own index y).before a0 Z = true) (w6 : (Cond.instanceMethod y).before a0 Z = true) (w5 : (Cond.selects y.cls y y).before a0 Z = true) (w7 : (Cond.privateMethod y).before a0 Z = true) (w3 : (Cond.initialized y.cls).before a0 Z = true) (w4 : (Cond.code y bytes maxL ret).before a0 Z = true) (hy : y.cls ≠ "java/lang/invoke/MethodHandle" ∧ y.cls ≠ "java/lang/invoke/VarHandle")
    {rm : Room} {a : Addr} (E : Exa Z h a C) {argsL rest : List Value} {as' : Array Value} (hM : own_C l Z y bytes maxL ret [] rm as' h Q) {W : Nat} (hf : rm.frames + 1 ≤ R.frames) (hl : W + (maxL + 11) + rm.locals ≤ R.locals) {g : JFrame} (hg : g.method = m) (hsize : g.locals.size = c.maxLocals)
    (hlen : ∀ sig, parseMethodDescriptor y.desc = some sig → argsL.length = sig.parameters.length) (hstack : g.stack = argsL.reverse ++ .ref a :: rest) (has : (.ref a :: argsL).toArray = as') (hW : 2 * g.monitorRoom + (rest.map fun v => v.category).sum ≤ W) (hdg : decode c.code g.pc = .ok (.invokevirtual index, 3)) (eT : T.heap = h)
    (hc : cells + rm.cells ≤ R.cells) (hs : slots + rm.slots ≤ R.slots) :
    ∃ (v : Option Value) (T' : State) (h' : Heap) (L : List Loc), T'.heap = h' ∧ Stand p l e R s m args below meth c T' (locs ++ L) (cells + rm.cells) (slots + rm.slots) ∧ Q v h' L ∧ ∀ target, Steps p.tables e below (T'.setTop { g with pc := g.pc + 3, stack := v.toList ++ rest }) target → Steps p.tables e below (T.setTop g) target := by
  obtain ⟨cq, q, q'⟩ := E.cell
  obtain ⟨v, vm, ⟨T', L', k', n'⟩, -, X', ⟨Lc, hQ, l1, y1, z1⟩, st⟩ := X.privateBack hx (y := y) hown (mvT hZ w1) (mvT hZ w6) (mvT hZ w5) (Cond.privateMethod_at (mvP hZ w7 (args := #[]))) (mvT hZ w4) hy (backOf (W := W) hM hZ w4 w3 hf hl) hg hsize (Steps.refl _) (a := a) (by rw [eT]; exact q) q' hlen hstack hW hdg (fun _ _ => ⟨has, eT, hc, hs⟩)
  dsimp only [Pt.U, Pt.locs, Pt.cells, Pt.slots] at X' l1 y1 z1 st hQ
  subst l1 y1 z1
  exact ⟨v, T', _, Lc, rfl, X', hQ, fun _ k => st.trans k⟩
theorem own_lremM {g : JFrame} {target : State} (X : Stand p l e R s m args below meth c T locs cells slots) (hx : p.tables.exec = Jvm.exec) (hg : g.method = m) {x y : Int64} {rest : List Value} (hd : decode c.code g.pc = .ok (.lrem, 1)) (hs : g.stack = .long y :: .long x :: rest) (hy : y ≠ 0)
    (hr : Steps p.tables e below (T.setTop { g with pc := g.pc + 1, stack := .long (x % y) :: rest }) target) : Steps p.tables e below (T.setTop g) target :=
  XS.lrem X.here hx hg hd hs hy (by rw [lrem_mod]; exact hr)
theorem own_mono (X : Stand p l e R s m args below meth c T locs cells slots) {cells' slots' : Nat} (hc : cells ≤ cells') (hs : slots ≤ slots') : Stand p l e R s m args below meth c T locs cells' slots' :=
  ⟨X.admits, X.cas, X.clock, X.frames, X.room, X.hears, X.method, X.code, X.here, X.tail, X.warmed, X.limits, X.bytes, X.same.mono hc hs⟩
end OwnKit
section OwnArr
variable {Z : State} {h h' : Heap} {a b : Addr} {k : ClassId} {ty : FieldType} {vs : List Value} {v : Value} {sl : Nat} {wl : List Addr}
/-- the array at a holds just these values -/
def own_Ar (Z : State) (h : Heap) (a : Addr) (k : ClassId) (ty : FieldType) (vs : List Value) : Prop := ∃ c : Cell, Arr Z h a c ty ∧ c.cls = k ∧ c.slots = vs.toArray ∧ vs.length < 2 ^ 31 ∧ ∀ v ∈ vs, fits ty v = true
theorem own_Ar.lt (F : own_Ar Z h a k ty vs) : a < h.size := by obtain ⟨c, A, -⟩ := F; exact A.lt
theorem own_Ar.ext (F : own_Ar Z h a k ty vs) (E : Ext h h') : own_Ar Z h' a k ty vs := by obtain ⟨c, A, r⟩ := F; exact ⟨c, A.ext E, r⟩
theorem own_Ar.other (F : own_Ar Z h b k ty vs) (W : Wr h h' a sl v) (q : b ≠ a) : own_Ar Z h' b k ty vs := by obtain ⟨c, A, r⟩ := F; exact ⟨c, A.other W q, r⟩
theorem own_Ar.keep (F : own_Ar Z h a k ty vs) (K : Keep h h' wl) (q : a ∉ wl) : own_Ar Z h' a k ty vs := by obtain ⟨c, A, r⟩ := F; exact ⟨c, ⟨K.2.1 _ _ A.1 q, A.2⟩, r⟩
theorem own_Ar.new {z : Int32} (A : Arr Z h a (newA k ty z) ty) (hf : fits ty (defaultValue ty) = true) : own_Ar Z h a k ty (List.replicate z.toNatClampNeg (defaultValue ty)) := by
  refine ⟨_, A, rfl, by simp [newA], ?_, fun v hv => by rw [List.eq_of_mem_replicate hv]; exact hf⟩
  rw [List.length_replicate]
  have := z.toInt_lt
  rw [Int32.toNatClampNeg]
  omega
theorem own_Ar.set {j : Nat} (F : own_Ar Z h a k ty vs) (W : Wr h h' a j v) (hv : fits ty v = true) : own_Ar Z h' a k ty (vs.set j v) := by
  obtain ⟨c, A, q, s, l, f⟩ := F
  refine ⟨_, A.same W, q, ?_, by rw [List.length_set]; exact l, fun w hw => ?_⟩
  · show c.slots.setIfInBounds j v = _
    rw [s]; simp
  · rcases List.mem_or_eq_of_mem_set hw with hw | rfl
    · exact f w hw
    · exact hv
theorem own_Ar.arv (F : own_Ar Z h a k ty vs) (d : Value) : Arv Z h a k ty (Int32.ofNat vs.length) vs d := by
  obtain ⟨c, A, q, s, l, f⟩ := F
  have hl : (Int32.ofNat vs.length).toNatClampNeg = vs.length := by
    rw [Int32.toNatClampNeg, Int32.toInt_ofNat_of_lt (by omega)]; rfl
  have h0 : ¬ Int32.ofNat vs.length < 0 := by
    rw [Int32.lt_iff_toInt_lt, Int32.toInt_ofNat_of_lt (by omega)]; simp
  refine ⟨c, A, q, by rw [s, hl]; simp, h0, fun i hi => ?_, fun i hi => ?_⟩
  · rw [s] at hi ⊢
    simp only [List.size_toArray] at hi
    simp [List.getD, List.getElem?_eq_getElem hi]
  · rw [s] at hi
    simp only [List.size_toArray] at hi
    simp only [List.getD, List.getElem?_eq_getElem hi, Option.getD_some]
    exact f _ (List.getElem_mem hi)
theorem own_Ar.of_arv {z : Int32} {d : Value} (F : Arv Z h a k ty z vs d) (hl : z.toNatClampNeg = vs.length) : own_Ar Z h a k ty vs := by
  obtain ⟨c, A, q, s, l, H, f⟩ := F
  have hs : c.slots.size = vs.length := s.trans hl
  have e : c.slots = vs.toArray := by
    apply Array.ext_getElem?
    intro i
    by_cases hi : i < c.slots.size
    · rw [H i hi]
      have hi' : i < vs.length := hs ▸ hi
      simp [List.getD, List.getElem?_eq_getElem hi']
    · rw [Array.getElem?_eq_none (Nat.le_of_not_lt hi), Array.getElem?_eq_none (by simpa [← hs] using Nat.le_of_not_lt hi)]
  refine ⟨c, A, q, e, ?_, fun v hv => ?_⟩
  · rw [← hl]; have := z.toInt_lt; rw [Int32.toNatClampNeg]; omega
  · obtain ⟨i, hi, rfl⟩ := List.mem_iff_getElem.mp hv
    have := f i (hs ▸ hi)
    simpa [List.getD, List.getElem?_eq_getElem hi] using this
end OwnArr
section OwnArrSteps
variable {p : Program} {l : Launch} {e : Env} {R : Room} {s : State} {m : MethodId} {args : Array Value} {below : List Frame} {meth : Method} {c : Code} {T : State} {locs : List Loc} {cells slots : Nat} {Z : State} {a0 : Array Value} {h : Heap} {a : Addr} {k : ClassId} {ty : FieldType} {vs : List Value} {v : Value}
theorem own_inb {c : Cell} {vs : List Value} {j : Int32} (hs : c.slots = vs.toArray) (h0 : ¬ j < 0) (hj : j.toNatClampNeg < vs.length) : ¬ (j < 0 ∨ c.slots.size ≤ j.toNatClampNeg) := by
  rw [hs]; rintro (q | q)
  · exact h0 q
  · simp only [List.size_toArray] at q; omega
theorem own_arrlen (X : Stand p l e R s m args below meth c T locs cells slots) (hx : p.tables.exec = Jvm.exec) (hZ : Z.Warmed39 s.vm) (eT : T.heap = h) (F : own_Ar Z h a k ty vs) {n : Int32} (hn : Int32.ofNat vs.length = n) {g : JFrame} (hg : g.method = m) {rest : List Value} (hs : g.stack = .ref a :: rest) (hd : decode c.code g.pc = .ok (.arraylength, 1)) :
    ∀ target, Steps p.tables e below (T.setTop { g with pc := g.pc + 1, stack := .int n :: rest }) target → Steps p.tables e below (T.setTop g) target := by
  obtain ⟨cl, A, q, sz, ln, f⟩ := F
  intro t kk
  refine X.arraylength hx (by rw [eT]; exact A.1) (State.isArrayOf_alike hZ.alike A.2.1) hg hs hd t ?_
  have : cl.slots.size.toInt32 = n := by rw [sz, ← hn]; rfl
  rw [this]; exact kk
theorem own_iaload (X : Stand p l e R s m args below meth c T locs cells slots) (hx : p.tables.exec = Jvm.exec) (hZ : Z.Warmed39 s.vm) (eT : T.heap = h) (F : own_Ar Z h a k .int vs) {j : Int32} (h0 : ¬ j < 0) {i : Nat} (hj : j.toNatClampNeg = i) (hv : vs[i]? = some v) {g : JFrame} (hg : g.method = m) {rest : List Value} (hs : g.stack = .int j :: .ref a :: rest) (hd : decode c.code g.pc = .ok (.iaload, 1)) :
    ∀ target, Steps p.tables e below (T.setTop { g with pc := g.pc + 1, stack := v :: rest }) target → Steps p.tables e below (T.setTop g) target := by
  obtain ⟨cl, A, q, sz, ln, f⟩ := F
  subst hj
  exact X.iaload hx (by rw [eT]; exact A.1) (State.isArrayOf_alike hZ.alike A.2.1) A.2.2 (own_inb sz h0 (List.getElem?_eq_some_iff.mp hv).1) (by rw [sz]; simpa using hv) hg hs hd
theorem own_laload (X : Stand p l e R s m args below meth c T locs cells slots) (hx : p.tables.exec = Jvm.exec) (hZ : Z.Warmed39 s.vm) (eT : T.heap = h) (F : own_Ar Z h a k .long vs) {j : Int32} (h0 : ¬ j < 0) {i : Nat} (hj : j.toNatClampNeg = i) (hv : vs[i]? = some v) {g : JFrame} (hg : g.method = m) {rest : List Value} (hs : g.stack = .int j :: .ref a :: rest) (hd : decode c.code g.pc = .ok (.laload, 1)) :
    ∀ target, Steps p.tables e below (T.setTop { g with pc := g.pc + 1, stack := v :: rest }) target → Steps p.tables e below (T.setTop g) target := by
  obtain ⟨cl, A, q, sz, ln, f⟩ := F
  subst hj
  exact X.laload hx (by rw [eT]; exact A.1) (State.isArrayOf_alike hZ.alike A.2.1) A.2.2 (own_inb sz h0 (List.getElem?_eq_some_iff.mp hv).1) (by rw [sz]; simpa using hv) hg hs hd
theorem own_baload (X : Stand p l e R s m args below meth c T locs cells slots) (hx : p.tables.exec = Jvm.exec) (hZ : Z.Warmed39 s.vm) (eT : T.heap = h) (F : own_Ar Z h a k .byte vs) {j : Int32} (h0 : ¬ j < 0) {i : Nat} (hj : j.toNatClampNeg = i) (hv : vs[i]? = some v) {g : JFrame} (hg : g.method = m) {rest : List Value} (hs : g.stack = .int j :: .ref a :: rest) (hd : decode c.code g.pc = .ok (.baload, 1)) :
    ∀ target, Steps p.tables e below (T.setTop { g with pc := g.pc + 1, stack := v :: rest }) target → Steps p.tables e below (T.setTop g) target := by
  obtain ⟨cl, A, q, sz, ln, f⟩ := F
  subst hj
  exact X.baloadBytes hx (by rw [eT]; exact A.1) (State.isArrayOf_alike hZ.alike A.2.1) A.2.2 (own_inb sz h0 (List.getElem?_eq_some_iff.mp hv).1) (by rw [sz]; simpa using hv) hg hs hd
theorem own_aaload (X : Stand p l e R s m args below meth c T locs cells slots) (hx : p.tables.exec = Jvm.exec) (hZ : Z.Warmed39 s.vm) (eT : T.heap = h) (F : own_Ar Z h a k ty vs) (hty : ty.isReference = true) {j : Int32} (h0 : ¬ j < 0) {i : Nat} (hj : j.toNatClampNeg = i) (hv : vs[i]? = some v) {g : JFrame} (hg : g.method = m) {rest : List Value} (hs : g.stack = .int j :: .ref a :: rest) (hd : decode c.code g.pc = .ok (.aaload, 1)) :
    ∀ target, Steps p.tables e below (T.setTop { g with pc := g.pc + 1, stack := v :: rest }) target → Steps p.tables e below (T.setTop g) target := by
  obtain ⟨cl, A, q, sz, ln, f⟩ := F
  subst hj
  exact X.aaload hx (by rw [eT]; exact A.1) (State.isArrayOf_alike hZ.alike A.2.1) hty A.2.2 (own_inb sz h0 (List.getElem?_eq_some_iff.mp hv).1) (by rw [sz]; simpa using hv) hg hs hd
theorem own_iastore (X : Stand p l e R s m args below meth c T locs cells slots) (hx : p.tables.exec = Jvm.exec) (hZ : Z.Warmed39 s.vm) (eT : T.heap = h) (F : own_Ar Z h a k .int vs) {j x : Int32} (h0 : ¬ j < 0) {i : Nat} (hj : j.toNatClampNeg = i) (hi : i < vs.length) {g : JFrame} (hg : g.method = m) {rest : List Value} (hs : g.stack = .int x :: .int j :: .ref a :: rest) (hd : decode c.code g.pc = .ok (.iastore, 1)) :
    ∃ T' h', Stand p l e R s m args below meth c T' (locs ++ [⟨a, i⟩]) cells slots ∧ T'.heap = h' ∧ Wr h h' a i (.int x) ∧ own_Ar Z h' a k .int (vs.set i (.int x)) ∧ ∀ target, Steps p.tables e below (T'.setTop { g with pc := g.pc + 1, stack := rest }) target → Steps p.tables e below (T.setTop g) target := by
  have F' := F
  obtain ⟨cl, A, q, sz, ln, f⟩ := F
  subst hj
  obtain ⟨T', h', X', e', W, st⟩ := stI X hx hZ eT A (own_inb sz h0 hi) hg hs hd
  exact ⟨T', h', X', e', W, F'.set W rfl, st⟩
theorem own_lastore (X : Stand p l e R s m args below meth c T locs cells slots) (hx : p.tables.exec = Jvm.exec) (hZ : Z.Warmed39 s.vm) (eT : T.heap = h) (F : own_Ar Z h a k .long vs) {j : Int32} {x : Int64} (h0 : ¬ j < 0) {i : Nat} (hj : j.toNatClampNeg = i) (hi : i < vs.length) {g : JFrame} (hg : g.method = m) {rest : List Value} (hs : g.stack = .long x :: .int j :: .ref a :: rest) (hd : decode c.code g.pc = .ok (.lastore, 1)) :
    ∃ T' h', Stand p l e R s m args below meth c T' (locs ++ [⟨a, i⟩]) cells slots ∧ T'.heap = h' ∧ Wr h h' a i (.long x) ∧ own_Ar Z h' a k .long (vs.set i (.long x)) ∧ ∀ target, Steps p.tables e below (T'.setTop { g with pc := g.pc + 1, stack := rest }) target → Steps p.tables e below (T.setTop g) target := by
  have F' := F
  obtain ⟨cl, A, q, sz, ln, f⟩ := F
  subst hj
  obtain ⟨T', h', X', e', W, st⟩ := stJ X hx hZ eT A (own_inb sz h0 hi) hg hs hd
  exact ⟨T', h', X', e', W, F'.set W rfl, st⟩
theorem own_bastore (X : Stand p l e R s m args below meth c T locs cells slots) (hx : p.tables.exec = Jvm.exec) (hZ : Z.Warmed39 s.vm) (eT : T.heap = h) (F : own_Ar Z h a k .byte vs) {j x : Int32} (h0 : ¬ j < 0) {i : Nat} (hj : j.toNatClampNeg = i) (hi : i < vs.length) {g : JFrame} (hg : g.method = m) {rest : List Value} (hs : g.stack = .int x :: .int j :: .ref a :: rest) (hd : decode c.code g.pc = .ok (.bastore, 1)) :
    ∃ T' h', Stand p l e R s m args below meth c T' (locs ++ [⟨a, i⟩]) cells slots ∧ T'.heap = h' ∧ Wr h h' a i (.int x.toInt8.toInt32) ∧ own_Ar Z h' a k .byte (vs.set i (.int x.toInt8.toInt32)) ∧ ∀ target, Steps p.tables e below (T'.setTop { g with pc := g.pc + 1, stack := rest }) target → Steps p.tables e below (T.setTop g) target := by
  have F' := F
  obtain ⟨cl, A, q, sz, ln, f⟩ := F
  subst hj
  obtain ⟨T', h', X', e', W, st⟩ := stB X hx hZ eT A (own_inb sz h0 hi) hg hs hd
  exact ⟨T', h', X', e', W, F'.set W (fits_nar_byte _), st⟩
theorem own_aastore (X : Stand p l e R s m args below meth c T locs cells slots) (hx : p.tables.exec = Jvm.exec) (hZ : Z.Warmed39 s.vm) (eT : T.heap = h) (F : own_Ar Z h a k ty vs) (hty : ty.isReference = true) (hfv : fits ty v = true) (S : Sto Z h a v) {j : Int32} (h0 : ¬ j < 0) {i : Nat} (hj : j.toNatClampNeg = i) (hi : i < vs.length) {g : JFrame} (hg : g.method = m) {rest : List Value} (hs : g.stack = v :: .int j :: .ref a :: rest) (hd : decode c.code g.pc = .ok (.aastore, 1)) :
    ∃ T' h', Stand p l e R s m args below meth c T' (locs ++ [⟨a, i⟩]) cells slots ∧ T'.heap = h' ∧ Wr h h' a i v ∧ own_Ar Z h' a k ty (vs.set i v) ∧ ∀ target, Steps p.tables e below (T'.setTop { g with pc := g.pc + 1, stack := rest }) target → Steps p.tables e below (T.setTop g) target := by
  have F' := F
  obtain ⟨cl, A, q, sz, ln, f⟩ := F
  subst hj
  obtain ⟨T', h', X', e', W, st⟩ := stR X hx hZ eT A (own_inb sz h0 hi) hty S hg hs hd
  exact ⟨T', h', X', e', W, F'.set W hfv, st⟩
theorem own_newarr (X : Stand p l e R s m args below meth c T locs cells slots) (hx : p.tables.exec = Jvm.exec) (hZ : Z.Warmed39 s.vm) {aty : ArrayType} (w : (Cond.arrayClass (newarray.typeOf aty)).before a0 Z = true) (eT : T.heap = h) {g : JFrame} (hg : g.method = m) (hd : decode c.code g.pc = .ok (.newarray aty, 2)) {n : Int32} {rest : List Value} (hs : g.stack = .int n :: rest)
    (hn : ¬ n < 0) {cap : Nat} (hcap : n.toNatClampNeg ≤ cap) (hb : cap * 8 ≤ 536870912) (hc : cells + 1 ≤ R.cells) (hl : slots + cap ≤ R.slots) {ad : String} (had : "[" ++ (newarray.typeOf aty).toString = ad) (hf : fits (newarray.typeOf aty) (defaultValue (newarray.typeOf aty)) = true) (hvs : List.replicate n.toNatClampNeg (defaultValue (newarray.typeOf aty)) = vs) :
    ∃ T' h' cA, Stand p l e R s m args below meth c T' locs (cells + 1) (slots + cap) ∧ T'.heap = h' ∧ Ext h h' ∧ own_Ar Z h' h.size cA (newarray.typeOf aty) vs ∧ Exa Z h' h.size ad ∧
      ∀ target, Steps p.tables e below (T'.setTop { g with pc := g.pc + 2, stack := .ref h.size :: rest }) target → Steps p.tables e below (T.setTop g) target := by
  obtain ⟨T', h', cA, X', e', E, A, Ex, st⟩ := newPE X hx hZ w eT hg hd hs hn hcap hb hc hl had
  exact ⟨T', h', cA, X', e', E, hvs ▸ own_Ar.new A hf, Ex, st⟩
theorem own_anewarr (X : Stand p l e R s m args below meth c T locs cells slots) (hx : p.tables.exec = Jvm.exec) (hZ : Z.Warmed39 s.vm) {own C : String} {index : Nat} (hown : s.vm.findClass own = some m.cls) (w1 : (Cond.classLink own index C).before a0 Z = true) (w2 : (Cond.arrayOver (.object C)).before a0 Z = true) (eT : T.heap = h) {g : JFrame} (hg : g.method = m) (hd : decode c.code g.pc = .ok (.anewarray index, 3)) {n : Int32} {rest : List Value} (hs : g.stack = .int n :: rest)
    (hn : ¬ n < 0) {cap : Nat} (hcap : n.toNatClampNeg ≤ cap) (hb : cap * 8 ≤ 536870912) (hc : cells + 1 ≤ R.cells) (hl : slots + cap ≤ R.slots) (hvs : List.replicate n.toNatClampNeg Value.null = vs) :
    ∃ T' h' cA, Stand p l e R s m args below meth c T' locs (cells + 1) (slots + cap) ∧ T'.heap = h' ∧ Ext h h' ∧ own_Ar Z h' h.size cA (.object C) vs ∧ Ovr Z cA C ∧
      ∀ target, Steps p.tables e below (T'.setTop { g with pc := g.pc + 3, stack := .ref h.size :: rest }) target → Steps p.tables e below (T.setTop g) target := by
  obtain ⟨T', h', cA, X', e', E, A, O, st⟩ := newR X hx hZ hown w1 w2 eT hg hd hs hn hcap hb hc hl
  exact ⟨T', h', cA, X', e', E, hvs ▸ own_Ar.new A rfl, O, st⟩
theorem own_arrlenA (X : Stand p l e R s m args below meth c T locs cells slots) (hx : p.tables.exec = Jvm.exec) (hZ : Z.Warmed39 s.vm) (eT : T.heap = h) {cl : Cell} (A : Arr Z h a cl ty) {n : Int32} (hn : cl.slots.size.toInt32 = n) {g : JFrame} (hg : g.method = m) {rest : List Value} (hs : g.stack = .ref a :: rest) (hd : decode c.code g.pc = .ok (.arraylength, 1)) :
    ∀ target, Steps p.tables e below (T.setTop { g with pc := g.pc + 1, stack := .int n :: rest }) target → Steps p.tables e below (T.setTop g) target := by
  subst hn
  exact X.arraylength hx (by rw [eT]; exact A.1) (State.isArrayOf_alike hZ.alike A.2.1) hg hs hd
theorem own_len0 {args : Array Value} {s : State} {t : Term} {a : Addr} {n : Int32} {ty : FieldType} (ev : t.eval args s none [] s = some (.ref a)) (h6 : (Cond.arrayOf t ty).before args s = true) (h8 : (Cond.eq (.length t) (.int n)).before args s = true) : ∃ c : Cell, Arr s s.heap a c ty ∧ c.slots.size.toInt32 = n := by
  obtain ⟨c, A⟩ := Arr.start ev (Cond.before_iff.mp h6)
  have h8 := Cond.before_iff.mp h8
  obtain ⟨x, y, e1, -⟩ := cmp_v (Or.inl h8)
  obtain ⟨b, cell, q1, q2, rfl⟩ := Term.length_spec e1
  cases ev.symm.trans q1
  cases (Arr.fin (State.Warmed39.refl s).alike A).symm.trans q2
  exact ⟨_, A, gotT (Cond.eq_ints e1 (Term.int_eval n)) h8⟩
end OwnArrSteps
theorem own_cloneT {p : Program} {l : Launch} {e : Env} {R : Room} {s : State} {m : MethodId} {args : Array Value} {below : List Frame} {meth : Method} {c : Code} {T : State} {locs : List Loc} {cells slots : Nat} {Z : State} {a0 : Array Value} {h : Heap} {a : Addr} {k : ClassId} {vs : List Value} {ty : FieldType} {ad : String}
    (X : Stand p l e R s m args below meth c T locs cells slots) (hx : p.tables.exec = Jvm.exec) (hZ : Z.Warmed39 s.vm) {own : String} {index : Nat} (hown : s.vm.findClass own = some m.cls)
    (w1 : (Cond.methodLink own index ⟨ad, "clone", "()Ljava/lang/Object;"⟩).before a0 Z = true) (w2 : (Cond.sameMethod ad "java/lang/Object" "clone" "()Ljava/lang/Object;").before a0 Z = true) (w3 : (Cond.native ⟨"java/lang/Object", "clone", "()Ljava/lang/Object;"⟩).before a0 Z = true)
    (w4 : (Cond.instanceMethod ⟨"java/lang/Object", "clone", "()Ljava/lang/Object;"⟩).before a0 Z = true) (w5 : (Cond.selects ad ⟨ad, "clone", "()Ljava/lang/Object;"⟩ ⟨"java/lang/Object", "clone", "()Ljava/lang/Object;"⟩).before a0 Z = true) (w6 : (Cond.castable ad "java/lang/Cloneable").before a0 Z = true)
    (eT : T.heap = h) (A : own_Ar Z h a k ty vs) (E : Exa Z h a ad) {g : JFrame} (hg : g.method = m) (hsize : g.locals.size = c.maxLocals) {rest : List Value} (hs : g.stack = .ref a :: rest) (hd : decode c.code g.pc = .ok (.invokevirtual index, 3))
    (hf : 1 ≤ R.frames) {W cap : Nat} (hW : 2 * g.monitorRoom + (rest.map fun v => v.category).sum ≤ W) (hl : W + 14 ≤ R.locals) (hcap : vs.length ≤ cap) (hc : cells + 1 ≤ R.cells) (hsl : slots + cap ≤ R.slots) :
    ∃ T' h', Stand p l e R s m args below meth c T' locs (cells + 1) (slots + cap) ∧ T'.heap = h' ∧ Ext h h' ∧ own_Ar Z h' h.size k ty vs ∧ Exa Z h' h.size ad ∧
      ∀ target, Steps p.tables e below (T'.setTop { g with pc := g.pc + 3, stack := .ref h.size :: rest }) target → Steps p.tables e below (T.setTop g) target := by
  obtain ⟨cl, Ar, q, sz, ln, f⟩ := A
  have hF : FitC Z cl := fitC_of Ar fun i hi v hv => by
    rw [sz] at hv
    exact f v (List.mem_of_getElem? (by simpa using hv))
  obtain ⟨T', h', X', e', E', A', Ex, st⟩ := cloneA X hx hZ hown w1 w2 w3 w4 w5 w6 eT Ar E hF hg hsize hs hd hf (cap := cap) hW hl (by rw [sz]; simpa using hcap) hc hsl
  exact ⟨T', h', X', e', E', ⟨_, A', q, sz, ln, f⟩, Ex, st⟩
/-! facts on statics at the start -/
theorem own_fldI {args : Array Value} {s : State} {t : Term} {a : Addr} {C n d : String} {k : Int32} (ev : t.eval args s none [] s = some (.ref a)) (h : (Cond.eq (.field t C n d) (.int k)).value args s none s [] = some true) : Fld s s.heap a C n d (.int k) := by
  obtain ⟨x, y, e1, e2, -, k2⟩ := cmp_v (Or.inl h)
  cases (Term.int_eval k).symm.trans e2
  obtain ⟨z, rfl⟩ : ∃ z, x = .int z := k2
  obtain rfl := gotT (Cond.eq_ints e1 e2) h
  exact Fld.start ((fld_at ev).symm.trans e1)
theorem own_elem {args : Array Value} {s : State} {t u : Term} {a b : Addr} {cl : Cell} {ty : FieldType} {j : Int32} (ev : t.eval args s none [] s = some (.ref a)) (ev2 : u.eval args s none [] s = some (.ref b)) (A : Arr s s.heap a cl ty) (h : (Cond.eq (.elem t (.int j)) u).value args s none s [] = some true) : cl.slots[j.toNatClampNeg]? = some (.ref b) := by
  obtain ⟨x, y, e1, e2, -, k2⟩ := cmp_v (Or.inl h)
  cases ev2.symm.trans e2
  have hr : x.isRef = true := k2.2
  obtain rfl := gotT (eq_R e1 e2 hr rfl) h
  exact (elem_in e1 ev (Term.int_eval j) A.1).2
theorem own_lenN {args : Array Value} {s : State} {t : Term} {a : Addr} {n : Int32} {ty : FieldType} (ev : t.eval args s none [] s = some (.ref a)) (h6 : (Cond.arrayOf t ty).value args s none s [] = some true) (h8 : (Cond.eq (.length t) (.int n)).value args s none s [] = some true) : ∃ c : Cell, Arr s s.heap a c ty ∧ c.slots.size.toInt32 = n ∧ c.slots.size < 2 ^ 31 := by
  obtain ⟨c, A⟩ := Arr.start ev h6
  obtain ⟨x, y, e1, -⟩ := cmp_v (Or.inl h8)
  have e1' := e1
  obtain ⟨b, cell, q1, q2, rfl⟩ := Term.length_spec e1
  cases ev.symm.trans q1
  cases (Arr.fin (State.Warmed39.refl s).alike A).symm.trans q2
  refine ⟨_, A, gotT (Cond.eq_ints e1 (Term.int_eval n)) h8, ?_⟩
  by_cases hl : c.slots.size < 2 ^ 31
  · exact hl
  · simp [Term.eval, ev, q2, hl] at e1'
theorem own_seven {c : Cell} {e0 e1 e2 e3 e4 e5 e6 : Addr} (h : c.slots.size.toInt32 = 7) (hb : c.slots.size < 2 ^ 31) (h0 : c.slots[0]? = some (.ref e0)) (h1 : c.slots[1]? = some (.ref e1)) (h2 : c.slots[2]? = some (.ref e2)) (h3 : c.slots[3]? = some (.ref e3)) (h4 : c.slots[4]? = some (.ref e4)) (h5 : c.slots[5]? = some (.ref e5)) (h6 : c.slots[6]? = some (.ref e6)) :
    c.slots = [Value.ref e0, .ref e1, .ref e2, .ref e3, .ref e4, .ref e5, .ref e6].toArray := by
  have hs : c.slots.size = 7 := by
    have q := congrArg Int32.toInt h
    have e : (c.slots.size.toInt32).toInt = c.slots.size := len_toInt hb
    rw [e] at q
    have : (7 : Int32).toInt = 7 := rfl
    omega
  apply Array.ext_getElem?
  intro i
  have hi : i = 0 ∨ i = 1 ∨ i = 2 ∨ i = 3 ∨ i = 4 ∨ i = 5 ∨ i = 6 ∨ 7 ≤ i := by omega
  rcases hi with rfl | rfl | rfl | rfl | rfl | rfl | rfl | hi
  · exact h0
  · exact h1
  · exact h2
  · exact h3
  · exact h4
  · exact h5
  · exact h6
  · rw [Array.getElem?_eq_none (by omega), Array.getElem?_eq_none (by simpa using hi)]
def own_ex (e0 e1 e2 e3 e4 e5 e6 : Addr) (d : Int32) : Value := if d = (258 : Int32) then .ref e0 else if d = (260 : Int32) then .ref e1 else if d = (514 : Int32) then .ref e2 else if d = (257 : Int32) then .ref e3 else if d = (259 : Int32) then .ref e4 else if d = (513 : Int32) then .ref e5 else if d = (769 : Int32) then .ref e6 else .null
theorem own_ex_ref (e0 e1 e2 e3 e4 e5 e6 : Addr) (d : Int32) : (own_ex e0 e1 e2 e3 e4 e5 e6 d).isRef = true := by
  unfold own_ex
  repeat' split
  all_goals rfl
theorem own_pd0 : parseMethodDescriptor "(I)Lcom/example/verity/verity/SignatureAlgorithm;" = some ⟨[.int], some (.object "com/example/verity/verity/SignatureAlgorithm")⟩ := by decide +kernel
theorem own_pd1 : parseMethodDescriptor "(I)Ljava/util/Optional;" = some ⟨[.int], some (.object "java/util/Optional")⟩ := by decide +kernel
theorem own_pd2 : parseMethodDescriptor "()[Lcom/example/verity/verity/SignatureAlgorithm;" = some ⟨[], some (.array (.object "com/example/verity/verity/SignatureAlgorithm"))⟩ := by decide +kernel
theorem own_pd3 : parseMethodDescriptor "()Ljava/util/Optional;" = some ⟨[], some (.object "java/util/Optional")⟩ := by decide +kernel
theorem own_pd4 : parseMethodDescriptor "()Z" = some ⟨[], some .boolean⟩ := by decide +kernel
theorem own_pd5 : parseMethodDescriptor "(Ljava/lang/Object;)Ljava/util/Optional;" = some ⟨[(.object "java/lang/Object")], some (.object "java/util/Optional")⟩ := by decide +kernel
theorem own_pd6 : parseMethodDescriptor "(Ljava/lang/Object;)Ljava/lang/Object;" = some ⟨[(.object "java/lang/Object")], some (.object "java/lang/Object")⟩ := by decide +kernel
theorem own_pd7 : parseMethodDescriptor "(Ljava/lang/Object;)V" = some ⟨[(.object "java/lang/Object")], none⟩ := by decide +kernel
theorem own_pd8 : parseMethodDescriptor "()Ljava/lang/Object;" = some ⟨[], some (.object "java/lang/Object")⟩ := by decide +kernel
theorem dxp_0 : decode method_3_code 0 = .ok (.iload_n 0, 1) := by decide +kernel
theorem dxp_1 : decode method_3_code 1 = .ok (.sipush 258, 3) := by decide +kernel
theorem dxp_4 : decode method_3_code 4 = .ok (.if_icmp .ne 7, 3) := by decide +kernel
theorem dxp_7 : decode method_3_code 7 = .ok (.getstatic 29, 3) := by decide +kernel
theorem dxp_10 : decode method_3_code 10 = .ok (.areturn, 1) := by decide +kernel
theorem dxp_11 : decode method_3_code 11 = .ok (.iload_n 0, 1) := by decide +kernel
theorem dxp_12 : decode method_3_code 12 = .ok (.sipush 260, 3) := by decide +kernel
theorem dxp_15 : decode method_3_code 15 = .ok (.if_icmp .ne 7, 3) := by decide +kernel
theorem dxp_18 : decode method_3_code 18 = .ok (.getstatic 33, 3) := by decide +kernel
theorem dxp_21 : decode method_3_code 21 = .ok (.areturn, 1) := by decide +kernel
theorem dxp_22 : decode method_3_code 22 = .ok (.iload_n 0, 1) := by decide +kernel
theorem dxp_23 : decode method_3_code 23 = .ok (.sipush 514, 3) := by decide +kernel
theorem dxp_26 : decode method_3_code 26 = .ok (.if_icmp .ne 7, 3) := by decide +kernel
theorem dxp_29 : decode method_3_code 29 = .ok (.getstatic 36, 3) := by decide +kernel
theorem dxp_32 : decode method_3_code 32 = .ok (.areturn, 1) := by decide +kernel
theorem dxp_33 : decode method_3_code 33 = .ok (.iload_n 0, 1) := by decide +kernel
theorem dxp_34 : decode method_3_code 34 = .ok (.sipush 257, 3) := by decide +kernel
theorem dxp_37 : decode method_3_code 37 = .ok (.if_icmp .ne 7, 3) := by decide +kernel
theorem dxp_40 : decode method_3_code 40 = .ok (.getstatic 39, 3) := by decide +kernel
theorem dxp_43 : decode method_3_code 43 = .ok (.areturn, 1) := by decide +kernel
theorem dxp_44 : decode method_3_code 44 = .ok (.iload_n 0, 1) := by decide +kernel
theorem dxp_45 : decode method_3_code 45 = .ok (.sipush 259, 3) := by decide +kernel
theorem dxp_48 : decode method_3_code 48 = .ok (.if_icmp .ne 7, 3) := by decide +kernel
theorem dxp_51 : decode method_3_code 51 = .ok (.getstatic 42, 3) := by decide +kernel
theorem dxp_54 : decode method_3_code 54 = .ok (.areturn, 1) := by decide +kernel
theorem dxp_55 : decode method_3_code 55 = .ok (.iload_n 0, 1) := by decide +kernel
theorem dxp_56 : decode method_3_code 56 = .ok (.sipush 513, 3) := by decide +kernel
theorem dxp_59 : decode method_3_code 59 = .ok (.if_icmp .ne 7, 3) := by decide +kernel
theorem dxp_62 : decode method_3_code 62 = .ok (.getstatic 45, 3) := by decide +kernel
theorem dxp_65 : decode method_3_code 65 = .ok (.areturn, 1) := by decide +kernel
theorem dxp_66 : decode method_3_code 66 = .ok (.iload_n 0, 1) := by decide +kernel
theorem dxp_67 : decode method_3_code 67 = .ok (.sipush 769, 3) := by decide +kernel
theorem dxp_70 : decode method_3_code 70 = .ok (.if_icmp .ne 7, 3) := by decide +kernel
theorem dxp_73 : decode method_3_code 73 = .ok (.getstatic 48, 3) := by decide +kernel
theorem dxp_76 : decode method_3_code 76 = .ok (.areturn, 1) := by decide +kernel
theorem dxp_77 : decode method_3_code 77 = .ok (.aconst_null, 1) := by decide +kernel
theorem dxp_78 : decode method_3_code 78 = .ok (.areturn, 1) := by decide +kernel
theorem own_pn0 : plainName "com/example/verity/verity/SignatureAlgorithmByIdPinLaw" = true := by first | (simp [plainName, overriddenIn]; done) | decide +kernel
theorem own_efxp (m : MethodId) (p1 : Int32) : entryFrame m #[(.int p1)] 1 = mkF m 0 #[.val (.int p1)] [] := by first | (simp [entryFrame, mkF, argsToLocals, Value.category]; done) | rfl
set_option maxRecDepth 65536 in
set_option maxHeartbeats 40000000 in
theorem own_rmxp (l : Launch) (Z : State) (a0 : Array Value) (hw : ∀ d ∈ tables_1, d.before a0 Z = true) (p1 : Int32) (h0 : Heap) (n0 : Nat) (en0 en1 en2 en3 en4 en5 en6 : Addr) (O : Old Z n0 h0) (S0 : Sta Z Z.heap "com/example/verity/verity/SignatureAlgorithm" "RSA_PSS_SHA512" "Lcom/example/verity/verity/SignatureAlgorithm;" (.ref en0)) (S1 : Sta Z Z.heap "com/example/verity/verity/SignatureAlgorithm" "RSA_PKCS1_SHA512" "Lcom/example/verity/verity/SignatureAlgorithm;" (.ref en1)) (S2 : Sta Z Z.heap "com/example/verity/verity/SignatureAlgorithm" "ECDSA_SHA512" "Lcom/example/verity/verity/SignatureAlgorithm;" (.ref en2)) (S3 : Sta Z Z.heap "com/example/verity/verity/SignatureAlgorithm" "RSA_PSS_SHA256" "Lcom/example/verity/verity/SignatureAlgorithm;" (.ref en3)) (S4 : Sta Z Z.heap "com/example/verity/verity/SignatureAlgorithm" "RSA_PKCS1_SHA256" "Lcom/example/verity/verity/SignatureAlgorithm;" (.ref en4)) (S5 : Sta Z Z.heap "com/example/verity/verity/SignatureAlgorithm" "ECDSA_SHA256" "Lcom/example/verity/verity/SignatureAlgorithm;" (.ref en5)) (S6 : Sta Z Z.heap "com/example/verity/verity/SignatureAlgorithm" "DSA_SHA256" "Lcom/example/verity/verity/SignatureAlgorithm;" (.ref en6)) :
    own_C l Z (⟨"com/example/verity/verity/SignatureAlgorithmByIdPinLaw", "expected", "(I)Lcom/example/verity/verity/SignatureAlgorithm;"⟩ : MethodName) method_3_code 1 (some (.object "com/example/verity/verity/SignatureAlgorithm")) [] ({ frames := 0, cells := 0, slots := 0, locals := 0 } : Room) #[(.int p1)] h0 (fun v h L => v = some (own_ex en0 en1 en2 en3 en4 en5 en6 p1) ∧ L = [] ∧ h = h0) := by
  refine own_body (plainFor_of_name own_pn0) fun p e s m below meth c s₁ hx hby hml hret hlk hown hnm hZ X0 e0 => ?_
  rw [own_efxp m p1]
  refine own_go (U' := s₁.setTop (mkF m 1 #[.val (.int p1)] [(.int p1)])) (fun t k => XS.iloadN X0.here hx rfl (hb hby dxp_0) rfl k) ?_
  refine own_go (U' := s₁.setTop (mkF m 4 #[.val (.int p1)] [(.int (258 : Int32)), (.int p1)])) (fun t k => XS.sipush X0.here hx rfl (hb hby dxp_1) k) ?_
  by_cases hc4 : p1 = (258 : Int32)
  · refine own_go (U' := s₁.setTop (mkF m 7 #[.val (.int p1)] [])) (fun t k => XS.icmpNo X0.here hx rfl (hb hby dxp_4) rfl (teq hc4).2 k) ?_
    obtain ⟨T1, X1, e1, st1⟩ := getS2 X0 hx hZ hown (host := "") (Or.inl (hw _ (List.mem_of_getElem? (i := 67) rfl))) Via.refl e0 (S0.ext O.2) (g := (mkF m 7 #[.val (.int p1)] [])) rfl (hb hby dxp_7)
    refine own_go (U' := T1.setTop (mkF m 10 #[.val (.int p1)] [(.ref en0)])) st1 ?_
    refine own_retA X1 hx (t := (.object "com/example/verity/verity/SignatureAlgorithm")) hret rfl hlk rfl (hb hby dxp_10) ?_ (by decide) (by decide)
    refine ⟨?_, rfl, e1⟩
    rw [own_ex, if_pos hc4]
  · refine own_go (U' := s₁.setTop (mkF m 11 #[.val (.int p1)] [])) (fun t k => XS.icmpYes X0.here hx rfl (pc0 := 4) (pc' := 11) rfl (hb hby dxp_4) rfl (feq hc4).2 (by decide) (by decide) k) ?_
    refine own_go (U' := s₁.setTop (mkF m 12 #[.val (.int p1)] [(.int p1)])) (fun t k => XS.iloadN X0.here hx rfl (hb hby dxp_11) rfl k) ?_
    refine own_go (U' := s₁.setTop (mkF m 15 #[.val (.int p1)] [(.int (260 : Int32)), (.int p1)])) (fun t k => XS.sipush X0.here hx rfl (hb hby dxp_12) k) ?_
    by_cases hc15 : p1 = (260 : Int32)
    · refine own_go (U' := s₁.setTop (mkF m 18 #[.val (.int p1)] [])) (fun t k => XS.icmpNo X0.here hx rfl (hb hby dxp_15) rfl (teq hc15).2 k) ?_
      obtain ⟨T2, X2, e2, st2⟩ := getS2 X0 hx hZ hown (host := "") (Or.inl (hw _ (List.mem_of_getElem? (i := 70) rfl))) Via.refl e0 (S1.ext O.2) (g := (mkF m 18 #[.val (.int p1)] [])) rfl (hb hby dxp_18)
      refine own_go (U' := T2.setTop (mkF m 21 #[.val (.int p1)] [(.ref en1)])) st2 ?_
      refine own_retA X2 hx (t := (.object "com/example/verity/verity/SignatureAlgorithm")) hret rfl hlk rfl (hb hby dxp_21) ?_ (by decide) (by decide)
      refine ⟨?_, rfl, e2⟩
      rw [own_ex, if_neg hc4, if_pos hc15]
    · refine own_go (U' := s₁.setTop (mkF m 22 #[.val (.int p1)] [])) (fun t k => XS.icmpYes X0.here hx rfl (pc0 := 15) (pc' := 22) rfl (hb hby dxp_15) rfl (feq hc15).2 (by decide) (by decide) k) ?_
      refine own_go (U' := s₁.setTop (mkF m 23 #[.val (.int p1)] [(.int p1)])) (fun t k => XS.iloadN X0.here hx rfl (hb hby dxp_22) rfl k) ?_
      refine own_go (U' := s₁.setTop (mkF m 26 #[.val (.int p1)] [(.int (514 : Int32)), (.int p1)])) (fun t k => XS.sipush X0.here hx rfl (hb hby dxp_23) k) ?_
      by_cases hc26 : p1 = (514 : Int32)
      · refine own_go (U' := s₁.setTop (mkF m 29 #[.val (.int p1)] [])) (fun t k => XS.icmpNo X0.here hx rfl (hb hby dxp_26) rfl (teq hc26).2 k) ?_
        obtain ⟨T3, X3, e3, st3⟩ := getS2 X0 hx hZ hown (host := "") (Or.inl (hw _ (List.mem_of_getElem? (i := 71) rfl))) Via.refl e0 (S2.ext O.2) (g := (mkF m 29 #[.val (.int p1)] [])) rfl (hb hby dxp_29)
        refine own_go (U' := T3.setTop (mkF m 32 #[.val (.int p1)] [(.ref en2)])) st3 ?_
        refine own_retA X3 hx (t := (.object "com/example/verity/verity/SignatureAlgorithm")) hret rfl hlk rfl (hb hby dxp_32) ?_ (by decide) (by decide)
        refine ⟨?_, rfl, e3⟩
        rw [own_ex, if_neg hc4, if_neg hc15, if_pos hc26]
      · refine own_go (U' := s₁.setTop (mkF m 33 #[.val (.int p1)] [])) (fun t k => XS.icmpYes X0.here hx rfl (pc0 := 26) (pc' := 33) rfl (hb hby dxp_26) rfl (feq hc26).2 (by decide) (by decide) k) ?_
        refine own_go (U' := s₁.setTop (mkF m 34 #[.val (.int p1)] [(.int p1)])) (fun t k => XS.iloadN X0.here hx rfl (hb hby dxp_33) rfl k) ?_
        refine own_go (U' := s₁.setTop (mkF m 37 #[.val (.int p1)] [(.int (257 : Int32)), (.int p1)])) (fun t k => XS.sipush X0.here hx rfl (hb hby dxp_34) k) ?_
        by_cases hc37 : p1 = (257 : Int32)
        · refine own_go (U' := s₁.setTop (mkF m 40 #[.val (.int p1)] [])) (fun t k => XS.icmpNo X0.here hx rfl (hb hby dxp_37) rfl (teq hc37).2 k) ?_
          obtain ⟨T4, X4, e4, st4⟩ := getS2 X0 hx hZ hown (host := "") (Or.inl (hw _ (List.mem_of_getElem? (i := 69) rfl))) Via.refl e0 (S3.ext O.2) (g := (mkF m 40 #[.val (.int p1)] [])) rfl (hb hby dxp_40)
          refine own_go (U' := T4.setTop (mkF m 43 #[.val (.int p1)] [(.ref en3)])) st4 ?_
          refine own_retA X4 hx (t := (.object "com/example/verity/verity/SignatureAlgorithm")) hret rfl hlk rfl (hb hby dxp_43) ?_ (by decide) (by decide)
          refine ⟨?_, rfl, e4⟩
          rw [own_ex, if_neg hc4, if_neg hc15, if_neg hc26, if_pos hc37]
        · refine own_go (U' := s₁.setTop (mkF m 44 #[.val (.int p1)] [])) (fun t k => XS.icmpYes X0.here hx rfl (pc0 := 37) (pc' := 44) rfl (hb hby dxp_37) rfl (feq hc37).2 (by decide) (by decide) k) ?_
          refine own_go (U' := s₁.setTop (mkF m 45 #[.val (.int p1)] [(.int p1)])) (fun t k => XS.iloadN X0.here hx rfl (hb hby dxp_44) rfl k) ?_
          refine own_go (U' := s₁.setTop (mkF m 48 #[.val (.int p1)] [(.int (259 : Int32)), (.int p1)])) (fun t k => XS.sipush X0.here hx rfl (hb hby dxp_45) k) ?_
          by_cases hc48 : p1 = (259 : Int32)
          · refine own_go (U' := s₁.setTop (mkF m 51 #[.val (.int p1)] [])) (fun t k => XS.icmpNo X0.here hx rfl (hb hby dxp_48) rfl (teq hc48).2 k) ?_
            obtain ⟨T5, X5, e5, st5⟩ := getS2 X0 hx hZ hown (host := "") (Or.inl (hw _ (List.mem_of_getElem? (i := 68) rfl))) Via.refl e0 (S4.ext O.2) (g := (mkF m 51 #[.val (.int p1)] [])) rfl (hb hby dxp_51)
            refine own_go (U' := T5.setTop (mkF m 54 #[.val (.int p1)] [(.ref en4)])) st5 ?_
            refine own_retA X5 hx (t := (.object "com/example/verity/verity/SignatureAlgorithm")) hret rfl hlk rfl (hb hby dxp_54) ?_ (by decide) (by decide)
            refine ⟨?_, rfl, e5⟩
            rw [own_ex, if_neg hc4, if_neg hc15, if_neg hc26, if_neg hc37, if_pos hc48]
          · refine own_go (U' := s₁.setTop (mkF m 55 #[.val (.int p1)] [])) (fun t k => XS.icmpYes X0.here hx rfl (pc0 := 48) (pc' := 55) rfl (hb hby dxp_48) rfl (feq hc48).2 (by decide) (by decide) k) ?_
            refine own_go (U' := s₁.setTop (mkF m 56 #[.val (.int p1)] [(.int p1)])) (fun t k => XS.iloadN X0.here hx rfl (hb hby dxp_55) rfl k) ?_
            refine own_go (U' := s₁.setTop (mkF m 59 #[.val (.int p1)] [(.int (513 : Int32)), (.int p1)])) (fun t k => XS.sipush X0.here hx rfl (hb hby dxp_56) k) ?_
            by_cases hc59 : p1 = (513 : Int32)
            · refine own_go (U' := s₁.setTop (mkF m 62 #[.val (.int p1)] [])) (fun t k => XS.icmpNo X0.here hx rfl (hb hby dxp_59) rfl (teq hc59).2 k) ?_
              obtain ⟨T6, X6, e6, st6⟩ := getS2 X0 hx hZ hown (host := "") (Or.inl (hw _ (List.mem_of_getElem? (i := 72) rfl))) Via.refl e0 (S5.ext O.2) (g := (mkF m 62 #[.val (.int p1)] [])) rfl (hb hby dxp_62)
              refine own_go (U' := T6.setTop (mkF m 65 #[.val (.int p1)] [(.ref en5)])) st6 ?_
              refine own_retA X6 hx (t := (.object "com/example/verity/verity/SignatureAlgorithm")) hret rfl hlk rfl (hb hby dxp_65) ?_ (by decide) (by decide)
              refine ⟨?_, rfl, e6⟩
              rw [own_ex, if_neg hc4, if_neg hc15, if_neg hc26, if_neg hc37, if_neg hc48, if_pos hc59]
            · refine own_go (U' := s₁.setTop (mkF m 66 #[.val (.int p1)] [])) (fun t k => XS.icmpYes X0.here hx rfl (pc0 := 59) (pc' := 66) rfl (hb hby dxp_59) rfl (feq hc59).2 (by decide) (by decide) k) ?_
              refine own_go (U' := s₁.setTop (mkF m 67 #[.val (.int p1)] [(.int p1)])) (fun t k => XS.iloadN X0.here hx rfl (hb hby dxp_66) rfl k) ?_
              refine own_go (U' := s₁.setTop (mkF m 70 #[.val (.int p1)] [(.int (769 : Int32)), (.int p1)])) (fun t k => XS.sipush X0.here hx rfl (hb hby dxp_67) k) ?_
              by_cases hc70 : p1 = (769 : Int32)
              · refine own_go (U' := s₁.setTop (mkF m 73 #[.val (.int p1)] [])) (fun t k => XS.icmpNo X0.here hx rfl (hb hby dxp_70) rfl (teq hc70).2 k) ?_
                obtain ⟨T7, X7, e7, st7⟩ := getS2 X0 hx hZ hown (host := "") (Or.inl (hw _ (List.mem_of_getElem? (i := 45) rfl))) Via.refl e0 (S6.ext O.2) (g := (mkF m 73 #[.val (.int p1)] [])) rfl (hb hby dxp_73)
                refine own_go (U' := T7.setTop (mkF m 76 #[.val (.int p1)] [(.ref en6)])) st7 ?_
                refine own_retA X7 hx (t := (.object "com/example/verity/verity/SignatureAlgorithm")) hret rfl hlk rfl (hb hby dxp_76) ?_ (by decide) (by decide)
                refine ⟨?_, rfl, e7⟩
                rw [own_ex, if_neg hc4, if_neg hc15, if_neg hc26, if_neg hc37, if_neg hc48, if_neg hc59, if_pos hc70]
              · refine own_go (U' := s₁.setTop (mkF m 77 #[.val (.int p1)] [])) (fun t k => XS.icmpYes X0.here hx rfl (pc0 := 70) (pc' := 77) rfl (hb hby dxp_70) rfl (feq hc70).2 (by decide) (by decide) k) ?_
                refine own_go (U' := s₁.setTop (mkF m 78 #[.val (.int p1)] [.null])) (fun t k => XS.aconstNull X0.here hx rfl (hb hby dxp_77) k) ?_
                refine own_retA X0 hx (t := (.object "com/example/verity/verity/SignatureAlgorithm")) hret rfl hlk rfl (hb hby dxp_78) ?_ (by decide) (by decide)
                refine ⟨?_, rfl, e0⟩
                rw [own_ex, if_neg hc4, if_neg hc15, if_neg hc26, if_neg hc37, if_neg hc48, if_neg hc59, if_neg hc70]
theorem dva_0 : decode prog_33_method_1_code 0 = .ok (.getstatic 25, 3) := by decide +kernel
theorem dva_3 : decode prog_33_method_1_code 3 = .ok (.invokevirtual 29, 3) := by decide +kernel
theorem dva_6 : decode prog_33_method_1_code 6 = .ok (.checkcast 30, 3) := by decide +kernel
theorem dva_9 : decode prog_33_method_1_code 9 = .ok (.areturn, 1) := by decide +kernel
theorem own_pn1 : plainName "com/example/verity/verity/SignatureAlgorithm" = true := by first | (simp [plainName, overriddenIn]; done) | decide +kernel
theorem own_efva (m : MethodId)  : entryFrame m #[] 0 = mkF m 0 #[] [] := by first | (simp [entryFrame, mkF, argsToLocals, Value.category]; done) | rfl
set_option maxRecDepth 65536 in
set_option maxHeartbeats 40000000 in
theorem own_rmva (l : Launch) (Z : State) (a0 : Array Value) (hw : ∀ d ∈ tables_1, d.before a0 Z = true)  (h0 : Heap) (n0 : Nat) (en0 en1 en2 en3 en4 en5 en6 : Addr) (O : Old Z n0 h0) (vv : Addr) (kv : ClassId) (S_v : Sta Z Z.heap "com/example/verity/verity/SignatureAlgorithm" "$VALUES" "[Lcom/example/verity/verity/SignatureAlgorithm;" (.ref vv)) (V_v : own_Ar Z Z.heap vv kv (.object "com/example/verity/verity/SignatureAlgorithm") [(.ref en0), (.ref en1), (.ref en2), (.ref en3), (.ref en4), (.ref en5), (.ref en6)]) (E_v : Exa Z Z.heap vv "[Lcom/example/verity/verity/SignatureAlgorithm;") :
    own_C l Z (⟨"com/example/verity/verity/SignatureAlgorithm", "values", "()[Lcom/example/verity/verity/SignatureAlgorithm;"⟩ : MethodName) prog_33_method_1_code 0 (some (.array (.object "com/example/verity/verity/SignatureAlgorithm"))) [] ({ frames := 1, cells := 1, slots := 7, locals := 14 } : Room) #[] h0 (fun v h L => ∃ x, v = some (.ref x) ∧ L = [] ∧ Keep h0 h [] ∧ h0.size ≤ x ∧ own_Ar Z h x kv (.object "com/example/verity/verity/SignatureAlgorithm") [(.ref en0), (.ref en1), (.ref en2), (.ref en3), (.ref en4), (.ref en5), (.ref en6)]) := by
  refine own_body (plainFor_of_name own_pn1) fun p e s m below meth c s₁ hx hby hml hret hlk hown hnm hZ X0 e0 => ?_
  rw [own_efva m ]
  have N0 := Fr.nil n0
  have K := Keep.refl h0 []
  obtain ⟨T1, X1, e1, st1⟩ := getS2 X0 hx hZ hown (host := "") (Or.inl (hw _ (List.mem_of_getElem? (i := 12) rfl))) Via.refl e0 (S_v.ext O.2) (g := (mkF m 0 #[] [])) rfl (hb hby dva_0)
  refine own_go (U' := T1.setTop (mkF m 3 #[] [(.ref vv)])) st1 ?_
  obtain ⟨T2, h2, X2, e2, E2, A2, Y2, st2⟩ := own_cloneT (ad := "[Lcom/example/verity/verity/SignatureAlgorithm;") X1 hx hZ hown (hw _ (List.mem_of_getElem? (i := 14) rfl)) (hw _ (List.mem_of_getElem? (i := 15) rfl)) (hw _ (List.mem_of_getElem? (i := 19) rfl)) (hw _ (List.mem_of_getElem? (i := 17) rfl)) (hw _ (List.mem_of_getElem? (i := 18) rfl)) (hw _ (List.mem_of_getElem? (i := 20) rfl)) e1 (V_v.ext O.2) (E_v.ext O.2) (g := (mkF m 3 #[] [(.ref vv)])) rfl (by rw [hml]; rfl) rfl (hb hby dva_3) (by decide) (W := 0) (cap := 7) (by show 2 * 0 + _ ≤ _; exact Nat.le_of_eq rfl) (by decide) (Nat.le_of_ble_eq_true rfl) (by decide) (by decide)
  obtain ⟨b2, g2⟩ : ∃ z, z = h0.size := ⟨_, rfl⟩
  rw [← g2] at A2 Y2 st2
  have g_b2 : n0 ≤ b2 := Nat.le_trans (Nat.le_trans (Nat.le_of_eq O.1.symm) O.2.1) (Nat.le_of_eq g2.symm)
  have sz_b2 : h0.size ≤ b2 := Nat.le_trans K.1 (Nat.le_of_eq g2.symm)
  have K := K.ext E2
  have O := O.ext E2
  have V_b2 := A2
  have E_b2 := Y2
  refine own_go (U' := T2.setTop (mkF m 6 #[] [(.ref b2)])) st2 ?_
  obtain ⟨T3, X3, e3, st3⟩ := castY X2 hx hZ hown (hw _ (List.mem_of_getElem? (i := 29) rfl)) e2 (Ins.self E_b2) (g := (mkF m 6 #[] [(.ref b2)])) rfl rfl (hb hby dva_6)
  refine own_go (U' := T3.setTop (mkF m 9 #[] [(.ref b2)])) st3 ?_
  refine own_retA X3 hx (t := (.array (.object "com/example/verity/verity/SignatureAlgorithm"))) hret rfl hlk rfl (hb hby dva_9) ?_ (by decide) (by decide)
  rw [e3]
  exact ⟨_, rfl, rfl, K, sz_b2, V_b2⟩
theorem doi_0 : decode jdk_32_method_2_code 0 = .ok (.aload_n 0, 1) := by decide +kernel
theorem doi_1 : decode jdk_32_method_2_code 1 = .ok (.invokespecial 7, 3) := by decide +kernel
theorem doi_4 : decode jdk_32_method_2_code 4 = .ok (.aload_n 0, 1) := by decide +kernel
theorem doi_5 : decode jdk_32_method_2_code 5 = .ok (.aload_n 1, 1) := by decide +kernel
theorem doi_6 : decode jdk_32_method_2_code 6 = .ok (.putfield 13, 3) := by decide +kernel
theorem doi_9 : decode jdk_32_method_2_code 9 = .ok (.return_, 1) := by decide +kernel
theorem own_pn2 : plainName "java/util/Optional" = true := by first | (simp [plainName, overriddenIn]; done) | decide +kernel
theorem own_efoi (m : MethodId) (a b : Addr) : entryFrame m #[(.ref a), (.ref b)] 2 = mkF m 0 #[.val (.ref a), .val (.ref b)] [] := by first | (simp [entryFrame, mkF, argsToLocals, Value.category]; done) | rfl
set_option maxRecDepth 65536 in
set_option maxHeartbeats 40000000 in
theorem own_rmoi (l : Launch) (Z : State) (a0 : Array Value) (hw : ∀ d ∈ tables_1, d.before a0 Z = true) (a b : Addr) (h0 : Heap) (n0 : Nat) (g_a : n0 ≤ a) (u0 : Value) (E_a : Exa Z h0 a "java/util/Optional") (F_value_a : Fld Z h0 a "java/util/Optional" "value" "Ljava/lang/Object;" u0) :
    own_C l Z (⟨"java/util/Optional", "<init>", "(Ljava/lang/Object;)V"⟩ : MethodName) jdk_32_method_2_code 2 none [] ({ frames := 1, cells := 0, slots := 0, locals := 12 } : Room) #[(.ref a), (.ref b)] h0 (fun v h L => v = none ∧ Fr n0 L ∧ Keep h0 h [a] ∧ Fld Z h a "java/util/Optional" "value" "Ljava/lang/Object;" (.ref b)) := by
  refine own_body (plainFor_of_name own_pn2) fun p e s m below meth c s₁ hx hby hml hret hlk hown hnm hZ X0 e0 => ?_
  rw [own_efoi m a b]
  have N0 := Fr.nil n0
  have K := Keep.refl h0 [a]
  refine own_go (U' := s₁.setTop (mkF m 1 #[.val (.ref a), .val (.ref b)] [(.ref a)])) (fun t k => XS.aloadN X0.here hx rfl (hb hby doi_0) rfl rfl k) ?_
  obtain ⟨T1, X1, e1, st1⟩ := initO X0 hx hZ hown (hw _ (List.mem_of_getElem? (i := 59) rfl)) (hw _ (List.mem_of_getElem? (i := 60) rfl)) (hw _ (List.mem_of_getElem? (i := 61) rfl)) e0 (g := (mkF m 1 #[.val (.ref a), .val (.ref b)] [(.ref a)])) rfl (by rw [hml]; rfl) rfl (hb hby doi_1) (by decide) (W := 0) (by show 2 * 0 + _ ≤ _; exact Nat.le_of_eq rfl) (by decide)
  refine own_go (U' := T1.setTop (mkF m 4 #[.val (.ref a), .val (.ref b)] [])) st1 ?_
  refine own_go (U' := T1.setTop (mkF m 5 #[.val (.ref a), .val (.ref b)] [(.ref a)])) (fun t k => XS.aloadN X1.here hx rfl (hb hby doi_4) rfl rfl k) ?_
  refine own_go (U' := T1.setTop (mkF m 6 #[.val (.ref a), .val (.ref b)] [(.ref b), (.ref a)])) (fun t k => XS.aloadN X1.here hx rfl (hb hby doi_5) rfl rfl k) ?_
  obtain ⟨T2, h2, X2, e2, W2, st2⟩ := putF X1 hx hZ hown (host := "") (Or.inl (hw _ (List.mem_of_getElem? (i := 43) rfl))) Via.refl e1 F_value_a E_a (Or.inr ⟨(hw _ (List.mem_of_getElem? (i := 44) rfl)), rfl, hnm⟩) (hw _ (List.mem_of_getElem? (i := 50) rfl)) (ty := (.object "java/lang/Object")) (by decide) rfl rfl (g := (mkF m 6 #[.val (.ref a), .val (.ref b)] [(.ref b), (.ref a)])) rfl rfl (hb hby doi_6)
  have K := K.wr W2 (Or.inl (List.mem_of_getElem? (i := 0) rfl))
  have E_a := E_a.wr W2
  have F_value_a := F_value_a.same W2
  have N2 := Fr.snoc X2 N0 g_a
  refine own_go (U' := T2.setTop (mkF m 9 #[.val (.ref a), .val (.ref b)] [])) st2 ?_
  refine own_retV X2 hx hret hlk (hb hby doi_9) ?_ (by decide) (by decide)
  rw [e2]
  exact ⟨rfl, N2, K, F_value_a⟩
theorem drn_0 : decode jdk_31_method_10_code 0 = .ok (.aload_n 0, 1) := by decide +kernel
theorem drn_1 : decode jdk_31_method_10_code 1 = .ok (.ifnonnull 11, 3) := by decide +kernel
theorem drn_4 : decode jdk_31_method_10_code 4 = .ok (.new 84, 3) := by decide +kernel
theorem drn_7 : decode jdk_31_method_10_code 7 = .ok (.dup, 1) := by decide +kernel
theorem drn_8 : decode jdk_31_method_10_code 8 = .ok (.invokespecial 86, 3) := by decide +kernel
theorem drn_11 : decode jdk_31_method_10_code 11 = .ok (.athrow, 1) := by decide +kernel
theorem drn_12 : decode jdk_31_method_10_code 12 = .ok (.aload_n 0, 1) := by decide +kernel
theorem drn_13 : decode jdk_31_method_10_code 13 = .ok (.areturn, 1) := by decide +kernel
theorem own_pn3 : plainName "java/util/Objects" = true := by first | (simp [plainName, overriddenIn]; done) | decide +kernel
theorem own_efrn (m : MethodId) (a : Addr) : entryFrame m #[(.ref a)] 1 = mkF m 0 #[.val (.ref a)] [] := by first | (simp [entryFrame, mkF, argsToLocals, Value.category]; done) | rfl
set_option maxRecDepth 65536 in
set_option maxHeartbeats 40000000 in
theorem own_rmrn (l : Launch) (Z : State) (a0 : Array Value) (hw : ∀ d ∈ tables_1, d.before a0 Z = true) (a : Addr) (h0 : Heap)  :
    own_C l Z (⟨"java/util/Objects", "requireNonNull", "(Ljava/lang/Object;)Ljava/lang/Object;"⟩ : MethodName) jdk_31_method_10_code 1 (some (.object "java/lang/Object")) [] ({ frames := 0, cells := 0, slots := 0, locals := 0 } : Room) #[(.ref a)] h0 (fun v h L => v = some (.ref a) ∧ L = [] ∧ h = h0) := by
  refine own_body (plainFor_of_name own_pn3) fun p e s m below meth c s₁ hx hby hml hret hlk hown hnm hZ X0 e0 => ?_
  rw [own_efrn m a]
  refine own_go (U' := s₁.setTop (mkF m 1 #[.val (.ref a)] [(.ref a)])) (fun t k => XS.aloadN X0.here hx rfl (hb hby drn_0) rfl rfl k) ?_
  refine own_go (U' := s₁.setTop (mkF m 12 #[.val (.ref a)] [])) (fun t k => XS.ifnonnullYes X0.here hx rfl (pc0 := 1) (pc' := 12) rfl (hb hby drn_1) rfl (by decide) (by decide) k) ?_
  refine own_go (U' := s₁.setTop (mkF m 13 #[.val (.ref a)] [(.ref a)])) (fun t k => XS.aloadN X0.here hx rfl (hb hby drn_12) rfl rfl k) ?_
  refine own_retA X0 hx (t := (.object "java/lang/Object")) hret rfl hlk rfl (hb hby drn_13) ?_ (by decide) (by decide)
  exact ⟨rfl, rfl, e0⟩
theorem dof_0 : decode jdk_32_method_3_code 0 = .ok (.new 2, 3) := by decide +kernel
theorem dof_3 : decode jdk_32_method_3_code 3 = .ok (.dup, 1) := by decide +kernel
theorem dof_4 : decode jdk_32_method_3_code 4 = .ok (.aload_n 0, 1) := by decide +kernel
theorem dof_5 : decode jdk_32_method_3_code 5 = .ok (.invokestatic 17, 3) := by decide +kernel
theorem dof_8 : decode jdk_32_method_3_code 8 = .ok (.invokespecial 23, 3) := by decide +kernel
theorem dof_11 : decode jdk_32_method_3_code 11 = .ok (.areturn, 1) := by decide +kernel
theorem own_efof (m : MethodId) (a : Addr) : entryFrame m #[(.ref a)] 1 = mkF m 0 #[.val (.ref a)] [] := by first | (simp [entryFrame, mkF, argsToLocals, Value.category]; done) | rfl
set_option maxRecDepth 65536 in
set_option maxHeartbeats 40000000 in
theorem own_rmof (l : Launch) (Z : State) (a0 : Array Value) (hw : ∀ d ∈ tables_1, d.before a0 Z = true) (a : Addr) (h0 : Heap) (n0 : Nat) (O : Old Z n0 h0) :
    own_C l Z (⟨"java/util/Optional", "of", "(Ljava/lang/Object;)Ljava/util/Optional;"⟩ : MethodName) jdk_32_method_3_code 1 (some (.object "java/util/Optional")) [] ({ frames := 2, cells := 1, slots := 1, locals := 27 } : Room) #[(.ref a)] h0 (fun v h L => ∃ o, v = some (.ref o) ∧ Fr n0 L ∧ Keep h0 h [] ∧ Exa Z h o "java/util/Optional" ∧ Fld Z h o "java/util/Optional" "value" "Ljava/lang/Object;" (.ref a)) := by
  refine own_body (plainFor_of_name own_pn2) fun p e s m below meth c s₁ hx hby hml hret hlk hown hnm hZ X0 e0 => ?_
  rw [own_efof m a]
  have N0 := Fr.nil n0
  have K := Keep.refl h0 []
  obtain ⟨T1, h1, X1, e1, E1, A1, D1, -, st1⟩ := newO X0 hx hZ hown (hw _ (List.mem_of_getElem? (i := 49) rfl)) (hw _ (List.mem_of_getElem? (i := 50) rfl)) (hw _ (List.mem_of_getElem? (i := 35) rfl)) e0 (g := (mkF m 0 #[.val (.ref a)] [])) rfl (hb hby dof_0) (by decide) (by decide)
  obtain ⟨b1, g1⟩ : ∃ z, z = h0.size := ⟨_, rfl⟩
  rw [← g1] at A1 D1 st1
  have g_b1 : n0 ≤ b1 := Nat.le_trans (Nat.le_trans (Nat.le_of_eq O.1.symm) O.2.1) (Nat.le_of_eq g1.symm)
  have sz_b1 : h0.size ≤ b1 := Nat.le_trans K.1 (Nat.le_of_eq g1.symm)
  have K := K.ext E1
  have O := O.ext E1
  have E_b1 := A1
  have F_value_b1 : Fld Z h1 b1 "java/util/Optional" "value" "Ljava/lang/Object;" .null := D1 (Or.inr (hw _ (List.mem_of_getElem? (i := 44) rfl))) (ty := (.object "java/lang/Object")) (by decide)
  refine own_go (U' := T1.setTop (mkF m 3 #[.val (.ref a)] [(.ref b1)])) st1 ?_
  refine own_go (U' := T1.setTop (mkF m 4 #[.val (.ref a)] [(.ref b1), (.ref b1)])) (fun t k => XS.dup X1.here hx rfl (hb hby dof_3) rfl rfl k) ?_
  refine own_go (U' := T1.setTop (mkF m 5 #[.val (.ref a)] [(.ref a), (.ref b1), (.ref b1)])) (fun t k => XS.aloadN X1.here hx rfl (hb hby dof_4) rfl rfl k) ?_
  obtain ⟨v2, T2, h2, L2, e2, X2, hQ2, st2⟩ := own_callS X1 hx hZ (y := (⟨"java/util/Objects", "requireNonNull", "(Ljava/lang/Object;)Ljava/lang/Object;"⟩ : MethodName)) hown (hw _ (List.mem_of_getElem? (i := 51) rfl)) (hw _ (List.mem_of_getElem? (i := 52) rfl)) (hw _ (List.mem_of_getElem? (i := 53) rfl)) (hw _ (List.mem_of_getElem? (i := 54) rfl)) (by decide) (own_rmrn l Z a0 hw a h1) (W := 2) (by decide) (by decide) (g := (mkF m 5 #[.val (.ref a)] [(.ref a), (.ref b1), (.ref b1)])) rfl (by rw [hml]; rfl) (argsL := [(.ref a)]) (rest := [(.ref b1), (.ref b1)]) (lenOf own_pd6 rfl) rfl rfl (by show 2 * 0 + _ ≤ _; exact Nat.le_of_eq rfl) (hb hby dof_5) e1 (by decide) (by decide)
  obtain ⟨rfl, rfl, eh2⟩ := hQ2
  have e2 := e2.trans eh2
  rw [List.append_nil] at X2
  refine own_go (U' := T2.setTop (mkF m 8 #[.val (.ref a)] [(.ref a), (.ref b1), (.ref b1)])) st2 ?_
  obtain ⟨v3, T3, h3, L3, e3, X3, hQ3, st3⟩ := own_callC X2 hx hZ (y := (⟨"java/util/Optional", "<init>", "(Ljava/lang/Object;)V"⟩ : MethodName)) rfl hown (hw _ (List.mem_of_getElem? (i := 55) rfl)) (hw _ (List.mem_of_getElem? (i := 56) rfl)) (hw _ (List.mem_of_getElem? (i := 35) rfl)) (hw _ (List.mem_of_getElem? (i := 58) rfl)) (by decide) (a := b1) (own_rmoi l Z a0 hw b1 a h1 n0 g_b1 _ E_b1 F_value_b1) (W := 1) (by decide) (by decide) (g := (mkF m 8 #[.val (.ref a)] [(.ref a), (.ref b1), (.ref b1)])) rfl (by rw [hml]; rfl) (argsL := [(.ref a)]) (rest := [(.ref b1)]) (lenOf own_pd7 rfl) rfl rfl (by show 2 * 0 + _ ≤ _; exact Nat.le_of_eq rfl) (hb hby dof_8) e2 (by decide) (by decide)
  obtain ⟨rfl, Nq, Kq, Fv⟩ := hQ3
  have K := K.trans Kq (allS (Or.inr sz_b1) all0)
  have O := O.keep Kq (allS g_b1 all0)
  have E_b1 := E_b1.keep Kq
  have N3 := Fr.app N0 Nq
  refine own_go (U' := T3.setTop (mkF m 11 #[.val (.ref a)] [(.ref b1)])) st3 ?_
  refine own_retA X3 hx (t := (.object "java/util/Optional")) hret rfl hlk rfl (hb hby dof_11) ?_ (by decide) (by decide)
  rw [e3]
  exact ⟨_, rfl, N3, K, E_b1, Fv⟩
theorem dem_0 : decode jdk_32_method_1_code 0 = .ok (.getstatic 1, 3) := by decide +kernel
theorem dem_3 : decode jdk_32_method_1_code 3 = .ok (.astore_n 0, 1) := by decide +kernel
theorem dem_4 : decode jdk_32_method_1_code 4 = .ok (.aload_n 0, 1) := by decide +kernel
theorem dem_5 : decode jdk_32_method_1_code 5 = .ok (.areturn, 1) := by decide +kernel
theorem own_efem (m : MethodId)  : entryFrame m #[] 1 = mkF m 0 #[.unset] [] := by first | (simp [entryFrame, mkF, argsToLocals, Value.category]; done) | rfl
set_option maxRecDepth 65536 in
set_option maxHeartbeats 40000000 in
theorem own_rmem (l : Launch) (Z : State) (a0 : Array Value) (hw : ∀ d ∈ tables_1, d.before a0 Z = true)  (h0 : Heap) (n0 : Nat) (O : Old Z n0 h0) (oe : Addr) (S_o : Sta Z Z.heap "java/util/Optional" "EMPTY" "Ljava/util/Optional;" (.ref oe)) (E_o : Exa Z Z.heap oe "java/util/Optional") (F_o : Fld Z Z.heap oe "java/util/Optional" "value" "Ljava/lang/Object;" .null) :
    own_C l Z (⟨"java/util/Optional", "empty", "()Ljava/util/Optional;"⟩ : MethodName) jdk_32_method_1_code 1 (some (.object "java/util/Optional")) [] ({ frames := 0, cells := 0, slots := 0, locals := 0 } : Room) #[] h0 (fun v h L => v = some (.ref oe) ∧ L = [] ∧ h = h0) := by
  refine own_body (plainFor_of_name own_pn2) fun p e s m below meth c s₁ hx hby hml hret hlk hown hnm hZ X0 e0 => ?_
  rw [own_efem m ]
  obtain ⟨T1, X1, e1, st1⟩ := getS2 X0 hx hZ hown (host := "") (Or.inl (hw _ (List.mem_of_getElem? (i := 37) rfl))) Via.refl e0 (S_o.ext O.2) (g := (mkF m 0 #[.unset] [])) rfl (hb hby dem_0)
  refine own_go (U' := T1.setTop (mkF m 3 #[.unset] [(.ref oe)])) st1 ?_
  refine own_go (U' := T1.setTop (mkF m 4 #[.val (.ref oe)] [])) (fun t k => XS.astoreN X1.here hx rfl (hb hby dem_3) rfl rfl (l' := #[.val (.ref oe)]) rfl k) ?_
  refine own_go (U' := T1.setTop (mkF m 5 #[.val (.ref oe)] [(.ref oe)])) (fun t k => XS.aloadN X1.here hx rfl (hb hby dem_4) rfl rfl k) ?_
  refine own_retA X1 hx (t := (.object "java/util/Optional")) hret rfl hlk rfl (hb hby dem_5) ?_ (by decide) (by decide)
  exact ⟨rfl, rfl, e1⟩
theorem dby_0 : decode prog_33_method_4_code 0 = .ok (.invokestatic 66, 3) := by decide +kernel
theorem dby_3 : decode prog_33_method_4_code 3 = .ok (.astore_n 1, 1) := by decide +kernel
theorem dby_4 : decode prog_33_method_4_code 4 = .ok (.aload_n 1, 1) := by decide +kernel
theorem dby_5 : decode prog_33_method_4_code 5 = .ok (.arraylength, 1) := by decide +kernel
theorem dby_6 : decode prog_33_method_4_code 6 = .ok (.istore_n 2, 1) := by decide +kernel
theorem dby_7 : decode prog_33_method_4_code 7 = .ok (.iconst 0, 1) := by decide +kernel
theorem dby_8 : decode prog_33_method_4_code 8 = .ok (.istore_n 3, 1) := by decide +kernel
theorem dby_9 : decode prog_33_method_4_code 9 = .ok (.iload_n 3, 1) := by decide +kernel
theorem dby_10 : decode prog_33_method_4_code 10 = .ok (.iload_n 2, 1) := by decide +kernel
theorem dby_11 : decode prog_33_method_4_code 11 = .ok (.if_icmp .ge 29, 3) := by decide +kernel
theorem dby_14 : decode prog_33_method_4_code 14 = .ok (.aload_n 1, 1) := by decide +kernel
theorem dby_15 : decode prog_33_method_4_code 15 = .ok (.iload_n 3, 1) := by decide +kernel
theorem dby_16 : decode prog_33_method_4_code 16 = .ok (.aaload, 1) := by decide +kernel
theorem dby_17 : decode prog_33_method_4_code 17 = .ok (.astore 4, 2) := by decide +kernel
theorem dby_19 : decode prog_33_method_4_code 19 = .ok (.aload 4, 2) := by decide +kernel
theorem dby_21 : decode prog_33_method_4_code 21 = .ok (.getfield 44, 3) := by decide +kernel
theorem dby_24 : decode prog_33_method_4_code 24 = .ok (.iload_n 0, 1) := by decide +kernel
theorem dby_25 : decode prog_33_method_4_code 25 = .ok (.if_icmp .ne 9, 3) := by decide +kernel
theorem dby_28 : decode prog_33_method_4_code 28 = .ok (.aload 4, 2) := by decide +kernel
theorem dby_30 : decode prog_33_method_4_code 30 = .ok (.invokestatic 70, 3) := by decide +kernel
theorem dby_33 : decode prog_33_method_4_code 33 = .ok (.areturn, 1) := by decide +kernel
theorem dby_34 : decode prog_33_method_4_code 34 = .ok (.iinc 3 1, 3) := by decide +kernel
theorem dby_37 : decode prog_33_method_4_code 37 = .ok (.goto (-28), 3) := by decide +kernel
theorem dby_40 : decode prog_33_method_4_code 40 = .ok (.invokestatic 76, 3) := by decide +kernel
theorem dby_43 : decode prog_33_method_4_code 43 = .ok (.areturn, 1) := by decide +kernel
theorem own_efby (m : MethodId) (p1 : Int32) : entryFrame m #[(.int p1)] 5 = mkF m 0 #[.val (.int p1), .unset, .unset, .unset, .unset] [] := by first | (simp [entryFrame, mkF, argsToLocals, Value.category]; done) | rfl
set_option maxRecDepth 65536 in
set_option maxHeartbeats 40000000 in
theorem own_rmby (l : Launch) (Z : State) (a0 : Array Value) (hw : ∀ d ∈ tables_1, d.before a0 Z = true) (p1 : Int32) (h0 : Heap) (n0 : Nat) (en0 en1 en2 en3 en4 en5 en6 : Addr) (O : Old Z n0 h0) (vv : Addr) (kv : ClassId) (S_v : Sta Z Z.heap "com/example/verity/verity/SignatureAlgorithm" "$VALUES" "[Lcom/example/verity/verity/SignatureAlgorithm;" (.ref vv)) (V_v : own_Ar Z Z.heap vv kv (.object "com/example/verity/verity/SignatureAlgorithm") [(.ref en0), (.ref en1), (.ref en2), (.ref en3), (.ref en4), (.ref en5), (.ref en6)]) (E_v : Exa Z Z.heap vv "[Lcom/example/verity/verity/SignatureAlgorithm;") (FI0 : Fld Z Z.heap en0 "com/example/verity/verity/SignatureAlgorithm" "id" "I" (.int 258)) (FI1 : Fld Z Z.heap en1 "com/example/verity/verity/SignatureAlgorithm" "id" "I" (.int 260)) (FI2 : Fld Z Z.heap en2 "com/example/verity/verity/SignatureAlgorithm" "id" "I" (.int 514)) (FI3 : Fld Z Z.heap en3 "com/example/verity/verity/SignatureAlgorithm" "id" "I" (.int 257)) (FI4 : Fld Z Z.heap en4 "com/example/verity/verity/SignatureAlgorithm" "id" "I" (.int 259)) (FI5 : Fld Z Z.heap en5 "com/example/verity/verity/SignatureAlgorithm" "id" "I" (.int 513)) (FI6 : Fld Z Z.heap en6 "com/example/verity/verity/SignatureAlgorithm" "id" "I" (.int 769)) (oe : Addr) (S_o : Sta Z Z.heap "java/util/Optional" "EMPTY" "Ljava/util/Optional;" (.ref oe)) (E_o : Exa Z Z.heap oe "java/util/Optional") (F_o : Fld Z Z.heap oe "java/util/Optional" "value" "Ljava/lang/Object;" .null) :
    own_C l Z (⟨"com/example/verity/verity/SignatureAlgorithm", "byId", "(I)Ljava/util/Optional;"⟩ : MethodName) prog_33_method_4_code 5 (some (.object "java/util/Optional")) [] ({ frames := 3, cells := 2, slots := 8, locals := 40 } : Room) #[(.int p1)] h0 (fun v h L => ∃ o, v = some (.ref o) ∧ Fr n0 L ∧ Keep h0 h [] ∧ Exa Z h o "java/util/Optional" ∧ Fld Z h o "java/util/Optional" "value" "Ljava/lang/Object;" (own_ex en0 en1 en2 en3 en4 en5 en6 p1)) := by
  refine own_body (plainFor_of_name own_pn1) fun p e s m below meth c s₁ hx hby hml hret hlk hown hnm hZ X0 e0 => ?_
  rw [own_efby m p1]
  have N0 := Fr.nil n0
  have K := Keep.refl h0 []
  obtain ⟨v1, T1, h1, L1, e1, X1, hQ1, st1⟩ := own_callS X0 hx hZ (y := (⟨"com/example/verity/verity/SignatureAlgorithm", "values", "()[Lcom/example/verity/verity/SignatureAlgorithm;"⟩ : MethodName)) hown (hw _ (List.mem_of_getElem? (i := 9) rfl)) (hw _ (List.mem_of_getElem? (i := 10) rfl)) (hw _ (List.mem_of_getElem? (i := 7) rfl)) (hw _ (List.mem_of_getElem? (i := 11) rfl)) (by decide) (own_rmva l Z a0 hw h0 n0 en0 en1 en2 en3 en4 en5 en6 O vv kv S_v V_v E_v) (W := 0) (by decide) (by decide) (g := (mkF m 0 #[.val (.int p1), .unset, .unset, .unset, .unset] [])) rfl (by rw [hml]; rfl) (argsL := []) (rest := []) (lenOf own_pd2 rfl) rfl rfl (by show 2 * 0 + _ ≤ _; exact Nat.le_of_eq rfl) (hb hby dby_0) e0 (by decide) (by decide)
  obtain ⟨x, rfl, rfl, Kq, sz_x, V_x⟩ := hQ1
  rw [List.append_nil] at X1
  have K := K.trans Kq all0
  have O := O.keep Kq all0
  refine own_go (U' := T1.setTop (mkF m 3 #[.val (.int p1), .unset, .unset, .unset, .unset] [(.ref x)])) st1 ?_
  refine own_go (U' := T1.setTop (mkF m 4 #[.val (.int p1), .val (.ref x), .unset, .unset, .unset] [])) (fun t k => XS.astoreN X1.here hx rfl (hb hby dby_3) rfl rfl (l' := #[.val (.int p1), .val (.ref x), .unset, .unset, .unset]) rfl k) ?_
  refine own_go (U' := T1.setTop (mkF m 5 #[.val (.int p1), .val (.ref x), .unset, .unset, .unset] [(.ref x)])) (fun t k => XS.aloadN X1.here hx rfl (hb hby dby_4) rfl rfl k) ?_
  refine own_go (U' := T1.setTop (mkF m 6 #[.val (.int p1), .val (.ref x), .unset, .unset, .unset] [(.int (7 : Int32))])) (own_arrlen X1 hx hZ e1 V_x (n := (7 : Int32)) rfl (g := (mkF m 5 #[.val (.int p1), .val (.ref x), .unset, .unset, .unset] [(.ref x)])) rfl rfl (hb hby dby_5)) ?_
  refine own_go (U' := T1.setTop (mkF m 7 #[.val (.int p1), .val (.ref x), .val (.int (7 : Int32)), .unset, .unset] [])) (fun t k => XS.istoreN X1.here hx rfl (hb hby dby_6) rfl (l' := #[.val (.int p1), .val (.ref x), .val (.int (7 : Int32)), .unset, .unset]) rfl k) ?_
  refine own_go (U' := T1.setTop (mkF m 8 #[.val (.int p1), .val (.ref x), .val (.int (7 : Int32)), .unset, .unset] [(.int (0 : Int32))])) (fun t k => XS.iconst X1.here hx rfl (hb hby dby_7) k) ?_
  refine own_go (U' := T1.setTop (mkF m 9 #[.val (.int p1), .val (.ref x), .val (.int (7 : Int32)), .val (.int (0 : Int32)), .unset] [])) (fun t k => XS.istoreN X1.here hx rfl (hb hby dby_8) rfl (l' := #[.val (.int p1), .val (.ref x), .val (.int (7 : Int32)), .val (.int (0 : Int32)), .unset]) rfl k) ?_
  refine own_go (U' := T1.setTop (mkF m 10 #[.val (.int p1), .val (.ref x), .val (.int (7 : Int32)), .val (.int (0 : Int32)), .unset] [(.int (0 : Int32))])) (fun t k => XS.iloadN X1.here hx rfl (hb hby dby_9) rfl k) ?_
  refine own_go (U' := T1.setTop (mkF m 11 #[.val (.int p1), .val (.ref x), .val (.int (7 : Int32)), .val (.int (0 : Int32)), .unset] [(.int (7 : Int32)), (.int (0 : Int32))])) (fun t k => XS.iloadN X1.here hx rfl (hb hby dby_10) rfl k) ?_
  refine own_go (U' := T1.setTop (mkF m 14 #[.val (.int p1), .val (.ref x), .val (.int (7 : Int32)), .val (.int (0 : Int32)), .unset] [])) (fun t k => XS.icmpNo X1.here hx rfl (hb hby dby_11) rfl (tlt (by decide)).2.1 k) ?_
  refine own_go (U' := T1.setTop (mkF m 15 #[.val (.int p1), .val (.ref x), .val (.int (7 : Int32)), .val (.int (0 : Int32)), .unset] [(.ref x)])) (fun t k => XS.aloadN X1.here hx rfl (hb hby dby_14) rfl rfl k) ?_
  refine own_go (U' := T1.setTop (mkF m 16 #[.val (.int p1), .val (.ref x), .val (.int (7 : Int32)), .val (.int (0 : Int32)), .unset] [(.int (0 : Int32)), (.ref x)])) (fun t k => XS.iloadN X1.here hx rfl (hb hby dby_15) rfl k) ?_
  refine own_go (U' := T1.setTop (mkF m 17 #[.val (.int p1), .val (.ref x), .val (.int (7 : Int32)), .val (.int (0 : Int32)), .unset] [(.ref en0)])) (own_aaload X1 hx hZ e1 V_x rfl (j := (0 : Int32)) (by decide) (i := 0) rfl (v := (.ref en0)) rfl (g := (mkF m 16 #[.val (.int p1), .val (.ref x), .val (.int (7 : Int32)), .val (.int (0 : Int32)), .unset] [(.int (0 : Int32)), (.ref x)])) rfl rfl (hb hby dby_16)) ?_
  refine own_go (U' := T1.setTop (mkF m 19 #[.val (.int p1), .val (.ref x), .val (.int (7 : Int32)), .val (.int (0 : Int32)), .val (.ref en0)] [])) (fun t k => XS.astore X1.here hx rfl (hb hby dby_17) rfl rfl (l' := #[.val (.int p1), .val (.ref x), .val (.int (7 : Int32)), .val (.int (0 : Int32)), .val (.ref en0)]) rfl k) ?_
  refine own_go (U' := T1.setTop (mkF m 21 #[.val (.int p1), .val (.ref x), .val (.int (7 : Int32)), .val (.int (0 : Int32)), .val (.ref en0)] [(.ref en0)])) (fun t k => XS.aload X1.here hx rfl (hb hby dby_19) rfl rfl k) ?_
  obtain ⟨T2, X2, e2, st2⟩ := getF X1 hx hZ hown (host := "") (Or.inl (hw _ (List.mem_of_getElem? (i := 31) rfl))) Via.refl e1 (FI0.ext O.2) (g := (mkF m 21 #[.val (.int p1), .val (.ref x), .val (.int (7 : Int32)), .val (.int (0 : Int32)), .val (.ref en0)] [(.ref en0)])) rfl rfl (hb hby dby_21)
  refine own_go (U' := T2.setTop (mkF m 24 #[.val (.int p1), .val (.ref x), .val (.int (7 : Int32)), .val (.int (0 : Int32)), .val (.ref en0)] [(.int (258 : Int32))])) st2 ?_
  refine own_go (U' := T2.setTop (mkF m 25 #[.val (.int p1), .val (.ref x), .val (.int (7 : Int32)), .val (.int (0 : Int32)), .val (.ref en0)] [(.int p1), (.int (258 : Int32))])) (fun t k => XS.iloadN X2.here hx rfl (hb hby dby_24) rfl k) ?_
  by_cases hi0 : p1 = (258 : Int32)
  · refine own_go (U' := T2.setTop (mkF m 28 #[.val (.int p1), .val (.ref x), .val (.int (7 : Int32)), .val (.int (0 : Int32)), .val (.ref en0)] [])) (fun t k => XS.icmpNo X2.here hx rfl (hb hby dby_25) rfl (teq hi0.symm).2 k) ?_
    refine own_go (U' := T2.setTop (mkF m 30 #[.val (.int p1), .val (.ref x), .val (.int (7 : Int32)), .val (.int (0 : Int32)), .val (.ref en0)] [(.ref en0)])) (fun t k => XS.aload X2.here hx rfl (hb hby dby_28) rfl rfl k) ?_
    obtain ⟨v3, T3, h3, L3, e3, X3, hQ3, st3⟩ := own_callS X2 hx hZ (y := (⟨"java/util/Optional", "of", "(Ljava/lang/Object;)Ljava/util/Optional;"⟩ : MethodName)) hown (hw _ (List.mem_of_getElem? (i := 46) rfl)) (hw _ (List.mem_of_getElem? (i := 47) rfl)) (hw _ (List.mem_of_getElem? (i := 35) rfl)) (hw _ (List.mem_of_getElem? (i := 48) rfl)) (by decide) (own_rmof l Z a0 hw en0 h1 n0 O) (W := 0) (by decide) (by decide) (g := (mkF m 30 #[.val (.int p1), .val (.ref x), .val (.int (7 : Int32)), .val (.int (0 : Int32)), .val (.ref en0)] [(.ref en0)])) rfl (by rw [hml]; rfl) (argsL := [(.ref en0)]) (rest := []) (lenOf own_pd5 rfl) rfl rfl (by show 2 * 0 + _ ≤ _; exact Nat.le_of_eq rfl) (hb hby dby_30) e2 (by decide) (by decide)
    obtain ⟨o, rfl, Nq, Kq, Eo, Fo⟩ := hQ3
    have K := K.trans Kq all0
    have O := O.keep Kq all0
    have V_x := V_x.keep Kq nin0
    have N3 := Fr.app N0 Nq
    refine own_go (U' := T3.setTop (mkF m 33 #[.val (.int p1), .val (.ref x), .val (.int (7 : Int32)), .val (.int (0 : Int32)), .val (.ref en0)] [(.ref o)])) st3 ?_
    refine own_retA X3 hx (t := (.object "java/util/Optional")) hret rfl hlk rfl (hb hby dby_33) ?_ (by decide) (by decide)
    rw [e3, own_ex, if_pos hi0]
    exact ⟨_, rfl, N3, K, Eo, Fo⟩
  · refine own_go (U' := T2.setTop (mkF m 34 #[.val (.int p1), .val (.ref x), .val (.int (7 : Int32)), .val (.int (0 : Int32)), .val (.ref en0)] [])) (fun t k => XS.icmpYes X2.here hx rfl (pc0 := 25) (pc' := 34) rfl (hb hby dby_25) rfl (feq (fun q => hi0 q.symm)).2 (by decide) (by decide) k) ?_
    refine own_go (U' := T2.setTop (mkF m 37 #[.val (.int p1), .val (.ref x), .val (.int (7 : Int32)), .val (.int (1 : Int32)), .val (.ref en0)] [])) (fun t k => XS.iinc X2.here hx rfl (hb hby dby_34) rfl (l' := #[.val (.int p1), .val (.ref x), .val (.int (7 : Int32)), .val (.int (1 : Int32)), .val (.ref en0)]) rfl k) ?_
    refine own_go (U' := T2.setTop (mkF m 9 #[.val (.int p1), .val (.ref x), .val (.int (7 : Int32)), .val (.int (1 : Int32)), .val (.ref en0)] [])) (fun t k => XS.goto X2.here hx rfl (pc0 := 37) (pc' := 9) rfl (hb hby dby_37) (by decide) (by decide) k) ?_
    refine own_go (U' := T2.setTop (mkF m 10 #[.val (.int p1), .val (.ref x), .val (.int (7 : Int32)), .val (.int (1 : Int32)), .val (.ref en0)] [(.int (1 : Int32))])) (fun t k => XS.iloadN X2.here hx rfl (hb hby dby_9) rfl k) ?_
    refine own_go (U' := T2.setTop (mkF m 11 #[.val (.int p1), .val (.ref x), .val (.int (7 : Int32)), .val (.int (1 : Int32)), .val (.ref en0)] [(.int (7 : Int32)), (.int (1 : Int32))])) (fun t k => XS.iloadN X2.here hx rfl (hb hby dby_10) rfl k) ?_
    refine own_go (U' := T2.setTop (mkF m 14 #[.val (.int p1), .val (.ref x), .val (.int (7 : Int32)), .val (.int (1 : Int32)), .val (.ref en0)] [])) (fun t k => XS.icmpNo X2.here hx rfl (hb hby dby_11) rfl (tlt (by decide)).2.1 k) ?_
    refine own_go (U' := T2.setTop (mkF m 15 #[.val (.int p1), .val (.ref x), .val (.int (7 : Int32)), .val (.int (1 : Int32)), .val (.ref en0)] [(.ref x)])) (fun t k => XS.aloadN X2.here hx rfl (hb hby dby_14) rfl rfl k) ?_
    refine own_go (U' := T2.setTop (mkF m 16 #[.val (.int p1), .val (.ref x), .val (.int (7 : Int32)), .val (.int (1 : Int32)), .val (.ref en0)] [(.int (1 : Int32)), (.ref x)])) (fun t k => XS.iloadN X2.here hx rfl (hb hby dby_15) rfl k) ?_
    refine own_go (U' := T2.setTop (mkF m 17 #[.val (.int p1), .val (.ref x), .val (.int (7 : Int32)), .val (.int (1 : Int32)), .val (.ref en0)] [(.ref en1)])) (own_aaload X2 hx hZ e2 V_x rfl (j := (1 : Int32)) (by decide) (i := 1) rfl (v := (.ref en1)) rfl (g := (mkF m 16 #[.val (.int p1), .val (.ref x), .val (.int (7 : Int32)), .val (.int (1 : Int32)), .val (.ref en0)] [(.int (1 : Int32)), (.ref x)])) rfl rfl (hb hby dby_16)) ?_
    refine own_go (U' := T2.setTop (mkF m 19 #[.val (.int p1), .val (.ref x), .val (.int (7 : Int32)), .val (.int (1 : Int32)), .val (.ref en1)] [])) (fun t k => XS.astore X2.here hx rfl (hb hby dby_17) rfl rfl (l' := #[.val (.int p1), .val (.ref x), .val (.int (7 : Int32)), .val (.int (1 : Int32)), .val (.ref en1)]) rfl k) ?_
    refine own_go (U' := T2.setTop (mkF m 21 #[.val (.int p1), .val (.ref x), .val (.int (7 : Int32)), .val (.int (1 : Int32)), .val (.ref en1)] [(.ref en1)])) (fun t k => XS.aload X2.here hx rfl (hb hby dby_19) rfl rfl k) ?_
    obtain ⟨T4, X4, e4, st4⟩ := getF X2 hx hZ hown (host := "") (Or.inl (hw _ (List.mem_of_getElem? (i := 31) rfl))) Via.refl e2 (FI1.ext O.2) (g := (mkF m 21 #[.val (.int p1), .val (.ref x), .val (.int (7 : Int32)), .val (.int (1 : Int32)), .val (.ref en1)] [(.ref en1)])) rfl rfl (hb hby dby_21)
    refine own_go (U' := T4.setTop (mkF m 24 #[.val (.int p1), .val (.ref x), .val (.int (7 : Int32)), .val (.int (1 : Int32)), .val (.ref en1)] [(.int (260 : Int32))])) st4 ?_
    refine own_go (U' := T4.setTop (mkF m 25 #[.val (.int p1), .val (.ref x), .val (.int (7 : Int32)), .val (.int (1 : Int32)), .val (.ref en1)] [(.int p1), (.int (260 : Int32))])) (fun t k => XS.iloadN X4.here hx rfl (hb hby dby_24) rfl k) ?_
    by_cases hi1 : p1 = (260 : Int32)
    · refine own_go (U' := T4.setTop (mkF m 28 #[.val (.int p1), .val (.ref x), .val (.int (7 : Int32)), .val (.int (1 : Int32)), .val (.ref en1)] [])) (fun t k => XS.icmpNo X4.here hx rfl (hb hby dby_25) rfl (teq hi1.symm).2 k) ?_
      refine own_go (U' := T4.setTop (mkF m 30 #[.val (.int p1), .val (.ref x), .val (.int (7 : Int32)), .val (.int (1 : Int32)), .val (.ref en1)] [(.ref en1)])) (fun t k => XS.aload X4.here hx rfl (hb hby dby_28) rfl rfl k) ?_
      obtain ⟨v5, T5, h5, L5, e5, X5, hQ5, st5⟩ := own_callS X4 hx hZ (y := (⟨"java/util/Optional", "of", "(Ljava/lang/Object;)Ljava/util/Optional;"⟩ : MethodName)) hown (hw _ (List.mem_of_getElem? (i := 46) rfl)) (hw _ (List.mem_of_getElem? (i := 47) rfl)) (hw _ (List.mem_of_getElem? (i := 35) rfl)) (hw _ (List.mem_of_getElem? (i := 48) rfl)) (by decide) (own_rmof l Z a0 hw en1 h1 n0 O) (W := 0) (by decide) (by decide) (g := (mkF m 30 #[.val (.int p1), .val (.ref x), .val (.int (7 : Int32)), .val (.int (1 : Int32)), .val (.ref en1)] [(.ref en1)])) rfl (by rw [hml]; rfl) (argsL := [(.ref en1)]) (rest := []) (lenOf own_pd5 rfl) rfl rfl (by show 2 * 0 + _ ≤ _; exact Nat.le_of_eq rfl) (hb hby dby_30) e4 (by decide) (by decide)
      obtain ⟨o, rfl, Nq, Kq, Eo, Fo⟩ := hQ5
      have K := K.trans Kq all0
      have O := O.keep Kq all0
      have V_x := V_x.keep Kq nin0
      have N5 := Fr.app N0 Nq
      refine own_go (U' := T5.setTop (mkF m 33 #[.val (.int p1), .val (.ref x), .val (.int (7 : Int32)), .val (.int (1 : Int32)), .val (.ref en1)] [(.ref o)])) st5 ?_
      refine own_retA X5 hx (t := (.object "java/util/Optional")) hret rfl hlk rfl (hb hby dby_33) ?_ (by decide) (by decide)
      rw [e5, own_ex, if_neg hi0, if_pos hi1]
      exact ⟨_, rfl, N5, K, Eo, Fo⟩
    · refine own_go (U' := T4.setTop (mkF m 34 #[.val (.int p1), .val (.ref x), .val (.int (7 : Int32)), .val (.int (1 : Int32)), .val (.ref en1)] [])) (fun t k => XS.icmpYes X4.here hx rfl (pc0 := 25) (pc' := 34) rfl (hb hby dby_25) rfl (feq (fun q => hi1 q.symm)).2 (by decide) (by decide) k) ?_
      refine own_go (U' := T4.setTop (mkF m 37 #[.val (.int p1), .val (.ref x), .val (.int (7 : Int32)), .val (.int (2 : Int32)), .val (.ref en1)] [])) (fun t k => XS.iinc X4.here hx rfl (hb hby dby_34) rfl (l' := #[.val (.int p1), .val (.ref x), .val (.int (7 : Int32)), .val (.int (2 : Int32)), .val (.ref en1)]) rfl k) ?_
      refine own_go (U' := T4.setTop (mkF m 9 #[.val (.int p1), .val (.ref x), .val (.int (7 : Int32)), .val (.int (2 : Int32)), .val (.ref en1)] [])) (fun t k => XS.goto X4.here hx rfl (pc0 := 37) (pc' := 9) rfl (hb hby dby_37) (by decide) (by decide) k) ?_
      refine own_go (U' := T4.setTop (mkF m 10 #[.val (.int p1), .val (.ref x), .val (.int (7 : Int32)), .val (.int (2 : Int32)), .val (.ref en1)] [(.int (2 : Int32))])) (fun t k => XS.iloadN X4.here hx rfl (hb hby dby_9) rfl k) ?_
      refine own_go (U' := T4.setTop (mkF m 11 #[.val (.int p1), .val (.ref x), .val (.int (7 : Int32)), .val (.int (2 : Int32)), .val (.ref en1)] [(.int (7 : Int32)), (.int (2 : Int32))])) (fun t k => XS.iloadN X4.here hx rfl (hb hby dby_10) rfl k) ?_
      refine own_go (U' := T4.setTop (mkF m 14 #[.val (.int p1), .val (.ref x), .val (.int (7 : Int32)), .val (.int (2 : Int32)), .val (.ref en1)] [])) (fun t k => XS.icmpNo X4.here hx rfl (hb hby dby_11) rfl (tlt (by decide)).2.1 k) ?_
      refine own_go (U' := T4.setTop (mkF m 15 #[.val (.int p1), .val (.ref x), .val (.int (7 : Int32)), .val (.int (2 : Int32)), .val (.ref en1)] [(.ref x)])) (fun t k => XS.aloadN X4.here hx rfl (hb hby dby_14) rfl rfl k) ?_
      refine own_go (U' := T4.setTop (mkF m 16 #[.val (.int p1), .val (.ref x), .val (.int (7 : Int32)), .val (.int (2 : Int32)), .val (.ref en1)] [(.int (2 : Int32)), (.ref x)])) (fun t k => XS.iloadN X4.here hx rfl (hb hby dby_15) rfl k) ?_
      refine own_go (U' := T4.setTop (mkF m 17 #[.val (.int p1), .val (.ref x), .val (.int (7 : Int32)), .val (.int (2 : Int32)), .val (.ref en1)] [(.ref en2)])) (own_aaload X4 hx hZ e4 V_x rfl (j := (2 : Int32)) (by decide) (i := 2) rfl (v := (.ref en2)) rfl (g := (mkF m 16 #[.val (.int p1), .val (.ref x), .val (.int (7 : Int32)), .val (.int (2 : Int32)), .val (.ref en1)] [(.int (2 : Int32)), (.ref x)])) rfl rfl (hb hby dby_16)) ?_
      refine own_go (U' := T4.setTop (mkF m 19 #[.val (.int p1), .val (.ref x), .val (.int (7 : Int32)), .val (.int (2 : Int32)), .val (.ref en2)] [])) (fun t k => XS.astore X4.here hx rfl (hb hby dby_17) rfl rfl (l' := #[.val (.int p1), .val (.ref x), .val (.int (7 : Int32)), .val (.int (2 : Int32)), .val (.ref en2)]) rfl k) ?_
      refine own_go (U' := T4.setTop (mkF m 21 #[.val (.int p1), .val (.ref x), .val (.int (7 : Int32)), .val (.int (2 : Int32)), .val (.ref en2)] [(.ref en2)])) (fun t k => XS.aload X4.here hx rfl (hb hby dby_19) rfl rfl k) ?_
      obtain ⟨T6, X6, e6, st6⟩ := getF X4 hx hZ hown (host := "") (Or.inl (hw _ (List.mem_of_getElem? (i := 31) rfl))) Via.refl e4 (FI2.ext O.2) (g := (mkF m 21 #[.val (.int p1), .val (.ref x), .val (.int (7 : Int32)), .val (.int (2 : Int32)), .val (.ref en2)] [(.ref en2)])) rfl rfl (hb hby dby_21)
      refine own_go (U' := T6.setTop (mkF m 24 #[.val (.int p1), .val (.ref x), .val (.int (7 : Int32)), .val (.int (2 : Int32)), .val (.ref en2)] [(.int (514 : Int32))])) st6 ?_
      refine own_go (U' := T6.setTop (mkF m 25 #[.val (.int p1), .val (.ref x), .val (.int (7 : Int32)), .val (.int (2 : Int32)), .val (.ref en2)] [(.int p1), (.int (514 : Int32))])) (fun t k => XS.iloadN X6.here hx rfl (hb hby dby_24) rfl k) ?_
      by_cases hi2 : p1 = (514 : Int32)
      · refine own_go (U' := T6.setTop (mkF m 28 #[.val (.int p1), .val (.ref x), .val (.int (7 : Int32)), .val (.int (2 : Int32)), .val (.ref en2)] [])) (fun t k => XS.icmpNo X6.here hx rfl (hb hby dby_25) rfl (teq hi2.symm).2 k) ?_
        refine own_go (U' := T6.setTop (mkF m 30 #[.val (.int p1), .val (.ref x), .val (.int (7 : Int32)), .val (.int (2 : Int32)), .val (.ref en2)] [(.ref en2)])) (fun t k => XS.aload X6.here hx rfl (hb hby dby_28) rfl rfl k) ?_
        obtain ⟨v7, T7, h7, L7, e7, X7, hQ7, st7⟩ := own_callS X6 hx hZ (y := (⟨"java/util/Optional", "of", "(Ljava/lang/Object;)Ljava/util/Optional;"⟩ : MethodName)) hown (hw _ (List.mem_of_getElem? (i := 46) rfl)) (hw _ (List.mem_of_getElem? (i := 47) rfl)) (hw _ (List.mem_of_getElem? (i := 35) rfl)) (hw _ (List.mem_of_getElem? (i := 48) rfl)) (by decide) (own_rmof l Z a0 hw en2 h1 n0 O) (W := 0) (by decide) (by decide) (g := (mkF m 30 #[.val (.int p1), .val (.ref x), .val (.int (7 : Int32)), .val (.int (2 : Int32)), .val (.ref en2)] [(.ref en2)])) rfl (by rw [hml]; rfl) (argsL := [(.ref en2)]) (rest := []) (lenOf own_pd5 rfl) rfl rfl (by show 2 * 0 + _ ≤ _; exact Nat.le_of_eq rfl) (hb hby dby_30) e6 (by decide) (by decide)
        obtain ⟨o, rfl, Nq, Kq, Eo, Fo⟩ := hQ7
        have K := K.trans Kq all0
        have O := O.keep Kq all0
        have V_x := V_x.keep Kq nin0
        have N7 := Fr.app N0 Nq
        refine own_go (U' := T7.setTop (mkF m 33 #[.val (.int p1), .val (.ref x), .val (.int (7 : Int32)), .val (.int (2 : Int32)), .val (.ref en2)] [(.ref o)])) st7 ?_
        refine own_retA X7 hx (t := (.object "java/util/Optional")) hret rfl hlk rfl (hb hby dby_33) ?_ (by decide) (by decide)
        rw [e7, own_ex, if_neg hi0, if_neg hi1, if_pos hi2]
        exact ⟨_, rfl, N7, K, Eo, Fo⟩
      · refine own_go (U' := T6.setTop (mkF m 34 #[.val (.int p1), .val (.ref x), .val (.int (7 : Int32)), .val (.int (2 : Int32)), .val (.ref en2)] [])) (fun t k => XS.icmpYes X6.here hx rfl (pc0 := 25) (pc' := 34) rfl (hb hby dby_25) rfl (feq (fun q => hi2 q.symm)).2 (by decide) (by decide) k) ?_
        refine own_go (U' := T6.setTop (mkF m 37 #[.val (.int p1), .val (.ref x), .val (.int (7 : Int32)), .val (.int (3 : Int32)), .val (.ref en2)] [])) (fun t k => XS.iinc X6.here hx rfl (hb hby dby_34) rfl (l' := #[.val (.int p1), .val (.ref x), .val (.int (7 : Int32)), .val (.int (3 : Int32)), .val (.ref en2)]) rfl k) ?_
        refine own_go (U' := T6.setTop (mkF m 9 #[.val (.int p1), .val (.ref x), .val (.int (7 : Int32)), .val (.int (3 : Int32)), .val (.ref en2)] [])) (fun t k => XS.goto X6.here hx rfl (pc0 := 37) (pc' := 9) rfl (hb hby dby_37) (by decide) (by decide) k) ?_
        refine own_go (U' := T6.setTop (mkF m 10 #[.val (.int p1), .val (.ref x), .val (.int (7 : Int32)), .val (.int (3 : Int32)), .val (.ref en2)] [(.int (3 : Int32))])) (fun t k => XS.iloadN X6.here hx rfl (hb hby dby_9) rfl k) ?_
        refine own_go (U' := T6.setTop (mkF m 11 #[.val (.int p1), .val (.ref x), .val (.int (7 : Int32)), .val (.int (3 : Int32)), .val (.ref en2)] [(.int (7 : Int32)), (.int (3 : Int32))])) (fun t k => XS.iloadN X6.here hx rfl (hb hby dby_10) rfl k) ?_
        refine own_go (U' := T6.setTop (mkF m 14 #[.val (.int p1), .val (.ref x), .val (.int (7 : Int32)), .val (.int (3 : Int32)), .val (.ref en2)] [])) (fun t k => XS.icmpNo X6.here hx rfl (hb hby dby_11) rfl (tlt (by decide)).2.1 k) ?_
        refine own_go (U' := T6.setTop (mkF m 15 #[.val (.int p1), .val (.ref x), .val (.int (7 : Int32)), .val (.int (3 : Int32)), .val (.ref en2)] [(.ref x)])) (fun t k => XS.aloadN X6.here hx rfl (hb hby dby_14) rfl rfl k) ?_
        refine own_go (U' := T6.setTop (mkF m 16 #[.val (.int p1), .val (.ref x), .val (.int (7 : Int32)), .val (.int (3 : Int32)), .val (.ref en2)] [(.int (3 : Int32)), (.ref x)])) (fun t k => XS.iloadN X6.here hx rfl (hb hby dby_15) rfl k) ?_
        refine own_go (U' := T6.setTop (mkF m 17 #[.val (.int p1), .val (.ref x), .val (.int (7 : Int32)), .val (.int (3 : Int32)), .val (.ref en2)] [(.ref en3)])) (own_aaload X6 hx hZ e6 V_x rfl (j := (3 : Int32)) (by decide) (i := 3) rfl (v := (.ref en3)) rfl (g := (mkF m 16 #[.val (.int p1), .val (.ref x), .val (.int (7 : Int32)), .val (.int (3 : Int32)), .val (.ref en2)] [(.int (3 : Int32)), (.ref x)])) rfl rfl (hb hby dby_16)) ?_
        refine own_go (U' := T6.setTop (mkF m 19 #[.val (.int p1), .val (.ref x), .val (.int (7 : Int32)), .val (.int (3 : Int32)), .val (.ref en3)] [])) (fun t k => XS.astore X6.here hx rfl (hb hby dby_17) rfl rfl (l' := #[.val (.int p1), .val (.ref x), .val (.int (7 : Int32)), .val (.int (3 : Int32)), .val (.ref en3)]) rfl k) ?_
        refine own_go (U' := T6.setTop (mkF m 21 #[.val (.int p1), .val (.ref x), .val (.int (7 : Int32)), .val (.int (3 : Int32)), .val (.ref en3)] [(.ref en3)])) (fun t k => XS.aload X6.here hx rfl (hb hby dby_19) rfl rfl k) ?_
        obtain ⟨T8, X8, e8, st8⟩ := getF X6 hx hZ hown (host := "") (Or.inl (hw _ (List.mem_of_getElem? (i := 31) rfl))) Via.refl e6 (FI3.ext O.2) (g := (mkF m 21 #[.val (.int p1), .val (.ref x), .val (.int (7 : Int32)), .val (.int (3 : Int32)), .val (.ref en3)] [(.ref en3)])) rfl rfl (hb hby dby_21)
        refine own_go (U' := T8.setTop (mkF m 24 #[.val (.int p1), .val (.ref x), .val (.int (7 : Int32)), .val (.int (3 : Int32)), .val (.ref en3)] [(.int (257 : Int32))])) st8 ?_
        refine own_go (U' := T8.setTop (mkF m 25 #[.val (.int p1), .val (.ref x), .val (.int (7 : Int32)), .val (.int (3 : Int32)), .val (.ref en3)] [(.int p1), (.int (257 : Int32))])) (fun t k => XS.iloadN X8.here hx rfl (hb hby dby_24) rfl k) ?_
        by_cases hi3 : p1 = (257 : Int32)
        · refine own_go (U' := T8.setTop (mkF m 28 #[.val (.int p1), .val (.ref x), .val (.int (7 : Int32)), .val (.int (3 : Int32)), .val (.ref en3)] [])) (fun t k => XS.icmpNo X8.here hx rfl (hb hby dby_25) rfl (teq hi3.symm).2 k) ?_
          refine own_go (U' := T8.setTop (mkF m 30 #[.val (.int p1), .val (.ref x), .val (.int (7 : Int32)), .val (.int (3 : Int32)), .val (.ref en3)] [(.ref en3)])) (fun t k => XS.aload X8.here hx rfl (hb hby dby_28) rfl rfl k) ?_
          obtain ⟨v9, T9, h9, L9, e9, X9, hQ9, st9⟩ := own_callS X8 hx hZ (y := (⟨"java/util/Optional", "of", "(Ljava/lang/Object;)Ljava/util/Optional;"⟩ : MethodName)) hown (hw _ (List.mem_of_getElem? (i := 46) rfl)) (hw _ (List.mem_of_getElem? (i := 47) rfl)) (hw _ (List.mem_of_getElem? (i := 35) rfl)) (hw _ (List.mem_of_getElem? (i := 48) rfl)) (by decide) (own_rmof l Z a0 hw en3 h1 n0 O) (W := 0) (by decide) (by decide) (g := (mkF m 30 #[.val (.int p1), .val (.ref x), .val (.int (7 : Int32)), .val (.int (3 : Int32)), .val (.ref en3)] [(.ref en3)])) rfl (by rw [hml]; rfl) (argsL := [(.ref en3)]) (rest := []) (lenOf own_pd5 rfl) rfl rfl (by show 2 * 0 + _ ≤ _; exact Nat.le_of_eq rfl) (hb hby dby_30) e8 (by decide) (by decide)
          obtain ⟨o, rfl, Nq, Kq, Eo, Fo⟩ := hQ9
          have K := K.trans Kq all0
          have O := O.keep Kq all0
          have V_x := V_x.keep Kq nin0
          have N9 := Fr.app N0 Nq
          refine own_go (U' := T9.setTop (mkF m 33 #[.val (.int p1), .val (.ref x), .val (.int (7 : Int32)), .val (.int (3 : Int32)), .val (.ref en3)] [(.ref o)])) st9 ?_
          refine own_retA X9 hx (t := (.object "java/util/Optional")) hret rfl hlk rfl (hb hby dby_33) ?_ (by decide) (by decide)
          rw [e9, own_ex, if_neg hi0, if_neg hi1, if_neg hi2, if_pos hi3]
          exact ⟨_, rfl, N9, K, Eo, Fo⟩
        · refine own_go (U' := T8.setTop (mkF m 34 #[.val (.int p1), .val (.ref x), .val (.int (7 : Int32)), .val (.int (3 : Int32)), .val (.ref en3)] [])) (fun t k => XS.icmpYes X8.here hx rfl (pc0 := 25) (pc' := 34) rfl (hb hby dby_25) rfl (feq (fun q => hi3 q.symm)).2 (by decide) (by decide) k) ?_
          refine own_go (U' := T8.setTop (mkF m 37 #[.val (.int p1), .val (.ref x), .val (.int (7 : Int32)), .val (.int (4 : Int32)), .val (.ref en3)] [])) (fun t k => XS.iinc X8.here hx rfl (hb hby dby_34) rfl (l' := #[.val (.int p1), .val (.ref x), .val (.int (7 : Int32)), .val (.int (4 : Int32)), .val (.ref en3)]) rfl k) ?_
          refine own_go (U' := T8.setTop (mkF m 9 #[.val (.int p1), .val (.ref x), .val (.int (7 : Int32)), .val (.int (4 : Int32)), .val (.ref en3)] [])) (fun t k => XS.goto X8.here hx rfl (pc0 := 37) (pc' := 9) rfl (hb hby dby_37) (by decide) (by decide) k) ?_
          refine own_go (U' := T8.setTop (mkF m 10 #[.val (.int p1), .val (.ref x), .val (.int (7 : Int32)), .val (.int (4 : Int32)), .val (.ref en3)] [(.int (4 : Int32))])) (fun t k => XS.iloadN X8.here hx rfl (hb hby dby_9) rfl k) ?_
          refine own_go (U' := T8.setTop (mkF m 11 #[.val (.int p1), .val (.ref x), .val (.int (7 : Int32)), .val (.int (4 : Int32)), .val (.ref en3)] [(.int (7 : Int32)), (.int (4 : Int32))])) (fun t k => XS.iloadN X8.here hx rfl (hb hby dby_10) rfl k) ?_
          refine own_go (U' := T8.setTop (mkF m 14 #[.val (.int p1), .val (.ref x), .val (.int (7 : Int32)), .val (.int (4 : Int32)), .val (.ref en3)] [])) (fun t k => XS.icmpNo X8.here hx rfl (hb hby dby_11) rfl (tlt (by decide)).2.1 k) ?_
          refine own_go (U' := T8.setTop (mkF m 15 #[.val (.int p1), .val (.ref x), .val (.int (7 : Int32)), .val (.int (4 : Int32)), .val (.ref en3)] [(.ref x)])) (fun t k => XS.aloadN X8.here hx rfl (hb hby dby_14) rfl rfl k) ?_
          refine own_go (U' := T8.setTop (mkF m 16 #[.val (.int p1), .val (.ref x), .val (.int (7 : Int32)), .val (.int (4 : Int32)), .val (.ref en3)] [(.int (4 : Int32)), (.ref x)])) (fun t k => XS.iloadN X8.here hx rfl (hb hby dby_15) rfl k) ?_
          refine own_go (U' := T8.setTop (mkF m 17 #[.val (.int p1), .val (.ref x), .val (.int (7 : Int32)), .val (.int (4 : Int32)), .val (.ref en3)] [(.ref en4)])) (own_aaload X8 hx hZ e8 V_x rfl (j := (4 : Int32)) (by decide) (i := 4) rfl (v := (.ref en4)) rfl (g := (mkF m 16 #[.val (.int p1), .val (.ref x), .val (.int (7 : Int32)), .val (.int (4 : Int32)), .val (.ref en3)] [(.int (4 : Int32)), (.ref x)])) rfl rfl (hb hby dby_16)) ?_
          refine own_go (U' := T8.setTop (mkF m 19 #[.val (.int p1), .val (.ref x), .val (.int (7 : Int32)), .val (.int (4 : Int32)), .val (.ref en4)] [])) (fun t k => XS.astore X8.here hx rfl (hb hby dby_17) rfl rfl (l' := #[.val (.int p1), .val (.ref x), .val (.int (7 : Int32)), .val (.int (4 : Int32)), .val (.ref en4)]) rfl k) ?_
          refine own_go (U' := T8.setTop (mkF m 21 #[.val (.int p1), .val (.ref x), .val (.int (7 : Int32)), .val (.int (4 : Int32)), .val (.ref en4)] [(.ref en4)])) (fun t k => XS.aload X8.here hx rfl (hb hby dby_19) rfl rfl k) ?_
          obtain ⟨T10, X10, e10, st10⟩ := getF X8 hx hZ hown (host := "") (Or.inl (hw _ (List.mem_of_getElem? (i := 31) rfl))) Via.refl e8 (FI4.ext O.2) (g := (mkF m 21 #[.val (.int p1), .val (.ref x), .val (.int (7 : Int32)), .val (.int (4 : Int32)), .val (.ref en4)] [(.ref en4)])) rfl rfl (hb hby dby_21)
          refine own_go (U' := T10.setTop (mkF m 24 #[.val (.int p1), .val (.ref x), .val (.int (7 : Int32)), .val (.int (4 : Int32)), .val (.ref en4)] [(.int (259 : Int32))])) st10 ?_
          refine own_go (U' := T10.setTop (mkF m 25 #[.val (.int p1), .val (.ref x), .val (.int (7 : Int32)), .val (.int (4 : Int32)), .val (.ref en4)] [(.int p1), (.int (259 : Int32))])) (fun t k => XS.iloadN X10.here hx rfl (hb hby dby_24) rfl k) ?_
          by_cases hi4 : p1 = (259 : Int32)
          · refine own_go (U' := T10.setTop (mkF m 28 #[.val (.int p1), .val (.ref x), .val (.int (7 : Int32)), .val (.int (4 : Int32)), .val (.ref en4)] [])) (fun t k => XS.icmpNo X10.here hx rfl (hb hby dby_25) rfl (teq hi4.symm).2 k) ?_
            refine own_go (U' := T10.setTop (mkF m 30 #[.val (.int p1), .val (.ref x), .val (.int (7 : Int32)), .val (.int (4 : Int32)), .val (.ref en4)] [(.ref en4)])) (fun t k => XS.aload X10.here hx rfl (hb hby dby_28) rfl rfl k) ?_
            obtain ⟨v11, T11, h11, L11, e11, X11, hQ11, st11⟩ := own_callS X10 hx hZ (y := (⟨"java/util/Optional", "of", "(Ljava/lang/Object;)Ljava/util/Optional;"⟩ : MethodName)) hown (hw _ (List.mem_of_getElem? (i := 46) rfl)) (hw _ (List.mem_of_getElem? (i := 47) rfl)) (hw _ (List.mem_of_getElem? (i := 35) rfl)) (hw _ (List.mem_of_getElem? (i := 48) rfl)) (by decide) (own_rmof l Z a0 hw en4 h1 n0 O) (W := 0) (by decide) (by decide) (g := (mkF m 30 #[.val (.int p1), .val (.ref x), .val (.int (7 : Int32)), .val (.int (4 : Int32)), .val (.ref en4)] [(.ref en4)])) rfl (by rw [hml]; rfl) (argsL := [(.ref en4)]) (rest := []) (lenOf own_pd5 rfl) rfl rfl (by show 2 * 0 + _ ≤ _; exact Nat.le_of_eq rfl) (hb hby dby_30) e10 (by decide) (by decide)
            obtain ⟨o, rfl, Nq, Kq, Eo, Fo⟩ := hQ11
            have K := K.trans Kq all0
            have O := O.keep Kq all0
            have V_x := V_x.keep Kq nin0
            have N11 := Fr.app N0 Nq
            refine own_go (U' := T11.setTop (mkF m 33 #[.val (.int p1), .val (.ref x), .val (.int (7 : Int32)), .val (.int (4 : Int32)), .val (.ref en4)] [(.ref o)])) st11 ?_
            refine own_retA X11 hx (t := (.object "java/util/Optional")) hret rfl hlk rfl (hb hby dby_33) ?_ (by decide) (by decide)
            rw [e11, own_ex, if_neg hi0, if_neg hi1, if_neg hi2, if_neg hi3, if_pos hi4]
            exact ⟨_, rfl, N11, K, Eo, Fo⟩
          · refine own_go (U' := T10.setTop (mkF m 34 #[.val (.int p1), .val (.ref x), .val (.int (7 : Int32)), .val (.int (4 : Int32)), .val (.ref en4)] [])) (fun t k => XS.icmpYes X10.here hx rfl (pc0 := 25) (pc' := 34) rfl (hb hby dby_25) rfl (feq (fun q => hi4 q.symm)).2 (by decide) (by decide) k) ?_
            refine own_go (U' := T10.setTop (mkF m 37 #[.val (.int p1), .val (.ref x), .val (.int (7 : Int32)), .val (.int (5 : Int32)), .val (.ref en4)] [])) (fun t k => XS.iinc X10.here hx rfl (hb hby dby_34) rfl (l' := #[.val (.int p1), .val (.ref x), .val (.int (7 : Int32)), .val (.int (5 : Int32)), .val (.ref en4)]) rfl k) ?_
            refine own_go (U' := T10.setTop (mkF m 9 #[.val (.int p1), .val (.ref x), .val (.int (7 : Int32)), .val (.int (5 : Int32)), .val (.ref en4)] [])) (fun t k => XS.goto X10.here hx rfl (pc0 := 37) (pc' := 9) rfl (hb hby dby_37) (by decide) (by decide) k) ?_
            refine own_go (U' := T10.setTop (mkF m 10 #[.val (.int p1), .val (.ref x), .val (.int (7 : Int32)), .val (.int (5 : Int32)), .val (.ref en4)] [(.int (5 : Int32))])) (fun t k => XS.iloadN X10.here hx rfl (hb hby dby_9) rfl k) ?_
            refine own_go (U' := T10.setTop (mkF m 11 #[.val (.int p1), .val (.ref x), .val (.int (7 : Int32)), .val (.int (5 : Int32)), .val (.ref en4)] [(.int (7 : Int32)), (.int (5 : Int32))])) (fun t k => XS.iloadN X10.here hx rfl (hb hby dby_10) rfl k) ?_
            refine own_go (U' := T10.setTop (mkF m 14 #[.val (.int p1), .val (.ref x), .val (.int (7 : Int32)), .val (.int (5 : Int32)), .val (.ref en4)] [])) (fun t k => XS.icmpNo X10.here hx rfl (hb hby dby_11) rfl (tlt (by decide)).2.1 k) ?_
            refine own_go (U' := T10.setTop (mkF m 15 #[.val (.int p1), .val (.ref x), .val (.int (7 : Int32)), .val (.int (5 : Int32)), .val (.ref en4)] [(.ref x)])) (fun t k => XS.aloadN X10.here hx rfl (hb hby dby_14) rfl rfl k) ?_
            refine own_go (U' := T10.setTop (mkF m 16 #[.val (.int p1), .val (.ref x), .val (.int (7 : Int32)), .val (.int (5 : Int32)), .val (.ref en4)] [(.int (5 : Int32)), (.ref x)])) (fun t k => XS.iloadN X10.here hx rfl (hb hby dby_15) rfl k) ?_
            refine own_go (U' := T10.setTop (mkF m 17 #[.val (.int p1), .val (.ref x), .val (.int (7 : Int32)), .val (.int (5 : Int32)), .val (.ref en4)] [(.ref en5)])) (own_aaload X10 hx hZ e10 V_x rfl (j := (5 : Int32)) (by decide) (i := 5) rfl (v := (.ref en5)) rfl (g := (mkF m 16 #[.val (.int p1), .val (.ref x), .val (.int (7 : Int32)), .val (.int (5 : Int32)), .val (.ref en4)] [(.int (5 : Int32)), (.ref x)])) rfl rfl (hb hby dby_16)) ?_
            refine own_go (U' := T10.setTop (mkF m 19 #[.val (.int p1), .val (.ref x), .val (.int (7 : Int32)), .val (.int (5 : Int32)), .val (.ref en5)] [])) (fun t k => XS.astore X10.here hx rfl (hb hby dby_17) rfl rfl (l' := #[.val (.int p1), .val (.ref x), .val (.int (7 : Int32)), .val (.int (5 : Int32)), .val (.ref en5)]) rfl k) ?_
            refine own_go (U' := T10.setTop (mkF m 21 #[.val (.int p1), .val (.ref x), .val (.int (7 : Int32)), .val (.int (5 : Int32)), .val (.ref en5)] [(.ref en5)])) (fun t k => XS.aload X10.here hx rfl (hb hby dby_19) rfl rfl k) ?_
            obtain ⟨T12, X12, e12, st12⟩ := getF X10 hx hZ hown (host := "") (Or.inl (hw _ (List.mem_of_getElem? (i := 31) rfl))) Via.refl e10 (FI5.ext O.2) (g := (mkF m 21 #[.val (.int p1), .val (.ref x), .val (.int (7 : Int32)), .val (.int (5 : Int32)), .val (.ref en5)] [(.ref en5)])) rfl rfl (hb hby dby_21)
            refine own_go (U' := T12.setTop (mkF m 24 #[.val (.int p1), .val (.ref x), .val (.int (7 : Int32)), .val (.int (5 : Int32)), .val (.ref en5)] [(.int (513 : Int32))])) st12 ?_
            refine own_go (U' := T12.setTop (mkF m 25 #[.val (.int p1), .val (.ref x), .val (.int (7 : Int32)), .val (.int (5 : Int32)), .val (.ref en5)] [(.int p1), (.int (513 : Int32))])) (fun t k => XS.iloadN X12.here hx rfl (hb hby dby_24) rfl k) ?_
            by_cases hi5 : p1 = (513 : Int32)
            · refine own_go (U' := T12.setTop (mkF m 28 #[.val (.int p1), .val (.ref x), .val (.int (7 : Int32)), .val (.int (5 : Int32)), .val (.ref en5)] [])) (fun t k => XS.icmpNo X12.here hx rfl (hb hby dby_25) rfl (teq hi5.symm).2 k) ?_
              refine own_go (U' := T12.setTop (mkF m 30 #[.val (.int p1), .val (.ref x), .val (.int (7 : Int32)), .val (.int (5 : Int32)), .val (.ref en5)] [(.ref en5)])) (fun t k => XS.aload X12.here hx rfl (hb hby dby_28) rfl rfl k) ?_
              obtain ⟨v13, T13, h13, L13, e13, X13, hQ13, st13⟩ := own_callS X12 hx hZ (y := (⟨"java/util/Optional", "of", "(Ljava/lang/Object;)Ljava/util/Optional;"⟩ : MethodName)) hown (hw _ (List.mem_of_getElem? (i := 46) rfl)) (hw _ (List.mem_of_getElem? (i := 47) rfl)) (hw _ (List.mem_of_getElem? (i := 35) rfl)) (hw _ (List.mem_of_getElem? (i := 48) rfl)) (by decide) (own_rmof l Z a0 hw en5 h1 n0 O) (W := 0) (by decide) (by decide) (g := (mkF m 30 #[.val (.int p1), .val (.ref x), .val (.int (7 : Int32)), .val (.int (5 : Int32)), .val (.ref en5)] [(.ref en5)])) rfl (by rw [hml]; rfl) (argsL := [(.ref en5)]) (rest := []) (lenOf own_pd5 rfl) rfl rfl (by show 2 * 0 + _ ≤ _; exact Nat.le_of_eq rfl) (hb hby dby_30) e12 (by decide) (by decide)
              obtain ⟨o, rfl, Nq, Kq, Eo, Fo⟩ := hQ13
              have K := K.trans Kq all0
              have O := O.keep Kq all0
              have V_x := V_x.keep Kq nin0
              have N13 := Fr.app N0 Nq
              refine own_go (U' := T13.setTop (mkF m 33 #[.val (.int p1), .val (.ref x), .val (.int (7 : Int32)), .val (.int (5 : Int32)), .val (.ref en5)] [(.ref o)])) st13 ?_
              refine own_retA X13 hx (t := (.object "java/util/Optional")) hret rfl hlk rfl (hb hby dby_33) ?_ (by decide) (by decide)
              rw [e13, own_ex, if_neg hi0, if_neg hi1, if_neg hi2, if_neg hi3, if_neg hi4, if_pos hi5]
              exact ⟨_, rfl, N13, K, Eo, Fo⟩
            · refine own_go (U' := T12.setTop (mkF m 34 #[.val (.int p1), .val (.ref x), .val (.int (7 : Int32)), .val (.int (5 : Int32)), .val (.ref en5)] [])) (fun t k => XS.icmpYes X12.here hx rfl (pc0 := 25) (pc' := 34) rfl (hb hby dby_25) rfl (feq (fun q => hi5 q.symm)).2 (by decide) (by decide) k) ?_
              refine own_go (U' := T12.setTop (mkF m 37 #[.val (.int p1), .val (.ref x), .val (.int (7 : Int32)), .val (.int (6 : Int32)), .val (.ref en5)] [])) (fun t k => XS.iinc X12.here hx rfl (hb hby dby_34) rfl (l' := #[.val (.int p1), .val (.ref x), .val (.int (7 : Int32)), .val (.int (6 : Int32)), .val (.ref en5)]) rfl k) ?_
              refine own_go (U' := T12.setTop (mkF m 9 #[.val (.int p1), .val (.ref x), .val (.int (7 : Int32)), .val (.int (6 : Int32)), .val (.ref en5)] [])) (fun t k => XS.goto X12.here hx rfl (pc0 := 37) (pc' := 9) rfl (hb hby dby_37) (by decide) (by decide) k) ?_
              refine own_go (U' := T12.setTop (mkF m 10 #[.val (.int p1), .val (.ref x), .val (.int (7 : Int32)), .val (.int (6 : Int32)), .val (.ref en5)] [(.int (6 : Int32))])) (fun t k => XS.iloadN X12.here hx rfl (hb hby dby_9) rfl k) ?_
              refine own_go (U' := T12.setTop (mkF m 11 #[.val (.int p1), .val (.ref x), .val (.int (7 : Int32)), .val (.int (6 : Int32)), .val (.ref en5)] [(.int (7 : Int32)), (.int (6 : Int32))])) (fun t k => XS.iloadN X12.here hx rfl (hb hby dby_10) rfl k) ?_
              refine own_go (U' := T12.setTop (mkF m 14 #[.val (.int p1), .val (.ref x), .val (.int (7 : Int32)), .val (.int (6 : Int32)), .val (.ref en5)] [])) (fun t k => XS.icmpNo X12.here hx rfl (hb hby dby_11) rfl (tlt (by decide)).2.1 k) ?_
              refine own_go (U' := T12.setTop (mkF m 15 #[.val (.int p1), .val (.ref x), .val (.int (7 : Int32)), .val (.int (6 : Int32)), .val (.ref en5)] [(.ref x)])) (fun t k => XS.aloadN X12.here hx rfl (hb hby dby_14) rfl rfl k) ?_
              refine own_go (U' := T12.setTop (mkF m 16 #[.val (.int p1), .val (.ref x), .val (.int (7 : Int32)), .val (.int (6 : Int32)), .val (.ref en5)] [(.int (6 : Int32)), (.ref x)])) (fun t k => XS.iloadN X12.here hx rfl (hb hby dby_15) rfl k) ?_
              refine own_go (U' := T12.setTop (mkF m 17 #[.val (.int p1), .val (.ref x), .val (.int (7 : Int32)), .val (.int (6 : Int32)), .val (.ref en5)] [(.ref en6)])) (own_aaload X12 hx hZ e12 V_x rfl (j := (6 : Int32)) (by decide) (i := 6) rfl (v := (.ref en6)) rfl (g := (mkF m 16 #[.val (.int p1), .val (.ref x), .val (.int (7 : Int32)), .val (.int (6 : Int32)), .val (.ref en5)] [(.int (6 : Int32)), (.ref x)])) rfl rfl (hb hby dby_16)) ?_
              refine own_go (U' := T12.setTop (mkF m 19 #[.val (.int p1), .val (.ref x), .val (.int (7 : Int32)), .val (.int (6 : Int32)), .val (.ref en6)] [])) (fun t k => XS.astore X12.here hx rfl (hb hby dby_17) rfl rfl (l' := #[.val (.int p1), .val (.ref x), .val (.int (7 : Int32)), .val (.int (6 : Int32)), .val (.ref en6)]) rfl k) ?_
              refine own_go (U' := T12.setTop (mkF m 21 #[.val (.int p1), .val (.ref x), .val (.int (7 : Int32)), .val (.int (6 : Int32)), .val (.ref en6)] [(.ref en6)])) (fun t k => XS.aload X12.here hx rfl (hb hby dby_19) rfl rfl k) ?_
              obtain ⟨T14, X14, e14, st14⟩ := getF X12 hx hZ hown (host := "") (Or.inl (hw _ (List.mem_of_getElem? (i := 31) rfl))) Via.refl e12 (FI6.ext O.2) (g := (mkF m 21 #[.val (.int p1), .val (.ref x), .val (.int (7 : Int32)), .val (.int (6 : Int32)), .val (.ref en6)] [(.ref en6)])) rfl rfl (hb hby dby_21)
              refine own_go (U' := T14.setTop (mkF m 24 #[.val (.int p1), .val (.ref x), .val (.int (7 : Int32)), .val (.int (6 : Int32)), .val (.ref en6)] [(.int (769 : Int32))])) st14 ?_
              refine own_go (U' := T14.setTop (mkF m 25 #[.val (.int p1), .val (.ref x), .val (.int (7 : Int32)), .val (.int (6 : Int32)), .val (.ref en6)] [(.int p1), (.int (769 : Int32))])) (fun t k => XS.iloadN X14.here hx rfl (hb hby dby_24) rfl k) ?_
              by_cases hi6 : p1 = (769 : Int32)
              · refine own_go (U' := T14.setTop (mkF m 28 #[.val (.int p1), .val (.ref x), .val (.int (7 : Int32)), .val (.int (6 : Int32)), .val (.ref en6)] [])) (fun t k => XS.icmpNo X14.here hx rfl (hb hby dby_25) rfl (teq hi6.symm).2 k) ?_
                refine own_go (U' := T14.setTop (mkF m 30 #[.val (.int p1), .val (.ref x), .val (.int (7 : Int32)), .val (.int (6 : Int32)), .val (.ref en6)] [(.ref en6)])) (fun t k => XS.aload X14.here hx rfl (hb hby dby_28) rfl rfl k) ?_
                obtain ⟨v15, T15, h15, L15, e15, X15, hQ15, st15⟩ := own_callS X14 hx hZ (y := (⟨"java/util/Optional", "of", "(Ljava/lang/Object;)Ljava/util/Optional;"⟩ : MethodName)) hown (hw _ (List.mem_of_getElem? (i := 46) rfl)) (hw _ (List.mem_of_getElem? (i := 47) rfl)) (hw _ (List.mem_of_getElem? (i := 35) rfl)) (hw _ (List.mem_of_getElem? (i := 48) rfl)) (by decide) (own_rmof l Z a0 hw en6 h1 n0 O) (W := 0) (by decide) (by decide) (g := (mkF m 30 #[.val (.int p1), .val (.ref x), .val (.int (7 : Int32)), .val (.int (6 : Int32)), .val (.ref en6)] [(.ref en6)])) rfl (by rw [hml]; rfl) (argsL := [(.ref en6)]) (rest := []) (lenOf own_pd5 rfl) rfl rfl (by show 2 * 0 + _ ≤ _; exact Nat.le_of_eq rfl) (hb hby dby_30) e14 (by decide) (by decide)
                obtain ⟨o, rfl, Nq, Kq, Eo, Fo⟩ := hQ15
                have K := K.trans Kq all0
                have O := O.keep Kq all0
                have V_x := V_x.keep Kq nin0
                have N15 := Fr.app N0 Nq
                refine own_go (U' := T15.setTop (mkF m 33 #[.val (.int p1), .val (.ref x), .val (.int (7 : Int32)), .val (.int (6 : Int32)), .val (.ref en6)] [(.ref o)])) st15 ?_
                refine own_retA X15 hx (t := (.object "java/util/Optional")) hret rfl hlk rfl (hb hby dby_33) ?_ (by decide) (by decide)
                rw [e15, own_ex, if_neg hi0, if_neg hi1, if_neg hi2, if_neg hi3, if_neg hi4, if_neg hi5, if_pos hi6]
                exact ⟨_, rfl, N15, K, Eo, Fo⟩
              · refine own_go (U' := T14.setTop (mkF m 34 #[.val (.int p1), .val (.ref x), .val (.int (7 : Int32)), .val (.int (6 : Int32)), .val (.ref en6)] [])) (fun t k => XS.icmpYes X14.here hx rfl (pc0 := 25) (pc' := 34) rfl (hb hby dby_25) rfl (feq (fun q => hi6 q.symm)).2 (by decide) (by decide) k) ?_
                refine own_go (U' := T14.setTop (mkF m 37 #[.val (.int p1), .val (.ref x), .val (.int (7 : Int32)), .val (.int (7 : Int32)), .val (.ref en6)] [])) (fun t k => XS.iinc X14.here hx rfl (hb hby dby_34) rfl (l' := #[.val (.int p1), .val (.ref x), .val (.int (7 : Int32)), .val (.int (7 : Int32)), .val (.ref en6)]) rfl k) ?_
                refine own_go (U' := T14.setTop (mkF m 9 #[.val (.int p1), .val (.ref x), .val (.int (7 : Int32)), .val (.int (7 : Int32)), .val (.ref en6)] [])) (fun t k => XS.goto X14.here hx rfl (pc0 := 37) (pc' := 9) rfl (hb hby dby_37) (by decide) (by decide) k) ?_
                refine own_go (U' := T14.setTop (mkF m 10 #[.val (.int p1), .val (.ref x), .val (.int (7 : Int32)), .val (.int (7 : Int32)), .val (.ref en6)] [(.int (7 : Int32))])) (fun t k => XS.iloadN X14.here hx rfl (hb hby dby_9) rfl k) ?_
                refine own_go (U' := T14.setTop (mkF m 11 #[.val (.int p1), .val (.ref x), .val (.int (7 : Int32)), .val (.int (7 : Int32)), .val (.ref en6)] [(.int (7 : Int32)), (.int (7 : Int32))])) (fun t k => XS.iloadN X14.here hx rfl (hb hby dby_10) rfl k) ?_
                refine own_go (U' := T14.setTop (mkF m 40 #[.val (.int p1), .val (.ref x), .val (.int (7 : Int32)), .val (.int (7 : Int32)), .val (.ref en6)] [])) (fun t k => XS.icmpYes X14.here hx rfl (pc0 := 11) (pc' := 40) rfl (hb hby dby_11) rfl (flt (by decide)).2.1 (by decide) (by decide) k) ?_
                obtain ⟨v16, T16, h16, L16, e16, X16, hQ16, st16⟩ := own_callS X14 hx hZ (y := (⟨"java/util/Optional", "empty", "()Ljava/util/Optional;"⟩ : MethodName)) hown (hw _ (List.mem_of_getElem? (i := 33) rfl)) (hw _ (List.mem_of_getElem? (i := 34) rfl)) (hw _ (List.mem_of_getElem? (i := 35) rfl)) (hw _ (List.mem_of_getElem? (i := 36) rfl)) (by decide) (own_rmem l Z a0 hw h1 n0 O oe S_o E_o F_o) (W := 0) (by decide) (by decide) (g := (mkF m 40 #[.val (.int p1), .val (.ref x), .val (.int (7 : Int32)), .val (.int (7 : Int32)), .val (.ref en6)] [])) rfl (by rw [hml]; rfl) (argsL := []) (rest := []) (lenOf own_pd3 rfl) rfl rfl (by show 2 * 0 + _ ≤ _; exact Nat.le_of_eq rfl) (hb hby dby_40) e14 (by decide) (by decide)
                obtain ⟨rfl, rfl, eh16⟩ := hQ16
                have e16 := e16.trans eh16
                rw [List.append_nil] at X16
                refine own_go (U' := T16.setTop (mkF m 43 #[.val (.int p1), .val (.ref x), .val (.int (7 : Int32)), .val (.int (7 : Int32)), .val (.ref en6)] [(.ref oe)])) st16 ?_
                refine own_retA X16 hx (t := (.object "java/util/Optional")) hret rfl hlk rfl (hb hby dby_43) ?_ (by decide) (by decide)
                rw [e16, own_ex, if_neg hi0, if_neg hi1, if_neg hi2, if_neg hi3, if_neg hi4, if_neg hi5, if_neg hi6]
                exact ⟨_, rfl, N0, K, E_o.ext O.2, F_o.ext O.2⟩
theorem dip0_0 : decode jdk_32_method_6_code 0 = .ok (.aload_n 0, 1) := by decide +kernel
theorem dip0_1 : decode jdk_32_method_6_code 1 = .ok (.getfield 13, 3) := by decide +kernel
theorem dip0_4 : decode jdk_32_method_6_code 4 = .ok (.ifnull 7, 3) := by decide +kernel
theorem dip0_7 : decode jdk_32_method_6_code 7 = .ok (.iconst 1, 1) := by decide +kernel
theorem dip0_8 : decode jdk_32_method_6_code 8 = .ok (.goto 4, 3) := by decide +kernel
theorem dip0_11 : decode jdk_32_method_6_code 11 = .ok (.iconst 0, 1) := by decide +kernel
theorem dip0_12 : decode jdk_32_method_6_code 12 = .ok (.ireturn, 1) := by decide +kernel
theorem own_efip0 (m : MethodId) (a : Addr) : entryFrame m #[(.ref a)] 1 = mkF m 0 #[.val (.ref a)] [] := by first | (simp [entryFrame, mkF, argsToLocals, Value.category]; done) | rfl
set_option maxRecDepth 65536 in
set_option maxHeartbeats 40000000 in
theorem own_rmip0 (l : Launch) (Z : State) (a0 : Array Value) (hw : ∀ d ∈ tables_1, d.before a0 Z = true) (a : Addr) (h0 : Heap) (F_value_a : Fld Z h0 a "java/util/Optional" "value" "Ljava/lang/Object;" .null) :
    own_C l Z (⟨"java/util/Optional", "isPresent", "()Z"⟩ : MethodName) jdk_32_method_6_code 1 (some .boolean) [] ({ frames := 0, cells := 0, slots := 0, locals := 0 } : Room) #[(.ref a)] h0 (fun v h L => v = some (.int 0) ∧ L = [] ∧ h = h0) := by
  refine own_body (plainFor_of_name own_pn2) fun p e s m below meth c s₁ hx hby hml hret hlk hown hnm hZ X0 e0 => ?_
  rw [own_efip0 m a]
  refine own_go (U' := s₁.setTop (mkF m 1 #[.val (.ref a)] [(.ref a)])) (fun t k => XS.aloadN X0.here hx rfl (hb hby dip0_0) rfl rfl k) ?_
  obtain ⟨T1, X1, e1, st1⟩ := getF X0 hx hZ hown (host := "") (Or.inl (hw _ (List.mem_of_getElem? (i := 43) rfl))) Via.refl e0 F_value_a (g := (mkF m 1 #[.val (.ref a)] [(.ref a)])) rfl rfl (hb hby dip0_1)
  refine own_go (U' := T1.setTop (mkF m 4 #[.val (.ref a)] [.null])) st1 ?_
  refine own_go (U' := T1.setTop (mkF m 11 #[.val (.ref a)] [])) (fun t k => XS.ifnullYes X1.here hx rfl (pc0 := 4) (pc' := 11) rfl (hb hby dip0_4) rfl (by decide) (by decide) k) ?_
  refine own_go (U' := T1.setTop (mkF m 12 #[.val (.ref a)] [(.int (0 : Int32))])) (fun t k => XS.iconst X1.here hx rfl (hb hby dip0_11) k) ?_
  refine own_retN X1 hx (t := .boolean) hret (by simp) hlk (hb hby dip0_12) ?_ (by decide) (by decide)
  exact ⟨rfl, rfl, e1⟩
theorem own_efip1 (m : MethodId) (a : Addr) : entryFrame m #[(.ref a)] 1 = mkF m 0 #[.val (.ref a)] [] := by first | (simp [entryFrame, mkF, argsToLocals, Value.category]; done) | rfl
set_option maxRecDepth 65536 in
set_option maxHeartbeats 40000000 in
theorem own_rmip1 (l : Launch) (Z : State) (a0 : Array Value) (hw : ∀ d ∈ tables_1, d.before a0 Z = true) (a : Addr) (h0 : Heap) (b : Addr) (F_value_a : Fld Z h0 a "java/util/Optional" "value" "Ljava/lang/Object;" (.ref b)) :
    own_C l Z (⟨"java/util/Optional", "isPresent", "()Z"⟩ : MethodName) jdk_32_method_6_code 1 (some .boolean) [] ({ frames := 0, cells := 0, slots := 0, locals := 0 } : Room) #[(.ref a)] h0 (fun v h L => v = some (.int 1) ∧ L = [] ∧ h = h0) := by
  refine own_body (plainFor_of_name own_pn2) fun p e s m below meth c s₁ hx hby hml hret hlk hown hnm hZ X0 e0 => ?_
  rw [own_efip1 m a]
  refine own_go (U' := s₁.setTop (mkF m 1 #[.val (.ref a)] [(.ref a)])) (fun t k => XS.aloadN X0.here hx rfl (hb hby dip0_0) rfl rfl k) ?_
  obtain ⟨T1, X1, e1, st1⟩ := getF X0 hx hZ hown (host := "") (Or.inl (hw _ (List.mem_of_getElem? (i := 43) rfl))) Via.refl e0 F_value_a (g := (mkF m 1 #[.val (.ref a)] [(.ref a)])) rfl rfl (hb hby dip0_1)
  refine own_go (U' := T1.setTop (mkF m 4 #[.val (.ref a)] [(.ref b)])) st1 ?_
  refine own_go (U' := T1.setTop (mkF m 7 #[.val (.ref a)] [])) (fun t k => XS.ifnullNo X1.here hx rfl (hb hby dip0_4) rfl k) ?_
  refine own_go (U' := T1.setTop (mkF m 8 #[.val (.ref a)] [(.int (1 : Int32))])) (fun t k => XS.iconst X1.here hx rfl (hb hby dip0_7) k) ?_
  refine own_go (U' := T1.setTop (mkF m 12 #[.val (.ref a)] [(.int (1 : Int32))])) (fun t k => XS.goto X1.here hx rfl (pc0 := 8) (pc' := 12) rfl (hb hby dip0_8) (by decide) (by decide) k) ?_
  refine own_retN X1 hx (t := .boolean) hret (by simp) hlk (hb hby dip0_12) ?_ (by decide) (by decide)
  exact ⟨rfl, rfl, e1⟩
theorem dgt_0 : decode jdk_32_method_5_code 0 = .ok (.aload_n 0, 1) := by decide +kernel
theorem dgt_1 : decode jdk_32_method_5_code 1 = .ok (.getfield 13, 3) := by decide +kernel
theorem dgt_4 : decode jdk_32_method_5_code 4 = .ok (.ifnonnull 13, 3) := by decide +kernel
theorem dgt_7 : decode jdk_32_method_5_code 7 = .ok (.new 26, 3) := by decide +kernel
theorem dgt_10 : decode jdk_32_method_5_code 10 = .ok (.dup, 1) := by decide +kernel
theorem dgt_11 : decode jdk_32_method_5_code 11 = .ok (.ldc 28, 2) := by decide +kernel
theorem dgt_13 : decode jdk_32_method_5_code 13 = .ok (.invokespecial 30, 3) := by decide +kernel
theorem dgt_16 : decode jdk_32_method_5_code 16 = .ok (.athrow, 1) := by decide +kernel
theorem dgt_17 : decode jdk_32_method_5_code 17 = .ok (.aload_n 0, 1) := by decide +kernel
theorem dgt_18 : decode jdk_32_method_5_code 18 = .ok (.getfield 13, 3) := by decide +kernel
theorem dgt_21 : decode jdk_32_method_5_code 21 = .ok (.areturn, 1) := by decide +kernel
theorem own_efgt (m : MethodId) (a : Addr) : entryFrame m #[(.ref a)] 1 = mkF m 0 #[.val (.ref a)] [] := by first | (simp [entryFrame, mkF, argsToLocals, Value.category]; done) | rfl
set_option maxRecDepth 65536 in
set_option maxHeartbeats 40000000 in
theorem own_rmgt (l : Launch) (Z : State) (a0 : Array Value) (hw : ∀ d ∈ tables_1, d.before a0 Z = true) (a : Addr) (h0 : Heap) (b : Addr) (F_value_a : Fld Z h0 a "java/util/Optional" "value" "Ljava/lang/Object;" (.ref b)) :
    own_C l Z (⟨"java/util/Optional", "get", "()Ljava/lang/Object;"⟩ : MethodName) jdk_32_method_5_code 1 (some (.object "java/lang/Object")) [] ({ frames := 0, cells := 0, slots := 0, locals := 0 } : Room) #[(.ref a)] h0 (fun v h L => v = some (.ref b) ∧ L = [] ∧ h = h0) := by
  refine own_body (plainFor_of_name own_pn2) fun p e s m below meth c s₁ hx hby hml hret hlk hown hnm hZ X0 e0 => ?_
  rw [own_efgt m a]
  refine own_go (U' := s₁.setTop (mkF m 1 #[.val (.ref a)] [(.ref a)])) (fun t k => XS.aloadN X0.here hx rfl (hb hby dgt_0) rfl rfl k) ?_
  obtain ⟨T1, X1, e1, st1⟩ := getF X0 hx hZ hown (host := "") (Or.inl (hw _ (List.mem_of_getElem? (i := 43) rfl))) Via.refl e0 F_value_a (g := (mkF m 1 #[.val (.ref a)] [(.ref a)])) rfl rfl (hb hby dgt_1)
  refine own_go (U' := T1.setTop (mkF m 4 #[.val (.ref a)] [(.ref b)])) st1 ?_
  refine own_go (U' := T1.setTop (mkF m 17 #[.val (.ref a)] [])) (fun t k => XS.ifnonnullYes X1.here hx rfl (pc0 := 4) (pc' := 17) rfl (hb hby dgt_4) rfl (by decide) (by decide) k) ?_
  refine own_go (U' := T1.setTop (mkF m 18 #[.val (.ref a)] [(.ref a)])) (fun t k => XS.aloadN X1.here hx rfl (hb hby dgt_17) rfl rfl k) ?_
  obtain ⟨T2, X2, e2, st2⟩ := getF X1 hx hZ hown (host := "") (Or.inl (hw _ (List.mem_of_getElem? (i := 43) rfl))) Via.refl e1 F_value_a (g := (mkF m 18 #[.val (.ref a)] [(.ref a)])) rfl rfl (hb hby dgt_18)
  refine own_go (U' := T2.setTop (mkF m 21 #[.val (.ref a)] [(.ref b)])) st2 ?_
  refine own_retA X2 hx (t := (.object "java/lang/Object")) hret rfl hlk rfl (hb hby dgt_21) ?_ (by decide) (by decide)
  exact ⟨rfl, rfl, e2⟩
theorem own_fifteen (x : Int32) : ∃ k : Nat, k < 16 ∧ x &&& (15 : Int32) = Int32.ofNat k := by
  have h := c_mask x 15 4 (by decide) (by decide)
  refine ⟨((x &&& (15 : Int32)).toInt).toNat, by omega, Int32.toInt_inj.mp ?_⟩
  rw [Int32.toInt_ofNat_of_lt (by omega)]; omega
theorem own_ofn {i : Nat} (h : i < 100) : ¬ Int32.ofNat i < 0 ∧ (Int32.ofNat i).toNatClampNeg = i ∧ (Int32.ofNat i).toInt = i := by
  have e : (Int32.ofNat i).toInt = i := Int32.toInt_ofNat_of_lt (by omega)
  refine ⟨fun q => ?_, by rw [Int32.toNatClampNeg, e]; rfl, e⟩
  rw [Int32.lt_iff_toInt_lt, e] at q
  have : (0 : Int32).toInt = 0 := rfl
  omega
theorem own_ef0 (m : MethodId) (p0 p2 : Int32) : entryFrame m #[(.int p0), (.int p2)] maxLocals = mkF m 0 #[.val (.int p0), .val (.int p2), .unset, .unset, .unset, .unset] [] := by first | (simp [entryFrame, mkF, argsToLocals, Value.category, maxLocals]; done) | rfl
set_option maxRecDepth 65536 in
set_option maxHeartbeats 40000000 in
theorem own_rm0 (l : Launch) (Z : State) (a0 : Array Value) (hw : ∀ d ∈ tables_1, d.before a0 Z = true) (ws : List Jvm.Cond) (p0 p2 : Int32) (h0 : Heap) (n0 : Nat) (en0 en1 en2 en3 en4 en5 en6 : Addr) (O : Old Z n0 h0) (S0 : Sta Z Z.heap "com/example/verity/verity/SignatureAlgorithm" "RSA_PSS_SHA512" "Lcom/example/verity/verity/SignatureAlgorithm;" (.ref en0)) (S1 : Sta Z Z.heap "com/example/verity/verity/SignatureAlgorithm" "RSA_PKCS1_SHA512" "Lcom/example/verity/verity/SignatureAlgorithm;" (.ref en1)) (S2 : Sta Z Z.heap "com/example/verity/verity/SignatureAlgorithm" "ECDSA_SHA512" "Lcom/example/verity/verity/SignatureAlgorithm;" (.ref en2)) (S3 : Sta Z Z.heap "com/example/verity/verity/SignatureAlgorithm" "RSA_PSS_SHA256" "Lcom/example/verity/verity/SignatureAlgorithm;" (.ref en3)) (S4 : Sta Z Z.heap "com/example/verity/verity/SignatureAlgorithm" "RSA_PKCS1_SHA256" "Lcom/example/verity/verity/SignatureAlgorithm;" (.ref en4)) (S5 : Sta Z Z.heap "com/example/verity/verity/SignatureAlgorithm" "ECDSA_SHA256" "Lcom/example/verity/verity/SignatureAlgorithm;" (.ref en5)) (S6 : Sta Z Z.heap "com/example/verity/verity/SignatureAlgorithm" "DSA_SHA256" "Lcom/example/verity/verity/SignatureAlgorithm;" (.ref en6)) (vv : Addr) (kv : ClassId) (S_v : Sta Z Z.heap "com/example/verity/verity/SignatureAlgorithm" "$VALUES" "[Lcom/example/verity/verity/SignatureAlgorithm;" (.ref vv)) (V_v : own_Ar Z Z.heap vv kv (.object "com/example/verity/verity/SignatureAlgorithm") [(.ref en0), (.ref en1), (.ref en2), (.ref en3), (.ref en4), (.ref en5), (.ref en6)]) (E_v : Exa Z Z.heap vv "[Lcom/example/verity/verity/SignatureAlgorithm;") (FI0 : Fld Z Z.heap en0 "com/example/verity/verity/SignatureAlgorithm" "id" "I" (.int 258)) (FI1 : Fld Z Z.heap en1 "com/example/verity/verity/SignatureAlgorithm" "id" "I" (.int 260)) (FI2 : Fld Z Z.heap en2 "com/example/verity/verity/SignatureAlgorithm" "id" "I" (.int 514)) (FI3 : Fld Z Z.heap en3 "com/example/verity/verity/SignatureAlgorithm" "id" "I" (.int 257)) (FI4 : Fld Z Z.heap en4 "com/example/verity/verity/SignatureAlgorithm" "id" "I" (.int 259)) (FI5 : Fld Z Z.heap en5 "com/example/verity/verity/SignatureAlgorithm" "id" "I" (.int 513)) (FI6 : Fld Z Z.heap en6 "com/example/verity/verity/SignatureAlgorithm" "id" "I" (.int 769)) (oe : Addr) (S_o : Sta Z Z.heap "java/util/Optional" "EMPTY" "Ljava/util/Optional;" (.ref oe)) (E_o : Exa Z Z.heap oe "java/util/Optional") (F_o : Fld Z Z.heap oe "java/util/Optional" "value" "Ljava/lang/Object;" .null) :
    own_C l Z x code maxLocals ret ws room_1 #[(.int p0), (.int p2)] h0 (fun v h L => v = some (.int 1) ∧ Fr n0 L) := by
  refine own_body (plainFor_of_name own_pn0) fun p e s m below meth c s₁ hx hby hml hret hlk hown hnm hZ X0 e0 => ?_
  rw [own_ef0 m p0 p2]
  have hml : c.maxLocals = 6 := hml
  have hret : meth.sig.returnType = some .boolean := hret
  have N0 := Fr.nil n0
  refine own_go (U' := s₁.setTop (mkF m 2 #[.val (.int p0), .val (.int p2), .unset, .unset, .unset, .unset] [(.int (16 : Int32))])) (fun t k => XS.bipush X0.here hx rfl (hb hby at_0) k) ?_
  obtain ⟨T1, h1, k1, X1, e1, E1, A1, Y1, st1⟩ := own_newarr X0 hx hZ (hw _ (List.mem_of_getElem? (i := 0) rfl)) e0 (g := (mkF m 2 #[.val (.int p0), .val (.int p2), .unset, .unset, .unset, .unset] [(.int (16 : Int32))])) rfl (hb hby at_2) rfl (by decide) (cap := 16) (by decide) (by decide) (by decide) (by decide) (ad := "[I") (by decide) rfl (vs := [(.int (0 : Int32)), (.int (0 : Int32)), (.int (0 : Int32)), (.int (0 : Int32)), (.int (0 : Int32)), (.int (0 : Int32)), (.int (0 : Int32)), (.int (0 : Int32)), (.int (0 : Int32)), (.int (0 : Int32)), (.int (0 : Int32)), (.int (0 : Int32)), (.int (0 : Int32)), (.int (0 : Int32)), (.int (0 : Int32)), (.int (0 : Int32))]) rfl
  obtain ⟨b1, g1⟩ : ∃ z, z = h0.size := ⟨_, rfl⟩
  rw [← g1] at A1 Y1 st1
  have g_b1 : n0 ≤ b1 := Nat.le_trans (Nat.le_trans (Nat.le_of_eq O.1.symm) O.2.1) (Nat.le_of_eq g1.symm)
  have O := O.ext E1
  have V_b1 : own_Ar Z h1 b1 k1 .int [(.int (0 : Int32)), (.int (0 : Int32)), (.int (0 : Int32)), (.int (0 : Int32)), (.int (0 : Int32)), (.int (0 : Int32)), (.int (0 : Int32)), (.int (0 : Int32)), (.int (0 : Int32)), (.int (0 : Int32)), (.int (0 : Int32)), (.int (0 : Int32)), (.int (0 : Int32)), (.int (0 : Int32)), (.int (0 : Int32)), (.int (0 : Int32))] := A1
  have E_b1 := Y1
  refine own_go (U' := T1.setTop (mkF m 4 #[.val (.int p0), .val (.int p2), .unset, .unset, .unset, .unset] [(.ref b1)])) st1 ?_
  refine own_go (U' := T1.setTop (mkF m 5 #[.val (.int p0), .val (.int p2), .unset, .unset, .unset, .unset] [(.ref b1), (.ref b1)])) (fun t k => XS.dup X1.here hx rfl (hb hby at_4) rfl rfl k) ?_
  refine own_go (U' := T1.setTop (mkF m 6 #[.val (.int p0), .val (.int p2), .unset, .unset, .unset, .unset] [(.int (0 : Int32)), (.ref b1), (.ref b1)])) (fun t k => XS.iconst X1.here hx rfl (hb hby at_5) k) ?_
  refine own_go (U' := T1.setTop (mkF m 9 #[.val (.int p0), .val (.int p2), .unset, .unset, .unset, .unset] [(.int (257 : Int32)), (.int (0 : Int32)), (.ref b1), (.ref b1)])) (fun t k => XS.sipush X1.here hx rfl (hb hby at_6) k) ?_
  obtain ⟨T2, h2, X2, e2, W2, A2, st2⟩ := own_iastore X1 hx hZ e1 V_b1 (j := (0 : Int32)) (by decide) (i := 0) rfl (Nat.le_of_ble_eq_true rfl) (g := (mkF m 9 #[.val (.int p0), .val (.int p2), .unset, .unset, .unset, .unset] [(.int (257 : Int32)), (.int (0 : Int32)), (.ref b1), (.ref b1)])) rfl rfl (hb hby at_9)
  have O := O.wr W2 g_b1
  have E_b1 := E_b1.wr W2
  have V_b1 : own_Ar Z h2 b1 k1 .int [(.int (257 : Int32)), (.int (0 : Int32)), (.int (0 : Int32)), (.int (0 : Int32)), (.int (0 : Int32)), (.int (0 : Int32)), (.int (0 : Int32)), (.int (0 : Int32)), (.int (0 : Int32)), (.int (0 : Int32)), (.int (0 : Int32)), (.int (0 : Int32)), (.int (0 : Int32)), (.int (0 : Int32)), (.int (0 : Int32)), (.int (0 : Int32))] := A2
  have N2 := Fr.snoc X2 N0 g_b1
  refine own_go (U' := T2.setTop (mkF m 10 #[.val (.int p0), .val (.int p2), .unset, .unset, .unset, .unset] [(.ref b1)])) st2 ?_
  refine own_go (U' := T2.setTop (mkF m 11 #[.val (.int p0), .val (.int p2), .unset, .unset, .unset, .unset] [(.ref b1), (.ref b1)])) (fun t k => XS.dup X2.here hx rfl (hb hby at_10) rfl rfl k) ?_
  refine own_go (U' := T2.setTop (mkF m 12 #[.val (.int p0), .val (.int p2), .unset, .unset, .unset, .unset] [(.int (1 : Int32)), (.ref b1), (.ref b1)])) (fun t k => XS.iconst X2.here hx rfl (hb hby at_11) k) ?_
  refine own_go (U' := T2.setTop (mkF m 15 #[.val (.int p0), .val (.int p2), .unset, .unset, .unset, .unset] [(.int (258 : Int32)), (.int (1 : Int32)), (.ref b1), (.ref b1)])) (fun t k => XS.sipush X2.here hx rfl (hb hby at_12) k) ?_
  obtain ⟨T3, h3, X3, e3, W3, A3, st3⟩ := own_iastore X2 hx hZ e2 V_b1 (j := (1 : Int32)) (by decide) (i := 1) rfl (Nat.le_of_ble_eq_true rfl) (g := (mkF m 15 #[.val (.int p0), .val (.int p2), .unset, .unset, .unset, .unset] [(.int (258 : Int32)), (.int (1 : Int32)), (.ref b1), (.ref b1)])) rfl rfl (hb hby at_15)
  have O := O.wr W3 g_b1
  have E_b1 := E_b1.wr W3
  have V_b1 : own_Ar Z h3 b1 k1 .int [(.int (257 : Int32)), (.int (258 : Int32)), (.int (0 : Int32)), (.int (0 : Int32)), (.int (0 : Int32)), (.int (0 : Int32)), (.int (0 : Int32)), (.int (0 : Int32)), (.int (0 : Int32)), (.int (0 : Int32)), (.int (0 : Int32)), (.int (0 : Int32)), (.int (0 : Int32)), (.int (0 : Int32)), (.int (0 : Int32)), (.int (0 : Int32))] := A3
  have N3 := Fr.snoc X3 N2 g_b1
  refine own_go (U' := T3.setTop (mkF m 16 #[.val (.int p0), .val (.int p2), .unset, .unset, .unset, .unset] [(.ref b1)])) st3 ?_
  refine own_go (U' := T3.setTop (mkF m 17 #[.val (.int p0), .val (.int p2), .unset, .unset, .unset, .unset] [(.ref b1), (.ref b1)])) (fun t k => XS.dup X3.here hx rfl (hb hby at_16) rfl rfl k) ?_
  refine own_go (U' := T3.setTop (mkF m 18 #[.val (.int p0), .val (.int p2), .unset, .unset, .unset, .unset] [(.int (2 : Int32)), (.ref b1), (.ref b1)])) (fun t k => XS.iconst X3.here hx rfl (hb hby at_17) k) ?_
  refine own_go (U' := T3.setTop (mkF m 21 #[.val (.int p0), .val (.int p2), .unset, .unset, .unset, .unset] [(.int (259 : Int32)), (.int (2 : Int32)), (.ref b1), (.ref b1)])) (fun t k => XS.sipush X3.here hx rfl (hb hby at_18) k) ?_
  obtain ⟨T4, h4, X4, e4, W4, A4, st4⟩ := own_iastore X3 hx hZ e3 V_b1 (j := (2 : Int32)) (by decide) (i := 2) rfl (Nat.le_of_ble_eq_true rfl) (g := (mkF m 21 #[.val (.int p0), .val (.int p2), .unset, .unset, .unset, .unset] [(.int (259 : Int32)), (.int (2 : Int32)), (.ref b1), (.ref b1)])) rfl rfl (hb hby at_21)
  have O := O.wr W4 g_b1
  have E_b1 := E_b1.wr W4
  have V_b1 : own_Ar Z h4 b1 k1 .int [(.int (257 : Int32)), (.int (258 : Int32)), (.int (259 : Int32)), (.int (0 : Int32)), (.int (0 : Int32)), (.int (0 : Int32)), (.int (0 : Int32)), (.int (0 : Int32)), (.int (0 : Int32)), (.int (0 : Int32)), (.int (0 : Int32)), (.int (0 : Int32)), (.int (0 : Int32)), (.int (0 : Int32)), (.int (0 : Int32)), (.int (0 : Int32))] := A4
  have N4 := Fr.snoc X4 N3 g_b1
  refine own_go (U' := T4.setTop (mkF m 22 #[.val (.int p0), .val (.int p2), .unset, .unset, .unset, .unset] [(.ref b1)])) st4 ?_
  refine own_go (U' := T4.setTop (mkF m 23 #[.val (.int p0), .val (.int p2), .unset, .unset, .unset, .unset] [(.ref b1), (.ref b1)])) (fun t k => XS.dup X4.here hx rfl (hb hby at_22) rfl rfl k) ?_
  refine own_go (U' := T4.setTop (mkF m 24 #[.val (.int p0), .val (.int p2), .unset, .unset, .unset, .unset] [(.int (3 : Int32)), (.ref b1), (.ref b1)])) (fun t k => XS.iconst X4.here hx rfl (hb hby at_23) k) ?_
  refine own_go (U' := T4.setTop (mkF m 27 #[.val (.int p0), .val (.int p2), .unset, .unset, .unset, .unset] [(.int (260 : Int32)), (.int (3 : Int32)), (.ref b1), (.ref b1)])) (fun t k => XS.sipush X4.here hx rfl (hb hby at_24) k) ?_
  obtain ⟨T5, h5, X5, e5, W5, A5, st5⟩ := own_iastore X4 hx hZ e4 V_b1 (j := (3 : Int32)) (by decide) (i := 3) rfl (Nat.le_of_ble_eq_true rfl) (g := (mkF m 27 #[.val (.int p0), .val (.int p2), .unset, .unset, .unset, .unset] [(.int (260 : Int32)), (.int (3 : Int32)), (.ref b1), (.ref b1)])) rfl rfl (hb hby at_27)
  have O := O.wr W5 g_b1
  have E_b1 := E_b1.wr W5
  have V_b1 : own_Ar Z h5 b1 k1 .int [(.int (257 : Int32)), (.int (258 : Int32)), (.int (259 : Int32)), (.int (260 : Int32)), (.int (0 : Int32)), (.int (0 : Int32)), (.int (0 : Int32)), (.int (0 : Int32)), (.int (0 : Int32)), (.int (0 : Int32)), (.int (0 : Int32)), (.int (0 : Int32)), (.int (0 : Int32)), (.int (0 : Int32)), (.int (0 : Int32)), (.int (0 : Int32))] := A5
  have N5 := Fr.snoc X5 N4 g_b1
  refine own_go (U' := T5.setTop (mkF m 28 #[.val (.int p0), .val (.int p2), .unset, .unset, .unset, .unset] [(.ref b1)])) st5 ?_
  refine own_go (U' := T5.setTop (mkF m 29 #[.val (.int p0), .val (.int p2), .unset, .unset, .unset, .unset] [(.ref b1), (.ref b1)])) (fun t k => XS.dup X5.here hx rfl (hb hby at_28) rfl rfl k) ?_
  refine own_go (U' := T5.setTop (mkF m 30 #[.val (.int p0), .val (.int p2), .unset, .unset, .unset, .unset] [(.int (4 : Int32)), (.ref b1), (.ref b1)])) (fun t k => XS.iconst X5.here hx rfl (hb hby at_29) k) ?_
  refine own_go (U' := T5.setTop (mkF m 33 #[.val (.int p0), .val (.int p2), .unset, .unset, .unset, .unset] [(.int (513 : Int32)), (.int (4 : Int32)), (.ref b1), (.ref b1)])) (fun t k => XS.sipush X5.here hx rfl (hb hby at_30) k) ?_
  obtain ⟨T6, h6, X6, e6, W6, A6, st6⟩ := own_iastore X5 hx hZ e5 V_b1 (j := (4 : Int32)) (by decide) (i := 4) rfl (Nat.le_of_ble_eq_true rfl) (g := (mkF m 33 #[.val (.int p0), .val (.int p2), .unset, .unset, .unset, .unset] [(.int (513 : Int32)), (.int (4 : Int32)), (.ref b1), (.ref b1)])) rfl rfl (hb hby at_33)
  have O := O.wr W6 g_b1
  have E_b1 := E_b1.wr W6
  have V_b1 : own_Ar Z h6 b1 k1 .int [(.int (257 : Int32)), (.int (258 : Int32)), (.int (259 : Int32)), (.int (260 : Int32)), (.int (513 : Int32)), (.int (0 : Int32)), (.int (0 : Int32)), (.int (0 : Int32)), (.int (0 : Int32)), (.int (0 : Int32)), (.int (0 : Int32)), (.int (0 : Int32)), (.int (0 : Int32)), (.int (0 : Int32)), (.int (0 : Int32)), (.int (0 : Int32))] := A6
  have N6 := Fr.snoc X6 N5 g_b1
  refine own_go (U' := T6.setTop (mkF m 34 #[.val (.int p0), .val (.int p2), .unset, .unset, .unset, .unset] [(.ref b1)])) st6 ?_
  refine own_go (U' := T6.setTop (mkF m 35 #[.val (.int p0), .val (.int p2), .unset, .unset, .unset, .unset] [(.ref b1), (.ref b1)])) (fun t k => XS.dup X6.here hx rfl (hb hby at_34) rfl rfl k) ?_
  refine own_go (U' := T6.setTop (mkF m 36 #[.val (.int p0), .val (.int p2), .unset, .unset, .unset, .unset] [(.int (5 : Int32)), (.ref b1), (.ref b1)])) (fun t k => XS.iconst X6.here hx rfl (hb hby at_35) k) ?_
  refine own_go (U' := T6.setTop (mkF m 39 #[.val (.int p0), .val (.int p2), .unset, .unset, .unset, .unset] [(.int (514 : Int32)), (.int (5 : Int32)), (.ref b1), (.ref b1)])) (fun t k => XS.sipush X6.here hx rfl (hb hby at_36) k) ?_
  obtain ⟨T7, h7, X7, e7, W7, A7, st7⟩ := own_iastore X6 hx hZ e6 V_b1 (j := (5 : Int32)) (by decide) (i := 5) rfl (Nat.le_of_ble_eq_true rfl) (g := (mkF m 39 #[.val (.int p0), .val (.int p2), .unset, .unset, .unset, .unset] [(.int (514 : Int32)), (.int (5 : Int32)), (.ref b1), (.ref b1)])) rfl rfl (hb hby at_39)
  have O := O.wr W7 g_b1
  have E_b1 := E_b1.wr W7
  have V_b1 : own_Ar Z h7 b1 k1 .int [(.int (257 : Int32)), (.int (258 : Int32)), (.int (259 : Int32)), (.int (260 : Int32)), (.int (513 : Int32)), (.int (514 : Int32)), (.int (0 : Int32)), (.int (0 : Int32)), (.int (0 : Int32)), (.int (0 : Int32)), (.int (0 : Int32)), (.int (0 : Int32)), (.int (0 : Int32)), (.int (0 : Int32)), (.int (0 : Int32)), (.int (0 : Int32))] := A7
  have N7 := Fr.snoc X7 N6 g_b1
  refine own_go (U' := T7.setTop (mkF m 40 #[.val (.int p0), .val (.int p2), .unset, .unset, .unset, .unset] [(.ref b1)])) st7 ?_
  refine own_go (U' := T7.setTop (mkF m 41 #[.val (.int p0), .val (.int p2), .unset, .unset, .unset, .unset] [(.ref b1), (.ref b1)])) (fun t k => XS.dup X7.here hx rfl (hb hby at_40) rfl rfl k) ?_
  refine own_go (U' := T7.setTop (mkF m 43 #[.val (.int p0), .val (.int p2), .unset, .unset, .unset, .unset] [(.int (6 : Int32)), (.ref b1), (.ref b1)])) (fun t k => XS.bipush X7.here hx rfl (hb hby at_41) k) ?_
  refine own_go (U' := T7.setTop (mkF m 46 #[.val (.int p0), .val (.int p2), .unset, .unset, .unset, .unset] [(.int (769 : Int32)), (.int (6 : Int32)), (.ref b1), (.ref b1)])) (fun t k => XS.sipush X7.here hx rfl (hb hby at_43) k) ?_
  obtain ⟨T8, h8, X8, e8, W8, A8, st8⟩ := own_iastore X7 hx hZ e7 V_b1 (j := (6 : Int32)) (by decide) (i := 6) rfl (Nat.le_of_ble_eq_true rfl) (g := (mkF m 46 #[.val (.int p0), .val (.int p2), .unset, .unset, .unset, .unset] [(.int (769 : Int32)), (.int (6 : Int32)), (.ref b1), (.ref b1)])) rfl rfl (hb hby at_46)
  have O := O.wr W8 g_b1
  have E_b1 := E_b1.wr W8
  have V_b1 : own_Ar Z h8 b1 k1 .int [(.int (257 : Int32)), (.int (258 : Int32)), (.int (259 : Int32)), (.int (260 : Int32)), (.int (513 : Int32)), (.int (514 : Int32)), (.int (769 : Int32)), (.int (0 : Int32)), (.int (0 : Int32)), (.int (0 : Int32)), (.int (0 : Int32)), (.int (0 : Int32)), (.int (0 : Int32)), (.int (0 : Int32)), (.int (0 : Int32)), (.int (0 : Int32))] := A8
  have N8 := Fr.snoc X8 N7 g_b1
  refine own_go (U' := T8.setTop (mkF m 47 #[.val (.int p0), .val (.int p2), .unset, .unset, .unset, .unset] [(.ref b1)])) st8 ?_
  refine own_go (U' := T8.setTop (mkF m 48 #[.val (.int p0), .val (.int p2), .unset, .unset, .unset, .unset] [(.ref b1), (.ref b1)])) (fun t k => XS.dup X8.here hx rfl (hb hby at_47) rfl rfl k) ?_
  refine own_go (U' := T8.setTop (mkF m 50 #[.val (.int p0), .val (.int p2), .unset, .unset, .unset, .unset] [(.int (7 : Int32)), (.ref b1), (.ref b1)])) (fun t k => XS.bipush X8.here hx rfl (hb hby at_48) k) ?_
  refine own_go (U' := T8.setTop (mkF m 51 #[.val (.int p0), .val (.int p2), .unset, .unset, .unset, .unset] [(.int (0 : Int32)), (.int (7 : Int32)), (.ref b1), (.ref b1)])) (fun t k => XS.iconst X8.here hx rfl (hb hby at_50) k) ?_
  obtain ⟨T9, h9, X9, e9, W9, A9, st9⟩ := own_iastore X8 hx hZ e8 V_b1 (j := (7 : Int32)) (by decide) (i := 7) rfl (Nat.le_of_ble_eq_true rfl) (g := (mkF m 51 #[.val (.int p0), .val (.int p2), .unset, .unset, .unset, .unset] [(.int (0 : Int32)), (.int (7 : Int32)), (.ref b1), (.ref b1)])) rfl rfl (hb hby at_51)
  have O := O.wr W9 g_b1
  have E_b1 := E_b1.wr W9
  have V_b1 : own_Ar Z h9 b1 k1 .int [(.int (257 : Int32)), (.int (258 : Int32)), (.int (259 : Int32)), (.int (260 : Int32)), (.int (513 : Int32)), (.int (514 : Int32)), (.int (769 : Int32)), (.int (0 : Int32)), (.int (0 : Int32)), (.int (0 : Int32)), (.int (0 : Int32)), (.int (0 : Int32)), (.int (0 : Int32)), (.int (0 : Int32)), (.int (0 : Int32)), (.int (0 : Int32))] := A9
  have N9 := Fr.snoc X9 N8 g_b1
  refine own_go (U' := T9.setTop (mkF m 52 #[.val (.int p0), .val (.int p2), .unset, .unset, .unset, .unset] [(.ref b1)])) st9 ?_
  refine own_go (U' := T9.setTop (mkF m 53 #[.val (.int p0), .val (.int p2), .unset, .unset, .unset, .unset] [(.ref b1), (.ref b1)])) (fun t k => XS.dup X9.here hx rfl (hb hby at_52) rfl rfl k) ?_
  refine own_go (U' := T9.setTop (mkF m 55 #[.val (.int p0), .val (.int p2), .unset, .unset, .unset, .unset] [(.int (8 : Int32)), (.ref b1), (.ref b1)])) (fun t k => XS.bipush X9.here hx rfl (hb hby at_53) k) ?_
  refine own_go (U' := T9.setTop (mkF m 58 #[.val (.int p0), .val (.int p2), .unset, .unset, .unset, .unset] [(.int (256 : Int32)), (.int (8 : Int32)), (.ref b1), (.ref b1)])) (fun t k => XS.sipush X9.here hx rfl (hb hby at_55) k) ?_
  obtain ⟨T10, h10, X10, e10, W10, A10, st10⟩ := own_iastore X9 hx hZ e9 V_b1 (j := (8 : Int32)) (by decide) (i := 8) rfl (Nat.le_of_ble_eq_true rfl) (g := (mkF m 58 #[.val (.int p0), .val (.int p2), .unset, .unset, .unset, .unset] [(.int (256 : Int32)), (.int (8 : Int32)), (.ref b1), (.ref b1)])) rfl rfl (hb hby at_58)
  have O := O.wr W10 g_b1
  have E_b1 := E_b1.wr W10
  have V_b1 : own_Ar Z h10 b1 k1 .int [(.int (257 : Int32)), (.int (258 : Int32)), (.int (259 : Int32)), (.int (260 : Int32)), (.int (513 : Int32)), (.int (514 : Int32)), (.int (769 : Int32)), (.int (0 : Int32)), (.int (256 : Int32)), (.int (0 : Int32)), (.int (0 : Int32)), (.int (0 : Int32)), (.int (0 : Int32)), (.int (0 : Int32)), (.int (0 : Int32)), (.int (0 : Int32))] := A10
  have N10 := Fr.snoc X10 N9 g_b1
  refine own_go (U' := T10.setTop (mkF m 59 #[.val (.int p0), .val (.int p2), .unset, .unset, .unset, .unset] [(.ref b1)])) st10 ?_
  refine own_go (U' := T10.setTop (mkF m 60 #[.val (.int p0), .val (.int p2), .unset, .unset, .unset, .unset] [(.ref b1), (.ref b1)])) (fun t k => XS.dup X10.here hx rfl (hb hby at_59) rfl rfl k) ?_
  refine own_go (U' := T10.setTop (mkF m 62 #[.val (.int p0), .val (.int p2), .unset, .unset, .unset, .unset] [(.int (9 : Int32)), (.ref b1), (.ref b1)])) (fun t k => XS.bipush X10.here hx rfl (hb hby at_60) k) ?_
  refine own_go (U' := T10.setTop (mkF m 65 #[.val (.int p0), .val (.int p2), .unset, .unset, .unset, .unset] [(.int (261 : Int32)), (.int (9 : Int32)), (.ref b1), (.ref b1)])) (fun t k => XS.sipush X10.here hx rfl (hb hby at_62) k) ?_
  obtain ⟨T11, h11, X11, e11, W11, A11, st11⟩ := own_iastore X10 hx hZ e10 V_b1 (j := (9 : Int32)) (by decide) (i := 9) rfl (Nat.le_of_ble_eq_true rfl) (g := (mkF m 65 #[.val (.int p0), .val (.int p2), .unset, .unset, .unset, .unset] [(.int (261 : Int32)), (.int (9 : Int32)), (.ref b1), (.ref b1)])) rfl rfl (hb hby at_65)
  have O := O.wr W11 g_b1
  have E_b1 := E_b1.wr W11
  have V_b1 : own_Ar Z h11 b1 k1 .int [(.int (257 : Int32)), (.int (258 : Int32)), (.int (259 : Int32)), (.int (260 : Int32)), (.int (513 : Int32)), (.int (514 : Int32)), (.int (769 : Int32)), (.int (0 : Int32)), (.int (256 : Int32)), (.int (261 : Int32)), (.int (0 : Int32)), (.int (0 : Int32)), (.int (0 : Int32)), (.int (0 : Int32)), (.int (0 : Int32)), (.int (0 : Int32))] := A11
  have N11 := Fr.snoc X11 N10 g_b1
  refine own_go (U' := T11.setTop (mkF m 66 #[.val (.int p0), .val (.int p2), .unset, .unset, .unset, .unset] [(.ref b1)])) st11 ?_
  refine own_go (U' := T11.setTop (mkF m 67 #[.val (.int p0), .val (.int p2), .unset, .unset, .unset, .unset] [(.ref b1), (.ref b1)])) (fun t k => XS.dup X11.here hx rfl (hb hby at_66) rfl rfl k) ?_
  refine own_go (U' := T11.setTop (mkF m 69 #[.val (.int p0), .val (.int p2), .unset, .unset, .unset, .unset] [(.int (10 : Int32)), (.ref b1), (.ref b1)])) (fun t k => XS.bipush X11.here hx rfl (hb hby at_67) k) ?_
  refine own_go (U' := T11.setTop (mkF m 72 #[.val (.int p0), .val (.int p2), .unset, .unset, .unset, .unset] [(.int (512 : Int32)), (.int (10 : Int32)), (.ref b1), (.ref b1)])) (fun t k => XS.sipush X11.here hx rfl (hb hby at_69) k) ?_
  obtain ⟨T12, h12, X12, e12, W12, A12, st12⟩ := own_iastore X11 hx hZ e11 V_b1 (j := (10 : Int32)) (by decide) (i := 10) rfl (Nat.le_of_ble_eq_true rfl) (g := (mkF m 72 #[.val (.int p0), .val (.int p2), .unset, .unset, .unset, .unset] [(.int (512 : Int32)), (.int (10 : Int32)), (.ref b1), (.ref b1)])) rfl rfl (hb hby at_72)
  have O := O.wr W12 g_b1
  have E_b1 := E_b1.wr W12
  have V_b1 : own_Ar Z h12 b1 k1 .int [(.int (257 : Int32)), (.int (258 : Int32)), (.int (259 : Int32)), (.int (260 : Int32)), (.int (513 : Int32)), (.int (514 : Int32)), (.int (769 : Int32)), (.int (0 : Int32)), (.int (256 : Int32)), (.int (261 : Int32)), (.int (512 : Int32)), (.int (0 : Int32)), (.int (0 : Int32)), (.int (0 : Int32)), (.int (0 : Int32)), (.int (0 : Int32))] := A12
  have N12 := Fr.snoc X12 N11 g_b1
  refine own_go (U' := T12.setTop (mkF m 73 #[.val (.int p0), .val (.int p2), .unset, .unset, .unset, .unset] [(.ref b1)])) st12 ?_
  refine own_go (U' := T12.setTop (mkF m 74 #[.val (.int p0), .val (.int p2), .unset, .unset, .unset, .unset] [(.ref b1), (.ref b1)])) (fun t k => XS.dup X12.here hx rfl (hb hby at_73) rfl rfl k) ?_
  refine own_go (U' := T12.setTop (mkF m 76 #[.val (.int p0), .val (.int p2), .unset, .unset, .unset, .unset] [(.int (11 : Int32)), (.ref b1), (.ref b1)])) (fun t k => XS.bipush X12.here hx rfl (hb hby at_74) k) ?_
  refine own_go (U' := T12.setTop (mkF m 79 #[.val (.int p0), .val (.int p2), .unset, .unset, .unset, .unset] [(.int (515 : Int32)), (.int (11 : Int32)), (.ref b1), (.ref b1)])) (fun t k => XS.sipush X12.here hx rfl (hb hby at_76) k) ?_
  obtain ⟨T13, h13, X13, e13, W13, A13, st13⟩ := own_iastore X12 hx hZ e12 V_b1 (j := (11 : Int32)) (by decide) (i := 11) rfl (Nat.le_of_ble_eq_true rfl) (g := (mkF m 79 #[.val (.int p0), .val (.int p2), .unset, .unset, .unset, .unset] [(.int (515 : Int32)), (.int (11 : Int32)), (.ref b1), (.ref b1)])) rfl rfl (hb hby at_79)
  have O := O.wr W13 g_b1
  have E_b1 := E_b1.wr W13
  have V_b1 : own_Ar Z h13 b1 k1 .int [(.int (257 : Int32)), (.int (258 : Int32)), (.int (259 : Int32)), (.int (260 : Int32)), (.int (513 : Int32)), (.int (514 : Int32)), (.int (769 : Int32)), (.int (0 : Int32)), (.int (256 : Int32)), (.int (261 : Int32)), (.int (512 : Int32)), (.int (515 : Int32)), (.int (0 : Int32)), (.int (0 : Int32)), (.int (0 : Int32)), (.int (0 : Int32))] := A13
  have N13 := Fr.snoc X13 N12 g_b1
  refine own_go (U' := T13.setTop (mkF m 80 #[.val (.int p0), .val (.int p2), .unset, .unset, .unset, .unset] [(.ref b1)])) st13 ?_
  refine own_go (U' := T13.setTop (mkF m 81 #[.val (.int p0), .val (.int p2), .unset, .unset, .unset, .unset] [(.ref b1), (.ref b1)])) (fun t k => XS.dup X13.here hx rfl (hb hby at_80) rfl rfl k) ?_
  refine own_go (U' := T13.setTop (mkF m 83 #[.val (.int p0), .val (.int p2), .unset, .unset, .unset, .unset] [(.int (12 : Int32)), (.ref b1), (.ref b1)])) (fun t k => XS.bipush X13.here hx rfl (hb hby at_81) k) ?_
  refine own_go (U' := T13.setTop (mkF m 86 #[.val (.int p0), .val (.int p2), .unset, .unset, .unset, .unset] [(.int (768 : Int32)), (.int (12 : Int32)), (.ref b1), (.ref b1)])) (fun t k => XS.sipush X13.here hx rfl (hb hby at_83) k) ?_
  obtain ⟨T14, h14, X14, e14, W14, A14, st14⟩ := own_iastore X13 hx hZ e13 V_b1 (j := (12 : Int32)) (by decide) (i := 12) rfl (Nat.le_of_ble_eq_true rfl) (g := (mkF m 86 #[.val (.int p0), .val (.int p2), .unset, .unset, .unset, .unset] [(.int (768 : Int32)), (.int (12 : Int32)), (.ref b1), (.ref b1)])) rfl rfl (hb hby at_86)
  have O := O.wr W14 g_b1
  have E_b1 := E_b1.wr W14
  have V_b1 : own_Ar Z h14 b1 k1 .int [(.int (257 : Int32)), (.int (258 : Int32)), (.int (259 : Int32)), (.int (260 : Int32)), (.int (513 : Int32)), (.int (514 : Int32)), (.int (769 : Int32)), (.int (0 : Int32)), (.int (256 : Int32)), (.int (261 : Int32)), (.int (512 : Int32)), (.int (515 : Int32)), (.int (768 : Int32)), (.int (0 : Int32)), (.int (0 : Int32)), (.int (0 : Int32))] := A14
  have N14 := Fr.snoc X14 N13 g_b1
  refine own_go (U' := T14.setTop (mkF m 87 #[.val (.int p0), .val (.int p2), .unset, .unset, .unset, .unset] [(.ref b1)])) st14 ?_
  refine own_go (U' := T14.setTop (mkF m 88 #[.val (.int p0), .val (.int p2), .unset, .unset, .unset, .unset] [(.ref b1), (.ref b1)])) (fun t k => XS.dup X14.here hx rfl (hb hby at_87) rfl rfl k) ?_
  refine own_go (U' := T14.setTop (mkF m 90 #[.val (.int p0), .val (.int p2), .unset, .unset, .unset, .unset] [(.int (13 : Int32)), (.ref b1), (.ref b1)])) (fun t k => XS.bipush X14.here hx rfl (hb hby at_88) k) ?_
  refine own_go (U' := T14.setTop (mkF m 93 #[.val (.int p0), .val (.int p2), .unset, .unset, .unset, .unset] [(.int (770 : Int32)), (.int (13 : Int32)), (.ref b1), (.ref b1)])) (fun t k => XS.sipush X14.here hx rfl (hb hby at_90) k) ?_
  obtain ⟨T15, h15, X15, e15, W15, A15, st15⟩ := own_iastore X14 hx hZ e14 V_b1 (j := (13 : Int32)) (by decide) (i := 13) rfl (Nat.le_of_ble_eq_true rfl) (g := (mkF m 93 #[.val (.int p0), .val (.int p2), .unset, .unset, .unset, .unset] [(.int (770 : Int32)), (.int (13 : Int32)), (.ref b1), (.ref b1)])) rfl rfl (hb hby at_93)
  have O := O.wr W15 g_b1
  have E_b1 := E_b1.wr W15
  have V_b1 : own_Ar Z h15 b1 k1 .int [(.int (257 : Int32)), (.int (258 : Int32)), (.int (259 : Int32)), (.int (260 : Int32)), (.int (513 : Int32)), (.int (514 : Int32)), (.int (769 : Int32)), (.int (0 : Int32)), (.int (256 : Int32)), (.int (261 : Int32)), (.int (512 : Int32)), (.int (515 : Int32)), (.int (768 : Int32)), (.int (770 : Int32)), (.int (0 : Int32)), (.int (0 : Int32))] := A15
  have N15 := Fr.snoc X15 N14 g_b1
  refine own_go (U' := T15.setTop (mkF m 94 #[.val (.int p0), .val (.int p2), .unset, .unset, .unset, .unset] [(.ref b1)])) st15 ?_
  refine own_go (U' := T15.setTop (mkF m 95 #[.val (.int p0), .val (.int p2), .unset, .unset, .unset, .unset] [(.ref b1), (.ref b1)])) (fun t k => XS.dup X15.here hx rfl (hb hby at_94) rfl rfl k) ?_
  refine own_go (U' := T15.setTop (mkF m 97 #[.val (.int p0), .val (.int p2), .unset, .unset, .unset, .unset] [(.int (14 : Int32)), (.ref b1), (.ref b1)])) (fun t k => XS.bipush X15.here hx rfl (hb hby at_95) k) ?_
  refine own_go (U' := T15.setTop (mkF m 100 #[.val (.int p0), .val (.int p2), .unset, .unset, .unset, .unset] [(.int (1025 : Int32)), (.int (14 : Int32)), (.ref b1), (.ref b1)])) (fun t k => XS.sipush X15.here hx rfl (hb hby at_97) k) ?_
  obtain ⟨T16, h16, X16, e16, W16, A16, st16⟩ := own_iastore X15 hx hZ e15 V_b1 (j := (14 : Int32)) (by decide) (i := 14) rfl (Nat.le_of_ble_eq_true rfl) (g := (mkF m 100 #[.val (.int p0), .val (.int p2), .unset, .unset, .unset, .unset] [(.int (1025 : Int32)), (.int (14 : Int32)), (.ref b1), (.ref b1)])) rfl rfl (hb hby at_100)
  have O := O.wr W16 g_b1
  have E_b1 := E_b1.wr W16
  have V_b1 : own_Ar Z h16 b1 k1 .int [(.int (257 : Int32)), (.int (258 : Int32)), (.int (259 : Int32)), (.int (260 : Int32)), (.int (513 : Int32)), (.int (514 : Int32)), (.int (769 : Int32)), (.int (0 : Int32)), (.int (256 : Int32)), (.int (261 : Int32)), (.int (512 : Int32)), (.int (515 : Int32)), (.int (768 : Int32)), (.int (770 : Int32)), (.int (1025 : Int32)), (.int (0 : Int32))] := A16
  have N16 := Fr.snoc X16 N15 g_b1
  refine own_go (U' := T16.setTop (mkF m 101 #[.val (.int p0), .val (.int p2), .unset, .unset, .unset, .unset] [(.ref b1)])) st16 ?_
  refine own_go (U' := T16.setTop (mkF m 102 #[.val (.int p0), .val (.int p2), .unset, .unset, .unset, .unset] [(.ref b1), (.ref b1)])) (fun t k => XS.dup X16.here hx rfl (hb hby at_101) rfl rfl k) ?_
  refine own_go (U' := T16.setTop (mkF m 104 #[.val (.int p0), .val (.int p2), .unset, .unset, .unset, .unset] [(.int (15 : Int32)), (.ref b1), (.ref b1)])) (fun t k => XS.bipush X16.here hx rfl (hb hby at_102) k) ?_
  refine own_go (U' := T16.setTop (mkF m 105 #[.val (.int p0), .val (.int p2), .unset, .unset, .unset, .unset] [(.int (-1 : Int32)), (.int (15 : Int32)), (.ref b1), (.ref b1)])) (fun t k => XS.iconst X16.here hx rfl (hb hby at_104) k) ?_
  obtain ⟨T17, h17, X17, e17, W17, A17, st17⟩ := own_iastore X16 hx hZ e16 V_b1 (j := (15 : Int32)) (by decide) (i := 15) rfl (Nat.le_of_ble_eq_true rfl) (g := (mkF m 105 #[.val (.int p0), .val (.int p2), .unset, .unset, .unset, .unset] [(.int (-1 : Int32)), (.int (15 : Int32)), (.ref b1), (.ref b1)])) rfl rfl (hb hby at_105)
  have O := O.wr W17 g_b1
  have E_b1 := E_b1.wr W17
  have V_b1 : own_Ar Z h17 b1 k1 .int [(.int (257 : Int32)), (.int (258 : Int32)), (.int (259 : Int32)), (.int (260 : Int32)), (.int (513 : Int32)), (.int (514 : Int32)), (.int (769 : Int32)), (.int (0 : Int32)), (.int (256 : Int32)), (.int (261 : Int32)), (.int (512 : Int32)), (.int (515 : Int32)), (.int (768 : Int32)), (.int (770 : Int32)), (.int (1025 : Int32)), (.int (-1 : Int32))] := A17
  have N17 := Fr.snoc X17 N16 g_b1
  refine own_go (U' := T17.setTop (mkF m 106 #[.val (.int p0), .val (.int p2), .unset, .unset, .unset, .unset] [(.ref b1)])) st17 ?_
  refine own_go (U' := T17.setTop (mkF m 107 #[.val (.int p0), .val (.int p2), .val (.ref b1), .unset, .unset, .unset] [])) (fun t k => XS.astoreN X17.here hx rfl (hb hby at_106) rfl rfl (l' := #[.val (.int p0), .val (.int p2), .val (.ref b1), .unset, .unset, .unset]) rfl k) ?_
  refine own_go (U' := T17.setTop (mkF m 108 #[.val (.int p0), .val (.int p2), .val (.ref b1), .unset, .unset, .unset] [(.int p0)])) (fun t k => XS.iloadN X17.here hx rfl (hb hby at_107) rfl k) ?_
  refine own_go (U' := T17.setTop (mkF m 109 #[.val (.int p0), .val (.int p2), .val (.ref b1), .unset, .unset, .unset] [(.int (1 : Int32)), (.int p0)])) (fun t k => XS.iconst X17.here hx rfl (hb hby at_108) k) ?_
  refine own_go (U' := T17.setTop (mkF m 110 #[.val (.int p0), .val (.int p2), .val (.ref b1), .unset, .unset, .unset] [(.int (p0 &&& (1 : Int32)))])) (fun t k => XS.iand X17.here hx rfl (hb hby at_109) rfl k) ?_
  by_cases hs : (p0 &&& (1 : Int32)) = (0 : Int32)
  · refine own_go (U' := T17.setTop (mkF m 113 #[.val (.int p0), .val (.int p2), .val (.ref b1), .unset, .unset, .unset] [])) (fun t k => XS.ifNo X17.here hx rfl (hb hby at_110) rfl ((if0 _ _).trans (teq hs).2) k) ?_
    refine own_go (U' := T17.setTop (mkF m 114 #[.val (.int p0), .val (.int p2), .val (.ref b1), .unset, .unset, .unset] [(.int p2)])) (fun t k => XS.iloadN X17.here hx rfl (hb hby at_113) rfl k) ?_
    refine own_go (U' := T17.setTop (mkF m 115 #[.val (.int p0), .val (.int p2), .val (.ref b1), .val (.int p2), .unset, .unset] [])) (fun t k => XS.istoreN X17.here hx rfl (hb hby at_114) rfl (l' := #[.val (.int p0), .val (.int p2), .val (.ref b1), .val (.int p2), .unset, .unset]) rfl k) ?_
    refine own_go (U' := T17.setTop (mkF m 127 #[.val (.int p0), .val (.int p2), .val (.ref b1), .val (.int p2), .unset, .unset] [])) (fun t k => XS.goto X17.here hx rfl (pc0 := 115) (pc' := 127) rfl (hb hby at_115) (by decide) (by decide) k) ?_
    refine own_go (U' := T17.setTop (mkF m 128 #[.val (.int p0), .val (.int p2), .val (.ref b1), .val (.int p2), .unset, .unset] [(.int p2)])) (fun t k => XS.iloadN X17.here hx rfl (hb hby at_127) rfl k) ?_
    obtain ⟨v18, T18, h18, L18, e18, X18, hQ18, st18⟩ := own_callS X17 hx hZ (y := (⟨"com/example/verity/verity/SignatureAlgorithmByIdPinLaw", "expected", "(I)Lcom/example/verity/verity/SignatureAlgorithm;"⟩ : MethodName)) hown (hw _ (List.mem_of_getElem? (i := 1) rfl)) (hw _ (List.mem_of_getElem? (i := 2) rfl)) (hw _ (List.mem_of_getElem? (i := 3) rfl)) (hw _ (List.mem_of_getElem? (i := 4) rfl)) (by decide) (own_rmxp l Z a0 hw p2 h17 n0 en0 en1 en2 en3 en4 en5 en6 O S0 S1 S2 S3 S4 S5 S6) (W := 0) (by decide) (by decide) (g := (mkF m 128 #[.val (.int p0), .val (.int p2), .val (.ref b1), .val (.int p2), .unset, .unset] [(.int p2)])) rfl (by rw [hml]; rfl) (argsL := [(.int p2)]) (rest := []) (lenOf own_pd0 rfl) rfl rfl (by show 2 * 0 + _ ≤ _; exact Nat.le_of_eq rfl) (hb hby at_128) e17 (by decide) (by decide)
    obtain ⟨rfl, rfl, eh18⟩ := hQ18
    have e18 := e18.trans eh18
    rw [List.append_nil] at X18
    refine own_go (U' := T18.setTop (mkF m 131 #[.val (.int p0), .val (.int p2), .val (.ref b1), .val (.int p2), .unset, .unset] [(own_ex en0 en1 en2 en3 en4 en5 en6 p2)])) st18 ?_
    refine own_go (U' := T18.setTop (mkF m 133 #[.val (.int p0), .val (.int p2), .val (.ref b1), .val (.int p2), .val (own_ex en0 en1 en2 en3 en4 en5 en6 p2), .unset] [])) (fun t k => XS.astore X18.here hx rfl (hb hby at_131) rfl (own_ex_ref _ _ _ _ _ _ _ _) (l' := #[.val (.int p0), .val (.int p2), .val (.ref b1), .val (.int p2), .val (own_ex en0 en1 en2 en3 en4 en5 en6 p2), .unset]) (XS.store1 (o := .unset) rfl (Or.inl rfl) (own_catR (own_ex_ref _ _ _ _ _ _ _ _))) k) ?_
    refine own_go (U' := T18.setTop (mkF m 134 #[.val (.int p0), .val (.int p2), .val (.ref b1), .val (.int p2), .val (own_ex en0 en1 en2 en3 en4 en5 en6 p2), .unset] [(.int p2)])) (fun t k => XS.iloadN X18.here hx rfl (hb hby at_133) rfl k) ?_
    obtain ⟨v19, T19, h19, L19, e19, X19, hQ19, st19⟩ := own_callS X18 hx hZ (y := (⟨"com/example/verity/verity/SignatureAlgorithm", "byId", "(I)Ljava/util/Optional;"⟩ : MethodName)) hown (hw _ (List.mem_of_getElem? (i := 5) rfl)) (hw _ (List.mem_of_getElem? (i := 6) rfl)) (hw _ (List.mem_of_getElem? (i := 7) rfl)) (hw _ (List.mem_of_getElem? (i := 8) rfl)) (by decide) (own_rmby l Z a0 hw p2 h17 n0 en0 en1 en2 en3 en4 en5 en6 O vv kv S_v V_v E_v FI0 FI1 FI2 FI3 FI4 FI5 FI6 oe S_o E_o F_o) (W := 0) (by decide) (by decide) (g := (mkF m 134 #[.val (.int p0), .val (.int p2), .val (.ref b1), .val (.int p2), .val (own_ex en0 en1 en2 en3 en4 en5 en6 p2), .unset] [(.int p2)])) rfl (by rw [hml]; rfl) (argsL := [(.int p2)]) (rest := []) (lenOf own_pd1 rfl) rfl rfl (by show 2 * 0 + _ ≤ _; exact Nat.le_of_eq rfl) (hb hby at_134) e18 (by decide) (by decide)
    obtain ⟨o, rfl, Nq, Kq, E_r, F_r⟩ := hQ19
    have O := O.keep Kq all0
    have V_b1 := V_b1.keep Kq nin0
    have E_b1 := E_b1.keep Kq
    have N19 := Fr.app N17 Nq
    refine own_go (U' := T19.setTop (mkF m 137 #[.val (.int p0), .val (.int p2), .val (.ref b1), .val (.int p2), .val (own_ex en0 en1 en2 en3 en4 en5 en6 p2), .unset] [(.ref o)])) st19 ?_
    refine own_go (U' := T19.setTop (mkF m 139 #[.val (.int p0), .val (.int p2), .val (.ref b1), .val (.int p2), .val (own_ex en0 en1 en2 en3 en4 en5 en6 p2), .val (.ref o)] [])) (fun t k => XS.astore X19.here hx rfl (hb hby at_137) rfl rfl (l' := #[.val (.int p0), .val (.int p2), .val (.ref b1), .val (.int p2), .val (own_ex en0 en1 en2 en3 en4 en5 en6 p2), .val (.ref o)]) rfl k) ?_
    refine own_go (U' := T19.setTop (mkF m 141 #[.val (.int p0), .val (.int p2), .val (.ref b1), .val (.int p2), .val (own_ex en0 en1 en2 en3 en4 en5 en6 p2), .val (.ref o)] [(own_ex en0 en1 en2 en3 en4 en5 en6 p2)])) (fun t k => XS.aload X19.here hx rfl (hb hby at_139) rfl (own_ex_ref _ _ _ _ _ _ _ _) k) ?_
    have hvr := own_ex_ref en0 en1 en2 en3 en4 en5 en6 p2
    generalize (own_ex en0 en1 en2 en3 en4 en5 en6 p2) = vx at *
    rcases ref_cases hvr with rfl | ⟨b, rfl⟩
    · refine own_go (U' := T19.setTop (mkF m 144 #[.val (.int p0), .val (.int p2), .val (.ref b1), .val (.int p2), .val .null, .val (.ref o)] [])) (fun t k => XS.ifnonnullNo X19.here hx rfl (hb hby at_141) rfl k) ?_
      refine own_go (U' := T19.setTop (mkF m 146 #[.val (.int p0), .val (.int p2), .val (.ref b1), .val (.int p2), .val .null, .val (.ref o)] [(.ref o)])) (fun t k => XS.aload X19.here hx rfl (hb hby at_144) rfl rfl k) ?_
      obtain ⟨v20, T20, h20, L20, e20, X20, hQ20, st20⟩ := own_callV X19 hx hZ (y := (⟨"java/util/Optional", "isPresent", "()Z"⟩ : MethodName)) (z := (⟨"java/util/Optional", "isPresent", "()Z"⟩ : MethodName)) hown (hw _ (List.mem_of_getElem? (i := 38) rfl)) (hw _ (List.mem_of_getElem? (i := 39) rfl)) (notFace_of_selects (args := #[]) (mvT hZ (hw _ (List.mem_of_getElem? (i := 41) rfl)))) (hw _ (List.mem_of_getElem? (i := 41) rfl)) (hw _ (List.mem_of_getElem? (i := 40) rfl)) (hw _ (List.mem_of_getElem? (i := 35) rfl)) (hw _ (List.mem_of_getElem? (i := 42) rfl)) (by decide) E_r (own_rmip0 l Z a0 hw o h19 F_r) (W := 0) (by decide) (by decide) (g := (mkF m 146 #[.val (.int p0), .val (.int p2), .val (.ref b1), .val (.int p2), .val .null, .val (.ref o)] [(.ref o)])) rfl (by rw [hml]; rfl) (argsL := []) (rest := []) (lenOf own_pd4 rfl) rfl rfl (by show 2 * 0 + _ ≤ _; exact Nat.le_of_eq rfl) (hb hby at_146) e19 (by decide) (by decide)
      obtain ⟨rfl, rfl, eh20⟩ := hQ20
      have e20 := e20.trans eh20
      rw [List.append_nil] at X20
      refine own_go (U' := T20.setTop (mkF m 149 #[.val (.int p0), .val (.int p2), .val (.ref b1), .val (.int p2), .val .null, .val (.ref o)] [(.int (0 : Int32))])) st20 ?_
      refine own_go (U' := T20.setTop (mkF m 152 #[.val (.int p0), .val (.int p2), .val (.ref b1), .val (.int p2), .val .null, .val (.ref o)] [])) (fun t k => XS.ifNo X20.here hx rfl (hb hby at_149) rfl ((if0 _ _).trans (teq (by decide)).2) k) ?_
      refine own_go (U' := T20.setTop (mkF m 153 #[.val (.int p0), .val (.int p2), .val (.ref b1), .val (.int p2), .val .null, .val (.ref o)] [(.int (1 : Int32))])) (fun t k => XS.iconst X20.here hx rfl (hb hby at_152) k) ?_
      refine own_go (U' := T20.setTop (mkF m 157 #[.val (.int p0), .val (.int p2), .val (.ref b1), .val (.int p2), .val .null, .val (.ref o)] [(.int (1 : Int32))])) (fun t k => XS.goto X20.here hx rfl (pc0 := 153) (pc' := 157) rfl (hb hby at_153) (by decide) (by decide) k) ?_
      refine own_retN X20 hx (t := .boolean) hret (by simp) hlk (hb hby at_157) ?_ (by decide) (by decide)
      exact ⟨rfl, N19⟩
    · refine own_go (U' := T19.setTop (mkF m 158 #[.val (.int p0), .val (.int p2), .val (.ref b1), .val (.int p2), .val (.ref b), .val (.ref o)] [])) (fun t k => XS.ifnonnullYes X19.here hx rfl (pc0 := 141) (pc' := 158) rfl (hb hby at_141) rfl (by decide) (by decide) k) ?_
      refine own_go (U' := T19.setTop (mkF m 160 #[.val (.int p0), .val (.int p2), .val (.ref b1), .val (.int p2), .val (.ref b), .val (.ref o)] [(.ref o)])) (fun t k => XS.aload X19.here hx rfl (hb hby at_158) rfl rfl k) ?_
      obtain ⟨v21, T21, h21, L21, e21, X21, hQ21, st21⟩ := own_callV X19 hx hZ (y := (⟨"java/util/Optional", "isPresent", "()Z"⟩ : MethodName)) (z := (⟨"java/util/Optional", "isPresent", "()Z"⟩ : MethodName)) hown (hw _ (List.mem_of_getElem? (i := 38) rfl)) (hw _ (List.mem_of_getElem? (i := 39) rfl)) (notFace_of_selects (args := #[]) (mvT hZ (hw _ (List.mem_of_getElem? (i := 41) rfl)))) (hw _ (List.mem_of_getElem? (i := 41) rfl)) (hw _ (List.mem_of_getElem? (i := 40) rfl)) (hw _ (List.mem_of_getElem? (i := 35) rfl)) (hw _ (List.mem_of_getElem? (i := 42) rfl)) (by decide) E_r (own_rmip1 l Z a0 hw o h19 b F_r) (W := 0) (by decide) (by decide) (g := (mkF m 160 #[.val (.int p0), .val (.int p2), .val (.ref b1), .val (.int p2), .val (.ref b), .val (.ref o)] [(.ref o)])) rfl (by rw [hml]; rfl) (argsL := []) (rest := []) (lenOf own_pd4 rfl) rfl rfl (by show 2 * 0 + _ ≤ _; exact Nat.le_of_eq rfl) (hb hby at_160) e19 (by decide) (by decide)
      obtain ⟨rfl, rfl, eh21⟩ := hQ21
      have e21 := e21.trans eh21
      rw [List.append_nil] at X21
      refine own_go (U' := T21.setTop (mkF m 163 #[.val (.int p0), .val (.int p2), .val (.ref b1), .val (.int p2), .val (.ref b), .val (.ref o)] [(.int (1 : Int32))])) st21 ?_
      refine own_go (U' := T21.setTop (mkF m 166 #[.val (.int p0), .val (.int p2), .val (.ref b1), .val (.int p2), .val (.ref b), .val (.ref o)] [])) (fun t k => XS.ifNo X21.here hx rfl (hb hby at_163) rfl ((if0 _ _).trans (feq (by decide)).1) k) ?_
      refine own_go (U' := T21.setTop (mkF m 168 #[.val (.int p0), .val (.int p2), .val (.ref b1), .val (.int p2), .val (.ref b), .val (.ref o)] [(.ref o)])) (fun t k => XS.aload X21.here hx rfl (hb hby at_166) rfl rfl k) ?_
      obtain ⟨v22, T22, h22, L22, e22, X22, hQ22, st22⟩ := own_callV X21 hx hZ (y := (⟨"java/util/Optional", "get", "()Ljava/lang/Object;"⟩ : MethodName)) (z := (⟨"java/util/Optional", "get", "()Ljava/lang/Object;"⟩ : MethodName)) hown (hw _ (List.mem_of_getElem? (i := 62) rfl)) (hw _ (List.mem_of_getElem? (i := 63) rfl)) (notFace_of_selects (args := #[]) (mvT hZ (hw _ (List.mem_of_getElem? (i := 65) rfl)))) (hw _ (List.mem_of_getElem? (i := 65) rfl)) (hw _ (List.mem_of_getElem? (i := 64) rfl)) (hw _ (List.mem_of_getElem? (i := 35) rfl)) (hw _ (List.mem_of_getElem? (i := 66) rfl)) (by decide) E_r (own_rmgt l Z a0 hw o h19 b F_r) (W := 0) (by decide) (by decide) (g := (mkF m 168 #[.val (.int p0), .val (.int p2), .val (.ref b1), .val (.int p2), .val (.ref b), .val (.ref o)] [(.ref o)])) rfl (by rw [hml]; rfl) (argsL := []) (rest := []) (lenOf own_pd8 rfl) rfl rfl (by show 2 * 0 + _ ≤ _; exact Nat.le_of_eq rfl) (hb hby at_168) e21 (by decide) (by decide)
      obtain ⟨rfl, rfl, eh22⟩ := hQ22
      have e22 := e22.trans eh22
      rw [List.append_nil] at X22
      refine own_go (U' := T22.setTop (mkF m 171 #[.val (.int p0), .val (.int p2), .val (.ref b1), .val (.int p2), .val (.ref b), .val (.ref o)] [(.ref b)])) st22 ?_
      refine own_go (U' := T22.setTop (mkF m 173 #[.val (.int p0), .val (.int p2), .val (.ref b1), .val (.int p2), .val (.ref b), .val (.ref o)] [(.ref b), (.ref b)])) (fun t k => XS.aload X22.here hx rfl (hb hby at_171) rfl rfl k) ?_
      refine own_go (U' := T22.setTop (mkF m 176 #[.val (.int p0), .val (.int p2), .val (.ref b1), .val (.int p2), .val (.ref b), .val (.ref o)] [])) (fun t k => Jvm.RoadKit.acmp (g := (mkF m 173 #[.val (.int p0), .val (.int p2), .val (.ref b1), .val (.int p2), .val (.ref b), .val (.ref o)] [(.ref b), (.ref b)])) X22 hx rfl rfl rfl (pc0 := 173) (pc' := 176) (same := true) rfl (hb hby at_173) rfl (decide_eq_true (congrArg Value.ref rfl)) (by decide) (by decide) k) ?_
      refine own_go (U' := T22.setTop (mkF m 177 #[.val (.int p0), .val (.int p2), .val (.ref b1), .val (.int p2), .val (.ref b), .val (.ref o)] [(.int (1 : Int32))])) (fun t k => XS.iconst X22.here hx rfl (hb hby at_176) k) ?_
      refine own_go (U' := T22.setTop (mkF m 181 #[.val (.int p0), .val (.int p2), .val (.ref b1), .val (.int p2), .val (.ref b), .val (.ref o)] [(.int (1 : Int32))])) (fun t k => XS.goto X22.here hx rfl (pc0 := 177) (pc' := 181) rfl (hb hby at_177) (by decide) (by decide) k) ?_
      refine own_retN X22 hx (t := .boolean) hret (by simp) hlk (hb hby at_181) ?_ (by decide) (by decide)
      exact ⟨rfl, N19⟩
  · refine own_go (U' := T17.setTop (mkF m 118 #[.val (.int p0), .val (.int p2), .val (.ref b1), .unset, .unset, .unset] [])) (fun t k => XS.ifYes X17.here hx rfl (pc0 := 110) (pc' := 118) rfl (hb hby at_110) rfl ((if0 _ _).trans (feq hs).2) (by decide) (by decide) k) ?_
    refine own_go (U' := T17.setTop (mkF m 119 #[.val (.int p0), .val (.int p2), .val (.ref b1), .unset, .unset, .unset] [(.ref b1)])) (fun t k => XS.aloadN X17.here hx rfl (hb hby at_118) rfl rfl k) ?_
    refine own_go (U' := T17.setTop (mkF m 120 #[.val (.int p0), .val (.int p2), .val (.ref b1), .unset, .unset, .unset] [(.int p0), (.ref b1)])) (fun t k => XS.iloadN X17.here hx rfl (hb hby at_119) rfl k) ?_
    refine own_go (U' := T17.setTop (mkF m 121 #[.val (.int p0), .val (.int p2), .val (.ref b1), .unset, .unset, .unset] [(.int (1 : Int32)), (.int p0), (.ref b1)])) (fun t k => XS.iconst X17.here hx rfl (hb hby at_120) k) ?_
    refine own_go (U' := T17.setTop (mkF m 122 #[.val (.int p0), .val (.int p2), .val (.ref b1), .unset, .unset, .unset] [(.int ((p0.toUInt32 >>> ((1 : Int32) &&& 31).toUInt32).toInt32)), (.ref b1)])) (fun t k => XS.iushr X17.here hx rfl (hb hby at_121) rfl k) ?_
    refine own_go (U' := T17.setTop (mkF m 124 #[.val (.int p0), .val (.int p2), .val (.ref b1), .unset, .unset, .unset] [(.int (15 : Int32)), (.int ((p0.toUInt32 >>> ((1 : Int32) &&& 31).toUInt32).toInt32)), (.ref b1)])) (fun t k => XS.bipush X17.here hx rfl (hb hby at_122) k) ?_
    refine own_go (U' := T17.setTop (mkF m 125 #[.val (.int p0), .val (.int p2), .val (.ref b1), .unset, .unset, .unset] [(.int (((p0.toUInt32 >>> ((1 : Int32) &&& 31).toUInt32).toInt32) &&& (15 : Int32))), (.ref b1)])) (fun t k => XS.iand X17.here hx rfl (hb hby at_124) rfl k) ?_
    obtain ⟨ki, hki, eki⟩ := own_fifteen ((p0.toUInt32 >>> ((1 : Int32) &&& 31).toUInt32).toInt32)
    rw [eki]
    have ok := own_ofn (i := ki) (by omega)
    obtain ⟨d, hd⟩ : ∃ d, ([(.int (257 : Int32)), (.int (258 : Int32)), (.int (259 : Int32)), (.int (260 : Int32)), (.int (513 : Int32)), (.int (514 : Int32)), (.int (769 : Int32)), (.int (0 : Int32)), (.int (256 : Int32)), (.int (261 : Int32)), (.int (512 : Int32)), (.int (515 : Int32)), (.int (768 : Int32)), (.int (770 : Int32)), (.int (1025 : Int32)), (.int (-1 : Int32))] : List Value)[ki]? = some (.int d) := by
      have : ki = 0 ∨ ki = 1 ∨ ki = 2 ∨ ki = 3 ∨ ki = 4 ∨ ki = 5 ∨ ki = 6 ∨ ki = 7 ∨ ki = 8 ∨ ki = 9 ∨ ki = 10 ∨ ki = 11 ∨ ki = 12 ∨ ki = 13 ∨ ki = 14 ∨ ki = 15 := by omega
      rcases this with rfl | rfl | rfl | rfl | rfl | rfl | rfl | rfl | rfl | rfl | rfl | rfl | rfl | rfl | rfl | rfl <;> exact ⟨_, rfl⟩
    refine own_go (U' := T17.setTop (mkF m 126 #[.val (.int p0), .val (.int p2), .val (.ref b1), .unset, .unset, .unset] [(.int d)])) (own_iaload X17 hx hZ e17 V_b1 (j := (Int32.ofNat ki)) ok.1 (i := ki) ok.2.1 (v := (.int d)) hd (g := (mkF m 125 #[.val (.int p0), .val (.int p2), .val (.ref b1), .unset, .unset, .unset] [(.int (Int32.ofNat ki)), (.ref b1)])) rfl rfl (hb hby at_125)) ?_
    refine own_go (U' := T17.setTop (mkF m 127 #[.val (.int p0), .val (.int p2), .val (.ref b1), .val (.int d), .unset, .unset] [])) (fun t k => XS.istoreN X17.here hx rfl (hb hby at_126) rfl (l' := #[.val (.int p0), .val (.int p2), .val (.ref b1), .val (.int d), .unset, .unset]) rfl k) ?_
    refine own_go (U' := T17.setTop (mkF m 128 #[.val (.int p0), .val (.int p2), .val (.ref b1), .val (.int d), .unset, .unset] [(.int d)])) (fun t k => XS.iloadN X17.here hx rfl (hb hby at_127) rfl k) ?_
    obtain ⟨v23, T23, h23, L23, e23, X23, hQ23, st23⟩ := own_callS X17 hx hZ (y := (⟨"com/example/verity/verity/SignatureAlgorithmByIdPinLaw", "expected", "(I)Lcom/example/verity/verity/SignatureAlgorithm;"⟩ : MethodName)) hown (hw _ (List.mem_of_getElem? (i := 1) rfl)) (hw _ (List.mem_of_getElem? (i := 2) rfl)) (hw _ (List.mem_of_getElem? (i := 3) rfl)) (hw _ (List.mem_of_getElem? (i := 4) rfl)) (by decide) (own_rmxp l Z a0 hw d h17 n0 en0 en1 en2 en3 en4 en5 en6 O S0 S1 S2 S3 S4 S5 S6) (W := 0) (by decide) (by decide) (g := (mkF m 128 #[.val (.int p0), .val (.int p2), .val (.ref b1), .val (.int d), .unset, .unset] [(.int d)])) rfl (by rw [hml]; rfl) (argsL := [(.int d)]) (rest := []) (lenOf own_pd0 rfl) rfl rfl (by show 2 * 0 + _ ≤ _; exact Nat.le_of_eq rfl) (hb hby at_128) e17 (by decide) (by decide)
    obtain ⟨rfl, rfl, eh23⟩ := hQ23
    have e23 := e23.trans eh23
    rw [List.append_nil] at X23
    refine own_go (U' := T23.setTop (mkF m 131 #[.val (.int p0), .val (.int p2), .val (.ref b1), .val (.int d), .unset, .unset] [(own_ex en0 en1 en2 en3 en4 en5 en6 d)])) st23 ?_
    refine own_go (U' := T23.setTop (mkF m 133 #[.val (.int p0), .val (.int p2), .val (.ref b1), .val (.int d), .val (own_ex en0 en1 en2 en3 en4 en5 en6 d), .unset] [])) (fun t k => XS.astore X23.here hx rfl (hb hby at_131) rfl (own_ex_ref _ _ _ _ _ _ _ _) (l' := #[.val (.int p0), .val (.int p2), .val (.ref b1), .val (.int d), .val (own_ex en0 en1 en2 en3 en4 en5 en6 d), .unset]) (XS.store1 (o := .unset) rfl (Or.inl rfl) (own_catR (own_ex_ref _ _ _ _ _ _ _ _))) k) ?_
    refine own_go (U' := T23.setTop (mkF m 134 #[.val (.int p0), .val (.int p2), .val (.ref b1), .val (.int d), .val (own_ex en0 en1 en2 en3 en4 en5 en6 d), .unset] [(.int d)])) (fun t k => XS.iloadN X23.here hx rfl (hb hby at_133) rfl k) ?_
    obtain ⟨v24, T24, h24, L24, e24, X24, hQ24, st24⟩ := own_callS X23 hx hZ (y := (⟨"com/example/verity/verity/SignatureAlgorithm", "byId", "(I)Ljava/util/Optional;"⟩ : MethodName)) hown (hw _ (List.mem_of_getElem? (i := 5) rfl)) (hw _ (List.mem_of_getElem? (i := 6) rfl)) (hw _ (List.mem_of_getElem? (i := 7) rfl)) (hw _ (List.mem_of_getElem? (i := 8) rfl)) (by decide) (own_rmby l Z a0 hw d h17 n0 en0 en1 en2 en3 en4 en5 en6 O vv kv S_v V_v E_v FI0 FI1 FI2 FI3 FI4 FI5 FI6 oe S_o E_o F_o) (W := 0) (by decide) (by decide) (g := (mkF m 134 #[.val (.int p0), .val (.int p2), .val (.ref b1), .val (.int d), .val (own_ex en0 en1 en2 en3 en4 en5 en6 d), .unset] [(.int d)])) rfl (by rw [hml]; rfl) (argsL := [(.int d)]) (rest := []) (lenOf own_pd1 rfl) rfl rfl (by show 2 * 0 + _ ≤ _; exact Nat.le_of_eq rfl) (hb hby at_134) e23 (by decide) (by decide)
    obtain ⟨o, rfl, Nq, Kq, E_r, F_r⟩ := hQ24
    have O := O.keep Kq all0
    have V_b1 := V_b1.keep Kq nin0
    have E_b1 := E_b1.keep Kq
    have N24 := Fr.app N17 Nq
    refine own_go (U' := T24.setTop (mkF m 137 #[.val (.int p0), .val (.int p2), .val (.ref b1), .val (.int d), .val (own_ex en0 en1 en2 en3 en4 en5 en6 d), .unset] [(.ref o)])) st24 ?_
    refine own_go (U' := T24.setTop (mkF m 139 #[.val (.int p0), .val (.int p2), .val (.ref b1), .val (.int d), .val (own_ex en0 en1 en2 en3 en4 en5 en6 d), .val (.ref o)] [])) (fun t k => XS.astore X24.here hx rfl (hb hby at_137) rfl rfl (l' := #[.val (.int p0), .val (.int p2), .val (.ref b1), .val (.int d), .val (own_ex en0 en1 en2 en3 en4 en5 en6 d), .val (.ref o)]) rfl k) ?_
    refine own_go (U' := T24.setTop (mkF m 141 #[.val (.int p0), .val (.int p2), .val (.ref b1), .val (.int d), .val (own_ex en0 en1 en2 en3 en4 en5 en6 d), .val (.ref o)] [(own_ex en0 en1 en2 en3 en4 en5 en6 d)])) (fun t k => XS.aload X24.here hx rfl (hb hby at_139) rfl (own_ex_ref _ _ _ _ _ _ _ _) k) ?_
    have hvr := own_ex_ref en0 en1 en2 en3 en4 en5 en6 d
    generalize (own_ex en0 en1 en2 en3 en4 en5 en6 d) = vx at *
    rcases ref_cases hvr with rfl | ⟨b, rfl⟩
    · refine own_go (U' := T24.setTop (mkF m 144 #[.val (.int p0), .val (.int p2), .val (.ref b1), .val (.int d), .val .null, .val (.ref o)] [])) (fun t k => XS.ifnonnullNo X24.here hx rfl (hb hby at_141) rfl k) ?_
      refine own_go (U' := T24.setTop (mkF m 146 #[.val (.int p0), .val (.int p2), .val (.ref b1), .val (.int d), .val .null, .val (.ref o)] [(.ref o)])) (fun t k => XS.aload X24.here hx rfl (hb hby at_144) rfl rfl k) ?_
      obtain ⟨v25, T25, h25, L25, e25, X25, hQ25, st25⟩ := own_callV X24 hx hZ (y := (⟨"java/util/Optional", "isPresent", "()Z"⟩ : MethodName)) (z := (⟨"java/util/Optional", "isPresent", "()Z"⟩ : MethodName)) hown (hw _ (List.mem_of_getElem? (i := 38) rfl)) (hw _ (List.mem_of_getElem? (i := 39) rfl)) (notFace_of_selects (args := #[]) (mvT hZ (hw _ (List.mem_of_getElem? (i := 41) rfl)))) (hw _ (List.mem_of_getElem? (i := 41) rfl)) (hw _ (List.mem_of_getElem? (i := 40) rfl)) (hw _ (List.mem_of_getElem? (i := 35) rfl)) (hw _ (List.mem_of_getElem? (i := 42) rfl)) (by decide) E_r (own_rmip0 l Z a0 hw o h24 F_r) (W := 0) (by decide) (by decide) (g := (mkF m 146 #[.val (.int p0), .val (.int p2), .val (.ref b1), .val (.int d), .val .null, .val (.ref o)] [(.ref o)])) rfl (by rw [hml]; rfl) (argsL := []) (rest := []) (lenOf own_pd4 rfl) rfl rfl (by show 2 * 0 + _ ≤ _; exact Nat.le_of_eq rfl) (hb hby at_146) e24 (by decide) (by decide)
      obtain ⟨rfl, rfl, eh25⟩ := hQ25
      have e25 := e25.trans eh25
      rw [List.append_nil] at X25
      refine own_go (U' := T25.setTop (mkF m 149 #[.val (.int p0), .val (.int p2), .val (.ref b1), .val (.int d), .val .null, .val (.ref o)] [(.int (0 : Int32))])) st25 ?_
      refine own_go (U' := T25.setTop (mkF m 152 #[.val (.int p0), .val (.int p2), .val (.ref b1), .val (.int d), .val .null, .val (.ref o)] [])) (fun t k => XS.ifNo X25.here hx rfl (hb hby at_149) rfl ((if0 _ _).trans (teq (by decide)).2) k) ?_
      refine own_go (U' := T25.setTop (mkF m 153 #[.val (.int p0), .val (.int p2), .val (.ref b1), .val (.int d), .val .null, .val (.ref o)] [(.int (1 : Int32))])) (fun t k => XS.iconst X25.here hx rfl (hb hby at_152) k) ?_
      refine own_go (U' := T25.setTop (mkF m 157 #[.val (.int p0), .val (.int p2), .val (.ref b1), .val (.int d), .val .null, .val (.ref o)] [(.int (1 : Int32))])) (fun t k => XS.goto X25.here hx rfl (pc0 := 153) (pc' := 157) rfl (hb hby at_153) (by decide) (by decide) k) ?_
      refine own_retN X25 hx (t := .boolean) hret (by simp) hlk (hb hby at_157) ?_ (by decide) (by decide)
      exact ⟨rfl, N24⟩
    · refine own_go (U' := T24.setTop (mkF m 158 #[.val (.int p0), .val (.int p2), .val (.ref b1), .val (.int d), .val (.ref b), .val (.ref o)] [])) (fun t k => XS.ifnonnullYes X24.here hx rfl (pc0 := 141) (pc' := 158) rfl (hb hby at_141) rfl (by decide) (by decide) k) ?_
      refine own_go (U' := T24.setTop (mkF m 160 #[.val (.int p0), .val (.int p2), .val (.ref b1), .val (.int d), .val (.ref b), .val (.ref o)] [(.ref o)])) (fun t k => XS.aload X24.here hx rfl (hb hby at_158) rfl rfl k) ?_
      obtain ⟨v26, T26, h26, L26, e26, X26, hQ26, st26⟩ := own_callV X24 hx hZ (y := (⟨"java/util/Optional", "isPresent", "()Z"⟩ : MethodName)) (z := (⟨"java/util/Optional", "isPresent", "()Z"⟩ : MethodName)) hown (hw _ (List.mem_of_getElem? (i := 38) rfl)) (hw _ (List.mem_of_getElem? (i := 39) rfl)) (notFace_of_selects (args := #[]) (mvT hZ (hw _ (List.mem_of_getElem? (i := 41) rfl)))) (hw _ (List.mem_of_getElem? (i := 41) rfl)) (hw _ (List.mem_of_getElem? (i := 40) rfl)) (hw _ (List.mem_of_getElem? (i := 35) rfl)) (hw _ (List.mem_of_getElem? (i := 42) rfl)) (by decide) E_r (own_rmip1 l Z a0 hw o h24 b F_r) (W := 0) (by decide) (by decide) (g := (mkF m 160 #[.val (.int p0), .val (.int p2), .val (.ref b1), .val (.int d), .val (.ref b), .val (.ref o)] [(.ref o)])) rfl (by rw [hml]; rfl) (argsL := []) (rest := []) (lenOf own_pd4 rfl) rfl rfl (by show 2 * 0 + _ ≤ _; exact Nat.le_of_eq rfl) (hb hby at_160) e24 (by decide) (by decide)
      obtain ⟨rfl, rfl, eh26⟩ := hQ26
      have e26 := e26.trans eh26
      rw [List.append_nil] at X26
      refine own_go (U' := T26.setTop (mkF m 163 #[.val (.int p0), .val (.int p2), .val (.ref b1), .val (.int d), .val (.ref b), .val (.ref o)] [(.int (1 : Int32))])) st26 ?_
      refine own_go (U' := T26.setTop (mkF m 166 #[.val (.int p0), .val (.int p2), .val (.ref b1), .val (.int d), .val (.ref b), .val (.ref o)] [])) (fun t k => XS.ifNo X26.here hx rfl (hb hby at_163) rfl ((if0 _ _).trans (feq (by decide)).1) k) ?_
      refine own_go (U' := T26.setTop (mkF m 168 #[.val (.int p0), .val (.int p2), .val (.ref b1), .val (.int d), .val (.ref b), .val (.ref o)] [(.ref o)])) (fun t k => XS.aload X26.here hx rfl (hb hby at_166) rfl rfl k) ?_
      obtain ⟨v27, T27, h27, L27, e27, X27, hQ27, st27⟩ := own_callV X26 hx hZ (y := (⟨"java/util/Optional", "get", "()Ljava/lang/Object;"⟩ : MethodName)) (z := (⟨"java/util/Optional", "get", "()Ljava/lang/Object;"⟩ : MethodName)) hown (hw _ (List.mem_of_getElem? (i := 62) rfl)) (hw _ (List.mem_of_getElem? (i := 63) rfl)) (notFace_of_selects (args := #[]) (mvT hZ (hw _ (List.mem_of_getElem? (i := 65) rfl)))) (hw _ (List.mem_of_getElem? (i := 65) rfl)) (hw _ (List.mem_of_getElem? (i := 64) rfl)) (hw _ (List.mem_of_getElem? (i := 35) rfl)) (hw _ (List.mem_of_getElem? (i := 66) rfl)) (by decide) E_r (own_rmgt l Z a0 hw o h24 b F_r) (W := 0) (by decide) (by decide) (g := (mkF m 168 #[.val (.int p0), .val (.int p2), .val (.ref b1), .val (.int d), .val (.ref b), .val (.ref o)] [(.ref o)])) rfl (by rw [hml]; rfl) (argsL := []) (rest := []) (lenOf own_pd8 rfl) rfl rfl (by show 2 * 0 + _ ≤ _; exact Nat.le_of_eq rfl) (hb hby at_168) e26 (by decide) (by decide)
      obtain ⟨rfl, rfl, eh27⟩ := hQ27
      have e27 := e27.trans eh27
      rw [List.append_nil] at X27
      refine own_go (U' := T27.setTop (mkF m 171 #[.val (.int p0), .val (.int p2), .val (.ref b1), .val (.int d), .val (.ref b), .val (.ref o)] [(.ref b)])) st27 ?_
      refine own_go (U' := T27.setTop (mkF m 173 #[.val (.int p0), .val (.int p2), .val (.ref b1), .val (.int d), .val (.ref b), .val (.ref o)] [(.ref b), (.ref b)])) (fun t k => XS.aload X27.here hx rfl (hb hby at_171) rfl rfl k) ?_
      refine own_go (U' := T27.setTop (mkF m 176 #[.val (.int p0), .val (.int p2), .val (.ref b1), .val (.int d), .val (.ref b), .val (.ref o)] [])) (fun t k => Jvm.RoadKit.acmp (g := (mkF m 173 #[.val (.int p0), .val (.int p2), .val (.ref b1), .val (.int d), .val (.ref b), .val (.ref o)] [(.ref b), (.ref b)])) X27 hx rfl rfl rfl (pc0 := 173) (pc' := 176) (same := true) rfl (hb hby at_173) rfl (decide_eq_true (congrArg Value.ref rfl)) (by decide) (by decide) k) ?_
      refine own_go (U' := T27.setTop (mkF m 177 #[.val (.int p0), .val (.int p2), .val (.ref b1), .val (.int d), .val (.ref b), .val (.ref o)] [(.int (1 : Int32))])) (fun t k => XS.iconst X27.here hx rfl (hb hby at_176) k) ?_
      refine own_go (U' := T27.setTop (mkF m 181 #[.val (.int p0), .val (.int p2), .val (.ref b1), .val (.int d), .val (.ref b), .val (.ref o)] [(.int (1 : Int32))])) (fun t k => XS.goto X27.here hx rfl (pc0 := 177) (pc' := 181) rfl (hb hby at_177) (by decide) (by decide) k) ?_
      refine own_retN X27 hx (t := .boolean) hret (by simp) hlk (hb hby at_181) ?_ (by decide) (by decide)
      exact ⟨rfl, N24⟩
set_option maxRecDepth 65536 in
set_option maxHeartbeats 40000000 in
theorem comes_1 {Post : Tables → Env → Array Value → State → Outcome → State → Prop} (hpost : ∀ tb e args s v u, (limb_1_1.after args s (.returned v) u = true ∧ limb_1_2.after args s (.returned v) u = true) → FrameEnd s (.returned v) u (Jvm.fieldLocs frame_1_writes args s ++ Jvm.arrayLocs frame_1_arrays args s ++ Jvm.staticLocs frame_1_statics s) 16 128 → Post tb e args s (.returned v) u) :
    ArmFor flags0 classFile x code maxLocals ret World_1 tables_1 room_1 Calls_1 rest_1 Pre_1 Post := by
  intro l hfl _ _ p e ha hc hk s m args below hf hA hF happ hP
  obtain ⟨hcalls, hrest, hpre⟩ := hP
  obtain ⟨-, -, -, hnamed, -, -, -, hat⟩ := (Spec.applies_iff hf).mp happ
  obtain ⟨hg, hn⟩ := and_e (Cond.before_iff.mp (show (Jvm.Cond.and given_1 narrow_1).before args s = true from hpre))
  obtain ⟨hcount, r0⟩ := and_e hg
  obtain ⟨g0, g1⟩ := and_e r0
  obtain ⟨w0, w1, rfl⟩ : ∃ w0 w1 : Value, args = #[w0, w1] := by
    have hs : args.size = 2 := by simpa [Cond.value, given_1] using hcount
    obtain ⟨L⟩ := args
    match L, hs with
    | [w0, w1], _ => exact ⟨w0, w1, rfl⟩
  have hw := fun d (hd : d ∈ tables_1) => atoms_spec (ws := Jvm.Cond.code x code maxLocals ret :: tables_1) hat d (List.mem_cons_of_mem _ hd)
  have hfit : Fit s := fun {y c} hc i hi => by
    obtain ⟨ha, rfl⟩ := Array.getElem?_eq_some_iff.mp hc
    have q := List.all_eq_true.mp ((Array.all_eq_true_iff_forall_mem.mp hF) _ (Array.getElem_mem ha)) i (List.mem_range.mpr hi)
    simpa [Array.getElem?_eq_getElem hi] using q
  obtain ⟨hsets, hown0⟩ := atoms_of _ (rest_1_c_eq ▸ (show rest_1_c.before _ s = true from hrest))
  have hr0 := Cond.before_iff.mp hown0
  obtain ⟨i0, ei0⟩ := is_v g0
  obtain rfl : w0 = (.int i0) := Option.some.inj ei0
  obtain ⟨i1, ei1⟩ := is_v g1
  obtain rfl : w1 = (.int i1) := Option.some.inj ei1
  obtain ⟨c1, hn⟩ := and_e hn
  obtain ⟨c2, hn⟩ := and_e hn
  obtain ⟨c3, hn⟩ := and_e hn
  obtain ⟨x0, hn⟩ := and_e hn
  obtain ⟨y0, hn⟩ := and_e hn
  obtain ⟨x1, hn⟩ := and_e hn
  obtain ⟨y1, hn⟩ := and_e hn
  obtain ⟨x2, hn⟩ := and_e hn
  obtain ⟨y2, hn⟩ := and_e hn
  obtain ⟨x3, hn⟩ := and_e hn
  obtain ⟨y3, hn⟩ := and_e hn
  obtain ⟨x4, hn⟩ := and_e hn
  obtain ⟨y4, hn⟩ := and_e hn
  obtain ⟨x5, hn⟩ := and_e hn
  obtain ⟨y5, hn⟩ := and_e hn
  obtain ⟨x6, hn⟩ := and_e hn
  obtain ⟨y6, hn⟩ := and_e hn
  obtain ⟨z0, hn⟩ := and_e hn
  obtain ⟨z1, hn⟩ := and_e hn
  obtain ⟨z2, hn⟩ := and_e hn
  obtain ⟨z3, hn⟩ := and_e hn
  obtain ⟨z4, hn⟩ := and_e hn
  obtain ⟨z5, z6⟩ := and_e hn
  obtain ⟨vv, evv⟩ := exa_v c2
  obtain ⟨en0, ev0⟩ := exa_v x0
  obtain ⟨en1, ev1⟩ := exa_v x1
  obtain ⟨en2, ev2⟩ := exa_v x2
  obtain ⟨en3, ev3⟩ := exa_v x3
  obtain ⟨en4, ev4⟩ := exa_v x4
  obtain ⟨en5, ev5⟩ := exa_v x5
  obtain ⟨en6, ev6⟩ := exa_v x6
  obtain ⟨oe, evo⟩ := exa_v (Cond.before_iff.mp (hsets _ (List.mem_of_getElem? (i := 2) rfl)))
  have S0 := Sta.start ev0 (Or.inr ⟨hw _ (List.mem_of_getElem? (i := 7) rfl), hw _ (List.mem_of_getElem? (i := 21) rfl)⟩)
  have S1 := Sta.start ev1 (Or.inr ⟨hw _ (List.mem_of_getElem? (i := 7) rfl), hw _ (List.mem_of_getElem? (i := 22) rfl)⟩)
  have S2 := Sta.start ev2 (Or.inr ⟨hw _ (List.mem_of_getElem? (i := 7) rfl), hw _ (List.mem_of_getElem? (i := 23) rfl)⟩)
  have S3 := Sta.start ev3 (Or.inr ⟨hw _ (List.mem_of_getElem? (i := 7) rfl), hw _ (List.mem_of_getElem? (i := 24) rfl)⟩)
  have S4 := Sta.start ev4 (Or.inr ⟨hw _ (List.mem_of_getElem? (i := 7) rfl), hw _ (List.mem_of_getElem? (i := 25) rfl)⟩)
  have S5 := Sta.start ev5 (Or.inr ⟨hw _ (List.mem_of_getElem? (i := 7) rfl), hw _ (List.mem_of_getElem? (i := 26) rfl)⟩)
  have S6 := Sta.start ev6 (Or.inr ⟨hw _ (List.mem_of_getElem? (i := 7) rfl), hw _ (List.mem_of_getElem? (i := 27) rfl)⟩)
  have S_v := Sta.start evv (Or.inr ⟨hw _ (List.mem_of_getElem? (i := 7) rfl), hw _ (List.mem_of_getElem? (i := 13) rfl)⟩)
  have S_o := Sta.start evo (Or.inl (hsets _ (List.mem_of_getElem? (i := 1) rfl)))
  have E_o := Exa.start evo (Cond.before_iff.mp (hsets _ (List.mem_of_getElem? (i := 2) rfl)))
  have F_o := Fld.start ((fld_at evo).symm.trans (null_v (Cond.before_iff.mp (hsets _ (List.mem_of_getElem? (i := 3) rfl)))))
  have E_v := Exa.start evv c2
  obtain ⟨cv, Av, hlv, hbv⟩ := own_lenN evv c1 c3
  have FI0 := own_fldI ev0 z0
  have FI1 := own_fldI ev1 z1
  have FI2 := own_fldI ev2 z2
  have FI3 := own_fldI ev3 z3
  have FI4 := own_fldI ev4 z4
  have FI5 := own_fldI ev5 z5
  have FI6 := own_fldI ev6 z6
  have el0 := own_elem evv ev0 Av y0
  have el1 := own_elem evv ev1 Av y1
  have el2 := own_elem evv ev2 Av y2
  have el3 := own_elem evv ev3 Av y3
  have el4 := own_elem evv ev4 Av y4
  have el5 := own_elem evv ev5 Av y5
  have el6 := own_elem evv ev6 Av y6
  have V_v : own_Ar s s.heap vv cv.cls (.object "com/example/verity/verity/SignatureAlgorithm") [(.ref en0), (.ref en1), (.ref en2), (.ref en3), (.ref en4), (.ref en5), (.ref en6)] := ⟨cv, Av, rfl, own_seven hlv hbv el0 el1 el2 el3 el4 el5 el6, (by simp), (by intro v hv; simp only [List.mem_cons, List.not_mem_nil, or_false] at hv; rcases hv with rfl | rfl | rfl | rfl | rfl | rfl | rfl <;> rfl)⟩
  obtain ⟨n, o, h1, h2, h3, _, L, rfl, ⟨rfl, N⟩, hq⟩ := own_rm0 l s _ hw tables_1 i0 i1 s.heap s.heap.size en0 en1 en2 en3 en4 en5 en6 (Old.start s) S0 S1 S2 S3 S4 S5 S6 vv _ S_v V_v E_v FI0 FI1 FI2 FI3 FI4 FI5 FI6 oe S_o E_o F_o p e ha hc hk s m _ below hf ((Spec.applies_iff_loose hf).mp happ).1 ⟨rfl, State.Warmed39.refl s, rfl⟩ trivial
  refine ⟨n, _, h1, h2, h3, hpost _ _ _ _ _ _ ⟨Cond.after_iff.mpr rfl, Cond.after_iff.mpr (eq_i res_at (Term.int_eval (1)) rfl)⟩ ⟨hq.1, hq.2.1, (hq.2.2.sift fun y hy => Or.inr (N y hy)).mono (by decide) (by decide)⟩⟩
theorem main_1_1 : Claimed_1_1 := comes_1 fun _ _ _ _ _ _ h hF => ⟨h.1, hF⟩
theorem main_1_2 : Claimed_1_2 := comes_1 fun _ _ _ _ _ _ h hF => ⟨h.2, hF⟩
end Jvm.Pilot.@@N@@
namespace Jvm.Pilot.@@N@@
open Jvm Jvm.ClassFile Sem Op Lib Jvm.Free Jvm.Stand Jvm.Pilot.@@N@@.Jvm.D
/-! MADE BY PROGRAM (witnessworld.py) out of the Statement's table words and the real class files: 15 classes; the members and pool entries that the words name. The judged class is class 1, her method 1. -/
namespace start1
open Jvm.ClassFile
def u (s : String) : CpInfo := .utf8 (stringToUtf16 s)
/-- a pool by its gaps: so many unusable entries, then the entry; so many at the end -/
def gap : Nat → List CpInfo → List CpInfo
  | 0, r => r
  | n + 1, r => .unusable :: gap n r
def poolList (es : List (Nat × CpInfo)) (last : Nat) : List CpInfo := es.foldr (fun e r => gap e.1 (e.2 :: r)) (gap last [])
def pool (es : List (Nat × CpInfo)) (last : Nat) : Array CpInfo := ⟨poolList es last⟩
def fileOf (pool : Array CpInfo) (this : Nat) (attrs : Array Attribute := #[]) (ms : Array MethodInfo := #[]) (fl : Nat := 33) (sup : Nat := 0) (ifs : Array Nat := #[]) (fds : Array FieldInfo := #[]) : ClassFile where
  minorVersion := 0
  majorVersion := 65
  constantPool := pool
  accessFlags := fl
  thisClass := this
  superClass := sup
  interfaces := ifs
  fields := fds
  methods := ms
  attributes := attrs
def plain (name : String) (sup : Option ClassId) : Class where
  name := name
  kind := .ordinary
  loader := none
  accessFlags := 33
  super := sup
  interfaces := #[]
  cf := none
  fields := #[]
  methods := #[]
  instanceTypes := #[]
  staticTypes := #[]
  resolved := #[]
  callSites := []
  init := .initialized
  statics := none
  mirror := none

def pool0 : Array CpInfo := pool [(5, u "<init>"), (0, u "()V"), (1, .class_ 10), (1, u "java/lang/Object"), (85, u "clone"), (0, u "()Ljava/lang/Object;")] 26

def k0c0 : Code := { maxStack := 0, maxLocals := 1, code := object_method_1_code, exceptionTable := #[], attributes := #[] }
def k0m0 : Method := { name := "<init>", desc := "()V", sig := { parameters := [], returnType := none }, accessFlags := 1, code := some k0c0 }
def k0m1 : Method := { name := "clone", desc := "()Ljava/lang/Object;", sig := { parameters := [], returnType := some (.object "java/lang/Object") }, accessFlags := 260, code := none }
/-- java/lang/Object -/
def k0 : Class := { plain "java/lang/Object" none with
  accessFlags := 33
  interfaces := #[]
  cf := some (fileOf pool0 8 #[] #[{ accessFlags := 1, nameIndex := 5, descriptorIndex := 6, attributes := #[] }, { accessFlags := 260, nameIndex := 96, descriptorIndex := 97, attributes := #[] }] 33 0 #[] #[])
  fields := #[]
  methods := #[k0m0, k0m1]
  instanceTypes := #[]
  staticTypes := #[]
  resolved := Array.replicate 124 none
  statics := none }

def pool1 : Array CpInfo := pool [(2, .class_ 4), (1, u "java/lang/Object"), (0, u "<init>"), (0, u "()V"), (0, .methodref 8 9), (0, .class_ 10), (0, .nameAndType 11 12), (0, u "com/example/verity/verity/SignatureAlgorithmByIdPinLaw"), (0, u "expected"), (0, u "(I)Lcom/example/verity/verity/SignatureAlgorithm;"), (0, .methodref 14 15), (0, .class_ 16), (0, .nameAndType 17 18), (0, u "com/example/verity/verity/SignatureAlgorithm"), (0, u "byId"), (0, u "(I)Ljava/util/Optional;"), (0, .methodref 20 21), (0, .class_ 22), (0, .nameAndType 23 24), (0, u "java/util/Optional"), (0, u "isPresent"), (0, u "()Z"), (0, .methodref 20 26), (0, .nameAndType 27 28), (0, u "get"), (0, u "()Ljava/lang/Object;"), (0, .fieldref 14 30), (0, .nameAndType 31 32), (0, u "RSA_PSS_SHA512"), (0, u "Lcom/example/verity/verity/SignatureAlgorithm;"), (0, .fieldref 14 34), (0, .nameAndType 35 32), (0, u "RSA_PKCS1_SHA512"), (0, .fieldref 14 37), (0, .nameAndType 38 32), (0, u "ECDSA_SHA512"), (0, .fieldref 14 40), (0, .nameAndType 41 32), (0, u "RSA_PSS_SHA256"), (0, .fieldref 14 43), (0, .nameAndType 44 32), (0, u "RSA_PKCS1_SHA256"), (0, .fieldref 14 46), (0, .nameAndType 47 32), (0, u "ECDSA_SHA256"), (0, .fieldref 14 49), (0, .nameAndType 50 32), (0, u "DSA_SHA256"), (2, u "law"), (0, u "(II)Z")] 5

def k1m0 : Method := { name := "<init>", desc := "()V", sig := { parameters := [], returnType := none }, accessFlags := 2, code := none }
def k1c1 : Code := { maxStack := 4, maxLocals := 6, code := code, exceptionTable := #[], attributes := #[] }
def k1m1 : Method := { name := "law", desc := "(II)Z", sig := { parameters := [.int, .int], returnType := some .boolean }, accessFlags := 9, code := some k1c1 }
def k1c2 : Code := { maxStack := 2, maxLocals := 1, code := method_3_code, exceptionTable := #[], attributes := #[] }
def k1m2 : Method := { name := "expected", desc := "(I)Lcom/example/verity/verity/SignatureAlgorithm;", sig := { parameters := [.int], returnType := some (.object "com/example/verity/verity/SignatureAlgorithm") }, accessFlags := 10, code := some k1c2 }
/-- com/example/verity/verity/SignatureAlgorithmByIdPinLaw -/
def k1 : Class := { plain "com/example/verity/verity/SignatureAlgorithmByIdPinLaw" (some 0) with
  accessFlags := 49
  interfaces := #[]
  cf := some (fileOf pool1 8 #[] #[{ accessFlags := 2, nameIndex := 5, descriptorIndex := 6, attributes := #[] }, { accessFlags := 9, nameIndex := 53, descriptorIndex := 54, attributes := #[] }, { accessFlags := 10, nameIndex := 11, descriptorIndex := 12, attributes := #[] }] 49 2 #[] #[])
  fields := #[]
  methods := #[k1m0, k1m1, k1m2]
  instanceTypes := #[]
  staticTypes := #[]
  resolved := Array.replicate 60 none
  statics := none }

def pool2 : Array CpInfo := pool [(1, .class_ 2), (0, u "java/lang/constant/Constable"), (0, .class_ 4), (0, u "java/lang/Object")] 6

/-- java/lang/constant/Constable -/
def k2 : Class := { plain "java/lang/constant/Constable" (some 0) with
  accessFlags := 1537
  interfaces := #[]
  cf := some (fileOf pool2 1 #[] #[] 1537 3 #[] #[])
  fields := #[]
  methods := #[]
  instanceTypes := #[]
  staticTypes := #[]
  resolved := Array.replicate 11 none
  statics := none }

def pool3 : Array CpInfo := pool [(1, .class_ 2), (0, u "java/lang/Comparable"), (0, .class_ 4), (0, u "java/lang/Object")] 7

/-- java/lang/Comparable -/
def k3 : Class := { plain "java/lang/Comparable" (some 0) with
  accessFlags := 1537
  interfaces := #[]
  cf := some (fileOf pool3 1 #[] #[] 1537 3 #[] #[])
  fields := #[]
  methods := #[]
  instanceTypes := #[]
  staticTypes := #[]
  resolved := Array.replicate 12 none
  statics := none }

def pool4 : Array CpInfo := pool [(1, .class_ 2), (0, u "java/io/Serializable"), (0, .class_ 4), (0, u "java/lang/Object")] 2

/-- java/io/Serializable -/
def k4 : Class := { plain "java/io/Serializable" (some 0) with
  accessFlags := 1537
  interfaces := #[]
  cf := some (fileOf pool4 1 #[] #[] 1537 3 #[] #[])
  fields := #[]
  methods := #[]
  instanceTypes := #[]
  staticTypes := #[]
  resolved := Array.replicate 7 none
  statics := none }

def pool5 : Array CpInfo := pool [(2, .class_ 4), (1, u "java/lang/Enum"), (0, u "name"), (0, u "Ljava/lang/String;"), (2, u "ordinal"), (0, u "I"), (1, .class_ 14), (1, u "java/lang/Object"), (4, u "hash"), (86, .class_ 108), (1, u "java/lang/Enum$EnumDesc"), (2, .class_ 112), (0, u "java/lang/constant/Constable"), (0, .class_ 114), (0, u "java/lang/Comparable"), (0, .class_ 116), (0, u "java/io/Serializable")] 87

/-- java/lang/Enum -/
def k5 : Class := { plain "java/lang/Enum" (some 0) with
  accessFlags := 1057
  interfaces := #[2, 3, 4]
  cf := some (fileOf pool5 2 #[.nestMembers #[106]] #[] 1057 12 #[111, 113, 115] #[{ accessFlags := 18, nameIndex := 5, descriptorIndex := 6, attributes := #[] }, { accessFlags := 18, nameIndex := 9, descriptorIndex := 10, attributes := #[] }, { accessFlags := 2, nameIndex := 19, descriptorIndex := 10, attributes := #[] }])
  fields := #[{ name := "name", type := (.object "java/lang/String"), accessFlags := 18, slot := 0, constantValue := 0 }, { name := "ordinal", type := .int, accessFlags := 18, slot := 1, constantValue := 0 }, { name := "hash", type := .int, accessFlags := 2, slot := 2, constantValue := 0 }]
  methods := #[]
  instanceTypes := #[(.object "java/lang/String"), .int, .int]
  staticTypes := #[]
  resolved := Array.replicate 204 none
  statics := none }

def pool6 : Array CpInfo := pool [(1, .class_ 2), (0, u "com/example/verity/verity/SignatureAlgorithm"), (2, u "RSA_PSS_SHA512"), (0, u "Lcom/example/verity/verity/SignatureAlgorithm;"), (2, u "RSA_PKCS1_SHA512"), (2, u "ECDSA_SHA512"), (2, u "RSA_PSS_SHA256"), (2, u "RSA_PKCS1_SHA256"), (2, u "ECDSA_SHA256"), (2, u "DSA_SHA256"), (0, .fieldref 1 26), (0, .nameAndType 27 28), (0, u "$VALUES"), (0, u "[Lcom/example/verity/verity/SignatureAlgorithm;"), (0, .methodref 30 31), (0, .class_ 28), (0, .nameAndType 32 33), (0, u "clone"), (0, u "()Ljava/lang/Object;"), (1, .class_ 37), (1, u "java/lang/Enum"), (6, .fieldref 1 45), (0, .nameAndType 46 47), (0, u "id"), (0, u "I"), (2, u "text"), (0, u "Ljava/lang/String;"), (2, u "keyAlgorithm"), (2, u "signatureAlgorithm"), (2, u "parameters"), (0, u "Ljava/security/spec/AlgorithmParameterSpec;"), (2, u "contentDigest"), (0, u "Lcom/example/verity/verity/ContentDigest;"), (0, .methodref 1 67), (0, .nameAndType 68 69), (0, u "values"), (0, u "()[Lcom/example/verity/verity/SignatureAlgorithm;"), (0, .methodref 71 72), (0, .class_ 73), (0, .nameAndType 74 75), (0, u "java/util/Optional"), (0, u "of"), (0, u "(Ljava/lang/Object;)Ljava/util/Optional;"), (0, .methodref 71 77), (0, .nameAndType 78 79), (0, u "empty"), (0, u "()Ljava/util/Optional;"), (42, u "SHA512_CURVE_BITS"), (0, u "Ljava/util/Set;"), (206, u "MAX_RSA_SHA256_BITS"), (2, u "P256_BITS"), (8, u "byId"), (0, u "(I)Ljava/util/Optional;")] 48

def k6c0 : Code := { maxStack := 1, maxLocals := 0, code := prog_33_method_1_code, exceptionTable := #[], attributes := #[] }
def k6m0 : Method := { name := "values", desc := "()[Lcom/example/verity/verity/SignatureAlgorithm;", sig := { parameters := [], returnType := some (.array (.object "com/example/verity/verity/SignatureAlgorithm")) }, accessFlags := 9, code := some k6c0 }
def k6c1 : Code := { maxStack := 2, maxLocals := 5, code := prog_33_method_4_code, exceptionTable := #[], attributes := #[] }
def k6m1 : Method := { name := "byId", desc := "(I)Ljava/util/Optional;", sig := { parameters := [.int], returnType := some (.object "java/util/Optional") }, accessFlags := 8, code := some k6c1 }
/-- com/example/verity/verity/SignatureAlgorithm -/
def k6 : Class := { plain "com/example/verity/verity/SignatureAlgorithm" (some 5) with
  accessFlags := 16433
  interfaces := #[]
  cf := some (fileOf pool6 1 #[] #[{ accessFlags := 9, nameIndex := 68, descriptorIndex := 69, attributes := #[] }, { accessFlags := 8, nameIndex := 342, descriptorIndex := 343, attributes := #[] }] 16433 35 #[] #[{ accessFlags := 16409, nameIndex := 5, descriptorIndex := 6, attributes := #[] }, { accessFlags := 16409, nameIndex := 9, descriptorIndex := 6, attributes := #[] }, { accessFlags := 16409, nameIndex := 12, descriptorIndex := 6, attributes := #[] }, { accessFlags := 16409, nameIndex := 15, descriptorIndex := 6, attributes := #[] }, { accessFlags := 16409, nameIndex := 18, descriptorIndex := 6, attributes := #[] }, { accessFlags := 16409, nameIndex := 21, descriptorIndex := 6, attributes := #[] }, { accessFlags := 16409, nameIndex := 24, descriptorIndex := 6, attributes := #[] }, { accessFlags := 26, nameIndex := 330, descriptorIndex := 47, attributes := #[] }, { accessFlags := 26, nameIndex := 333, descriptorIndex := 47, attributes := #[] }, { accessFlags := 26, nameIndex := 122, descriptorIndex := 123, attributes := #[] }, { accessFlags := 18, nameIndex := 46, descriptorIndex := 47, attributes := #[] }, { accessFlags := 18, nameIndex := 50, descriptorIndex := 51, attributes := #[] }, { accessFlags := 18, nameIndex := 54, descriptorIndex := 51, attributes := #[] }, { accessFlags := 18, nameIndex := 57, descriptorIndex := 51, attributes := #[] }, { accessFlags := 18, nameIndex := 60, descriptorIndex := 61, attributes := #[] }, { accessFlags := 18, nameIndex := 64, descriptorIndex := 65, attributes := #[] }, { accessFlags := 4122, nameIndex := 27, descriptorIndex := 28, attributes := #[] }])
  fields := #[{ name := "RSA_PSS_SHA512", type := (.object "com/example/verity/verity/SignatureAlgorithm"), accessFlags := 16409, slot := 0, constantValue := 0 }, { name := "RSA_PKCS1_SHA512", type := (.object "com/example/verity/verity/SignatureAlgorithm"), accessFlags := 16409, slot := 1, constantValue := 0 }, { name := "ECDSA_SHA512", type := (.object "com/example/verity/verity/SignatureAlgorithm"), accessFlags := 16409, slot := 2, constantValue := 0 }, { name := "RSA_PSS_SHA256", type := (.object "com/example/verity/verity/SignatureAlgorithm"), accessFlags := 16409, slot := 3, constantValue := 0 }, { name := "RSA_PKCS1_SHA256", type := (.object "com/example/verity/verity/SignatureAlgorithm"), accessFlags := 16409, slot := 4, constantValue := 0 }, { name := "ECDSA_SHA256", type := (.object "com/example/verity/verity/SignatureAlgorithm"), accessFlags := 16409, slot := 5, constantValue := 0 }, { name := "DSA_SHA256", type := (.object "com/example/verity/verity/SignatureAlgorithm"), accessFlags := 16409, slot := 6, constantValue := 0 }, { name := "MAX_RSA_SHA256_BITS", type := .int, accessFlags := 26, slot := 7, constantValue := 0 }, { name := "P256_BITS", type := .int, accessFlags := 26, slot := 8, constantValue := 0 }, { name := "SHA512_CURVE_BITS", type := (.object "java/util/Set"), accessFlags := 26, slot := 9, constantValue := 0 }, { name := "id", type := .int, accessFlags := 18, slot := 3, constantValue := 0 }, { name := "text", type := (.object "java/lang/String"), accessFlags := 18, slot := 4, constantValue := 0 }, { name := "keyAlgorithm", type := (.object "java/lang/String"), accessFlags := 18, slot := 5, constantValue := 0 }, { name := "signatureAlgorithm", type := (.object "java/lang/String"), accessFlags := 18, slot := 6, constantValue := 0 }, { name := "parameters", type := (.object "java/security/spec/AlgorithmParameterSpec"), accessFlags := 18, slot := 7, constantValue := 0 }, { name := "contentDigest", type := (.object "com/example/verity/verity/ContentDigest"), accessFlags := 18, slot := 8, constantValue := 0 }, { name := "$VALUES", type := (.array (.object "com/example/verity/verity/SignatureAlgorithm")), accessFlags := 4122, slot := 10, constantValue := 0 }]
  methods := #[k6m0, k6m1]
  instanceTypes := #[(.object "java/lang/String"), .int, .int, .int, (.object "java/lang/String"), (.object "java/lang/String"), (.object "java/lang/String"), (.object "java/security/spec/AlgorithmParameterSpec"), (.object "com/example/verity/verity/ContentDigest")]
  staticTypes := #[(.object "com/example/verity/verity/SignatureAlgorithm"), (.object "com/example/verity/verity/SignatureAlgorithm"), (.object "com/example/verity/verity/SignatureAlgorithm"), (.object "com/example/verity/verity/SignatureAlgorithm"), (.object "com/example/verity/verity/SignatureAlgorithm"), (.object "com/example/verity/verity/SignatureAlgorithm"), (.object "com/example/verity/verity/SignatureAlgorithm"), .int, .int, (.object "java/util/Set"), (.array (.object "com/example/verity/verity/SignatureAlgorithm"))]
  resolved := Array.replicate 392 none
  statics := some 0 }

def pool7 : Array CpInfo := pool [(1, .class_ 2), (0, u "java/lang/Cloneable"), (0, .class_ 4), (0, u "java/lang/Object")] 2

/-- java/lang/Cloneable -/
def k7 : Class := { plain "java/lang/Cloneable" (some 0) with
  accessFlags := 1537
  interfaces := #[]
  cf := some (fileOf pool7 1 #[] #[] 1537 3 #[] #[])
  fields := #[]
  methods := #[]
  instanceTypes := #[]
  staticTypes := #[]
  resolved := Array.replicate 7 none
  statics := none }

def pool8 : Array CpInfo := pool [(1, .fieldref 2 3), (0, .class_ 4), (0, .nameAndType 5 6), (0, u "java/util/Optional"), (0, u "EMPTY"), (0, u "Ljava/util/Optional;"), (0, .methodref 8 9), (0, .class_ 10), (0, .nameAndType 11 12), (0, u "java/lang/Object"), (0, u "<init>"), (0, u "()V"), (0, .fieldref 2 14), (0, .nameAndType 15 16), (0, u "value"), (0, u "Ljava/lang/Object;"), (0, .methodref 18 19), (0, .class_ 20), (0, .nameAndType 21 22), (0, u "java/util/Objects"), (0, u "requireNonNull"), (0, u "(Ljava/lang/Object;)Ljava/lang/Object;"), (0, .methodref 2 24), (0, .nameAndType 11 25), (0, u "(Ljava/lang/Object;)V"), (20, u "()Z"), (8, u "empty"), (0, u "()Ljava/util/Optional;"), (8, u "(Ljava/lang/Object;)Ljava/util/Optional;"), (2, u "isPresent"), (4, u "get"), (0, u "()Ljava/lang/Object;"), (7, u "of")] 104

def k8c0 : Code := { maxStack := 1, maxLocals := 1, code := jdk_32_method_1_code, exceptionTable := #[], attributes := #[] }
def k8m0 : Method := { name := "empty", desc := "()Ljava/util/Optional;", sig := { parameters := [], returnType := some (.object "java/util/Optional") }, accessFlags := 9, code := some k8c0 }
def k8c1 : Code := { maxStack := 2, maxLocals := 2, code := jdk_32_method_2_code, exceptionTable := #[], attributes := #[] }
def k8m1 : Method := { name := "<init>", desc := "(Ljava/lang/Object;)V", sig := { parameters := [(.object "java/lang/Object")], returnType := none }, accessFlags := 2, code := some k8c1 }
def k8c2 : Code := { maxStack := 3, maxLocals := 1, code := jdk_32_method_3_code, exceptionTable := #[], attributes := #[] }
def k8m2 : Method := { name := "of", desc := "(Ljava/lang/Object;)Ljava/util/Optional;", sig := { parameters := [(.object "java/lang/Object")], returnType := some (.object "java/util/Optional") }, accessFlags := 9, code := some k8c2 }
def k8c3 : Code := { maxStack := 3, maxLocals := 1, code := jdk_32_method_5_code, exceptionTable := #[], attributes := #[] }
def k8m3 : Method := { name := "get", desc := "()Ljava/lang/Object;", sig := { parameters := [], returnType := some (.object "java/lang/Object") }, accessFlags := 1, code := some k8c3 }
def k8c4 : Code := { maxStack := 1, maxLocals := 1, code := jdk_32_method_6_code, exceptionTable := #[], attributes := #[] }
def k8m4 : Method := { name := "isPresent", desc := "()Z", sig := { parameters := [], returnType := some .boolean }, accessFlags := 1, code := some k8c4 }
/-- java/util/Optional -/
def k8 : Class := { plain "java/util/Optional" (some 0) with
  accessFlags := 49
  interfaces := #[]
  cf := some (fileOf pool8 2 #[] #[{ accessFlags := 9, nameIndex := 55, descriptorIndex := 56, attributes := #[] }, { accessFlags := 2, nameIndex := 11, descriptorIndex := 25, attributes := #[] }, { accessFlags := 9, nameIndex := 82, descriptorIndex := 65, attributes := #[] }, { accessFlags := 1, nameIndex := 73, descriptorIndex := 74, attributes := #[] }, { accessFlags := 1, nameIndex := 68, descriptorIndex := 46, attributes := #[] }] 49 8 #[] #[{ accessFlags := 26, nameIndex := 5, descriptorIndex := 6, attributes := #[] }, { accessFlags := 18, nameIndex := 15, descriptorIndex := 16, attributes := #[] }])
  fields := #[{ name := "EMPTY", type := (.object "java/util/Optional"), accessFlags := 26, slot := 0, constantValue := 0 }, { name := "value", type := (.object "java/lang/Object"), accessFlags := 18, slot := 0, constantValue := 0 }]
  methods := #[k8m0, k8m1, k8m2, k8m3, k8m4]
  instanceTypes := #[(.object "java/lang/Object")]
  staticTypes := #[(.object "java/util/Optional")]
  resolved := Array.replicate 187 none
  statics := some 1 }

def pool9 : Array CpInfo := pool [(2, .class_ 4), (1, u "java/lang/Object"), (0, u "<init>"), (0, u "()V"), (35, .class_ 44), (1, u "java/util/Objects"), (0, u "requireNonNull"), (0, u "(Ljava/lang/Object;)Ljava/lang/Object;")] 137

def k9m0 : Method := { name := "<init>", desc := "()V", sig := { parameters := [], returnType := none }, accessFlags := 2, code := none }
def k9c1 : Code := { maxStack := 2, maxLocals := 1, code := jdk_31_method_10_code, exceptionTable := #[], attributes := #[] }
def k9m1 : Method := { name := "requireNonNull", desc := "(Ljava/lang/Object;)Ljava/lang/Object;", sig := { parameters := [(.object "java/lang/Object")], returnType := some (.object "java/lang/Object") }, accessFlags := 9, code := some k9c1 }
/-- java/util/Objects -/
def k9 : Class := { plain "java/util/Objects" (some 0) with
  accessFlags := 49
  interfaces := #[]
  cf := some (fileOf pool9 42 #[] #[{ accessFlags := 2, nameIndex := 5, descriptorIndex := 6, attributes := #[] }, { accessFlags := 9, nameIndex := 45, descriptorIndex := 46, attributes := #[] }] 49 2 #[] #[])
  fields := #[]
  methods := #[k9m0, k9m1]
  instanceTypes := #[]
  staticTypes := #[]
  resolved := Array.replicate 184 none
  statics := none }

/-- the primitive byte -/
def k10 : Class := { plain "byte" none with kind := .primitive 'B', accessFlags := 0x411 }
/-- [B -/
def k11 : Class := { plain "[B" (some 0) with kind := .array 10 .byte, interfaces := #[7, 4], accessFlags := 1041 }

/-- the primitive int -/
def k12 : Class := { plain "int" none with kind := .primitive 'I', accessFlags := 0x411 }
/-- [I -/
def k13 : Class := { plain "[I" (some 0) with kind := .array 12 .int, interfaces := #[7, 4], accessFlags := 1041 }

/-- [Lcom/example/verity/verity/SignatureAlgorithm; -/
def k14 : Class := { plain "[Lcom/example/verity/verity/SignatureAlgorithm;" (some 0) with kind := .array 6 (.object "com/example/verity/verity/SignatureAlgorithm"), interfaces := #[7, 4], accessFlags := 1041 }

def heap : Heap := #[{ cls := 6, slots := #[.ref 3, .ref 4, .ref 5, .ref 6, .ref 7, .ref 8, .ref 9, .int 0, .int 0, .null, .ref 2], vm := .statics 6 },
  { cls := 8, slots := #[.ref 10], vm := .statics 8 },
  { cls := 14, slots := #[.ref 3, .ref 4, .ref 5, .ref 6, .ref 7, .ref 8, .ref 9], vm := .none },
  { cls := 6, slots := #[.null, .int 0, .int 0, .int 258, .null, .null, .null, .null, .null], vm := .none },
  { cls := 6, slots := #[.null, .int 0, .int 0, .int 260, .null, .null, .null, .null, .null], vm := .none },
  { cls := 6, slots := #[.null, .int 0, .int 0, .int 514, .null, .null, .null, .null, .null], vm := .none },
  { cls := 6, slots := #[.null, .int 0, .int 0, .int 257, .null, .null, .null, .null, .null], vm := .none },
  { cls := 6, slots := #[.null, .int 0, .int 0, .int 259, .null, .null, .null, .null, .null], vm := .none },
  { cls := 6, slots := #[.null, .int 0, .int 0, .int 513, .null, .null, .null, .null, .null], vm := .none },
  { cls := 6, slots := #[.null, .int 0, .int 0, .int 769, .null, .null, .null, .null, .null], vm := .none },
  { cls := 8, slots := #[.null], vm := .none }]
def classes : Array Class := #[k0, k1, k2, k3, k4, k5, k6, k7, k8, k9, k10, k11, k12, k13, k14]
def interned : List (Array UInt16 × Addr) := []
def slotsUsed : Nat := 83
def theMethod : MethodId := ⟨1, 1⟩
def args0 : Array Value := #[.int 3, .int 7]
def aboutOver (below : List Frame) : State where
  vm := { classes := classes, interned := interned.toArray }
  heap := heap
  slotsUsed := slotsUsed
  threads := #[{ frames := .invoking theMethod args0 :: below }]
def below0 : List Frame := [.native { method := ⟨0, 0⟩, args := #[] }]
def about1 : State := aboutOver below0
def p0 : Program := .bare "" "" ""
def e0 : Env := launch0.env 0 0 0
theorem w_frames : about1.frames = Frame.invoking theMethod args0 :: below0 := rfl
set_option maxRecDepth 65536 in
theorem w_args : argsFit about1.vm theMethod args0 = true := by decide +kernel
set_option maxRecDepth 65536 in
theorem w_heap : heapFits about1 = true := by decide +kernel
set_option maxRecDepth 65536 in
theorem w_runnable : about1.curStatus? = some .runnable := by decide +kernel
set_option maxRecDepth 65536 in
theorem w_alone : about1.alone = true := by decide +kernel
set_option maxRecDepth 65536 in
theorem w_named : about1.methodNamed? x = some theMethod := by decide +kernel
set_option maxRecDepth 65536 in
theorem w_hears : about1.hears theMethod below0 = true := by decide +kernel
set_option maxRecDepth 65536 in
theorem w_ripe : about1.ripe theMethod args0 below0 = true := by decide +kernel
theorem w_running : about1.status = .running := rfl
set_option maxRecDepth 65536 in
theorem w_room : about1.hasRoom e0.platform room_1 = true :=
  launch0.hasRoom_least _ room_1 (by decide +kernel) (by decide +kernel) (by decide +kernel) (by decide +kernel) (by decide +kernel) (by decide +kernel)
theorem allAtoms_all (ts : List Jvm.Cond) (a : Array Jvm.Value) (st : Jvm.State) : (allAtoms ts).before a st = ts.all (fun c => c.before a st) := by
  induction ts with
  | nil => rfl
  | cons c t ih =>
    show (Jvm.Cond.and c (allAtoms t)).before a st = _
    rw [Jvm.Cond.before_and, ih, List.all_cons]
def words1 : List Jvm.Cond := Jvm.Cond.code x code maxLocals ret :: tables_1
/-- a 'code' word, met by the world's own term for the bytes: nothing is compared byte by byte -/
theorem code_word {y : MethodName} {bytes : ByteArray} {mx : Nat} {rt : Option FieldType} {a : Array Value} {s : State} {m : MethodId} {meth : Method} {c : Code} (h1 : s.methodNamed? y = some m) (h2 : s.vm.method? m = some meth) (h3 : meth.code = some c) (h4 : c.code = bytes)
    (h5 : (c.maxLocals == mx && c.exceptionTable.isEmpty && decide (c.maxStack ≤ mostOperands) && decide (meth.sig.returnType = rt) && !meth.locks && decide (parseMethodDescriptor y.desc = some meth.sig)) = true) : (Jvm.Cond.code y bytes mx rt).before a s = true := by
  simp only [Bool.and_eq_true, beq_iff_eq, Bool.not_eq_true', decide_eq_true_eq] at h5
  obtain ⟨⟨⟨⟨⟨g1, g2⟩, g3⟩, g4⟩, g5⟩, g6⟩ := h5
  simp [Cond.before, Cond.holds, Cond.value, h1, h2, h3, h4, g1, g2, g3, g4, g5, g6]
def isCode : Jvm.Cond → Bool
  | .code _ _ _ _ => true
  | _ => false
theorem all_split {L : List Jvm.Cond} {P : Jvm.Cond → Bool} (h1 : L.all (fun c => isCode c || P c) = true) (h2 : ∀ c ∈ L.filter isCode, P c = true) : L.all P = true := by
  refine List.all_eq_true.mpr fun c hc => ?_
  have h := List.all_eq_true.mp h1 c hc
  rcases Bool.eq_false_or_eq_true (isCode c) with hi | hi
  · exact h2 c (List.mem_filter.mpr ⟨hc, hi⟩)
  · simpa [hi] using h
set_option maxRecDepth 65536 in
theorem w_c0 : (Jvm.Cond.code x code maxLocals ret).before args0 about1 = true := code_word (m := ⟨1, 1⟩) (meth := k1m1) (c := k1c1) (by decide +kernel) rfl rfl rfl (by decide +kernel)
set_option maxRecDepth 65536 in
theorem w_c1 : (Jvm.Cond.code ({ cls := "com/example/verity/verity/SignatureAlgorithmByIdPinLaw", name := "expected", desc := "(I)Lcom/example/verity/verity/SignatureAlgorithm;" } : Jvm.MethodName) method_3_code (1 : Nat) (Option.some (Jvm.ClassFile.FieldType.object "com/example/verity/verity/SignatureAlgorithm"))).before args0 about1 = true := code_word (m := ⟨1, 2⟩) (meth := k1m2) (c := k1c2) (by decide +kernel) rfl rfl rfl (by decide +kernel)
set_option maxRecDepth 65536 in
theorem w_c2 : (Jvm.Cond.code ({ cls := "com/example/verity/verity/SignatureAlgorithm", name := "byId", desc := "(I)Ljava/util/Optional;" } : Jvm.MethodName) prog_33_method_4_code (5 : Nat) (Option.some (Jvm.ClassFile.FieldType.object "java/util/Optional"))).before args0 about1 = true := code_word (m := ⟨6, 1⟩) (meth := k6m1) (c := k6c1) (by decide +kernel) rfl rfl rfl (by decide +kernel)
set_option maxRecDepth 65536 in
theorem w_c3 : (Jvm.Cond.code ({ cls := "com/example/verity/verity/SignatureAlgorithm", name := "values", desc := "()[Lcom/example/verity/verity/SignatureAlgorithm;" } : Jvm.MethodName) prog_33_method_1_code (0 : Nat) (Option.some (Jvm.ClassFile.FieldType.array (Jvm.ClassFile.FieldType.object "com/example/verity/verity/SignatureAlgorithm")))).before args0 about1 = true := code_word (m := ⟨6, 0⟩) (meth := k6m0) (c := k6c0) (by decide +kernel) rfl rfl rfl (by decide +kernel)
set_option maxRecDepth 65536 in
theorem w_c4 : (Jvm.Cond.code ({ cls := "java/util/Optional", name := "empty", desc := "()Ljava/util/Optional;" } : Jvm.MethodName) jdk_32_method_1_code (1 : Nat) (Option.some (Jvm.ClassFile.FieldType.object "java/util/Optional"))).before args0 about1 = true := code_word (m := ⟨8, 0⟩) (meth := k8m0) (c := k8c0) (by decide +kernel) rfl rfl rfl (by decide +kernel)
set_option maxRecDepth 65536 in
theorem w_c5 : (Jvm.Cond.code ({ cls := "java/util/Optional", name := "isPresent", desc := "()Z" } : Jvm.MethodName) jdk_32_method_6_code (1 : Nat) (Option.some Jvm.ClassFile.FieldType.boolean)).before args0 about1 = true := code_word (m := ⟨8, 4⟩) (meth := k8m4) (c := k8c4) (by decide +kernel) rfl rfl rfl (by decide +kernel)
set_option maxRecDepth 65536 in
theorem w_c6 : (Jvm.Cond.code ({ cls := "java/util/Optional", name := "of", desc := "(Ljava/lang/Object;)Ljava/util/Optional;" } : Jvm.MethodName) jdk_32_method_3_code (1 : Nat) (Option.some (Jvm.ClassFile.FieldType.object "java/util/Optional"))).before args0 about1 = true := code_word (m := ⟨8, 2⟩) (meth := k8m2) (c := k8c2) (by decide +kernel) rfl rfl rfl (by decide +kernel)
set_option maxRecDepth 65536 in
theorem w_c7 : (Jvm.Cond.code ({ cls := "java/util/Objects", name := "requireNonNull", desc := "(Ljava/lang/Object;)Ljava/lang/Object;" } : Jvm.MethodName) jdk_31_method_10_code (1 : Nat) (Option.some (Jvm.ClassFile.FieldType.object "java/lang/Object"))).before args0 about1 = true := code_word (m := ⟨9, 1⟩) (meth := k9m1) (c := k9c1) (by decide +kernel) rfl rfl rfl (by decide +kernel)
set_option maxRecDepth 65536 in
theorem w_c8 : (Jvm.Cond.code ({ cls := "java/util/Optional", name := "<init>", desc := "(Ljava/lang/Object;)V" } : Jvm.MethodName) jdk_32_method_2_code (2 : Nat) (Option.none : Option Jvm.ClassFile.FieldType)).before args0 about1 = true := code_word (m := ⟨8, 1⟩) (meth := k8m1) (c := k8c1) (by decide +kernel) rfl rfl rfl (by decide +kernel)
set_option maxRecDepth 65536 in
theorem w_c9 : (Jvm.Cond.code ({ cls := "java/lang/Object", name := "<init>", desc := "()V" } : Jvm.MethodName) object_method_1_code (1 : Nat) (Option.none : Option Jvm.ClassFile.FieldType)).before args0 about1 = true := code_word (m := ⟨0, 0⟩) (meth := k0m0) (c := k0c0) (by decide +kernel) rfl rfl rfl (by decide +kernel)
set_option maxRecDepth 65536 in
theorem w_c10 : (Jvm.Cond.code ({ cls := "java/util/Optional", name := "get", desc := "()Ljava/lang/Object;" } : Jvm.MethodName) jdk_32_method_5_code (1 : Nat) (Option.some (Jvm.ClassFile.FieldType.object "java/lang/Object"))).before args0 about1 = true := code_word (m := ⟨8, 3⟩) (meth := k8m3) (c := k8c3) (by decide +kernel) rfl rfl rfl (by decide +kernel)
def codes1 : List Jvm.Cond := [Jvm.Cond.code x code maxLocals ret, Jvm.Cond.code ({ cls := "com/example/verity/verity/SignatureAlgorithmByIdPinLaw", name := "expected", desc := "(I)Lcom/example/verity/verity/SignatureAlgorithm;" } : Jvm.MethodName) method_3_code (1 : Nat) (Option.some (Jvm.ClassFile.FieldType.object "com/example/verity/verity/SignatureAlgorithm")), Jvm.Cond.code ({ cls := "com/example/verity/verity/SignatureAlgorithm", name := "byId", desc := "(I)Ljava/util/Optional;" } : Jvm.MethodName) prog_33_method_4_code (5 : Nat) (Option.some (Jvm.ClassFile.FieldType.object "java/util/Optional")), Jvm.Cond.code ({ cls := "com/example/verity/verity/SignatureAlgorithm", name := "values", desc := "()[Lcom/example/verity/verity/SignatureAlgorithm;" } : Jvm.MethodName) prog_33_method_1_code (0 : Nat) (Option.some (Jvm.ClassFile.FieldType.array (Jvm.ClassFile.FieldType.object "com/example/verity/verity/SignatureAlgorithm"))), Jvm.Cond.code ({ cls := "java/util/Optional", name := "empty", desc := "()Ljava/util/Optional;" } : Jvm.MethodName) jdk_32_method_1_code (1 : Nat) (Option.some (Jvm.ClassFile.FieldType.object "java/util/Optional")), Jvm.Cond.code ({ cls := "java/util/Optional", name := "isPresent", desc := "()Z" } : Jvm.MethodName) jdk_32_method_6_code (1 : Nat) (Option.some Jvm.ClassFile.FieldType.boolean), Jvm.Cond.code ({ cls := "java/util/Optional", name := "of", desc := "(Ljava/lang/Object;)Ljava/util/Optional;" } : Jvm.MethodName) jdk_32_method_3_code (1 : Nat) (Option.some (Jvm.ClassFile.FieldType.object "java/util/Optional")), Jvm.Cond.code ({ cls := "java/util/Objects", name := "requireNonNull", desc := "(Ljava/lang/Object;)Ljava/lang/Object;" } : Jvm.MethodName) jdk_31_method_10_code (1 : Nat) (Option.some (Jvm.ClassFile.FieldType.object "java/lang/Object")), Jvm.Cond.code ({ cls := "java/util/Optional", name := "<init>", desc := "(Ljava/lang/Object;)V" } : Jvm.MethodName) jdk_32_method_2_code (2 : Nat) (Option.none : Option Jvm.ClassFile.FieldType), Jvm.Cond.code ({ cls := "java/lang/Object", name := "<init>", desc := "()V" } : Jvm.MethodName) object_method_1_code (1 : Nat) (Option.none : Option Jvm.ClassFile.FieldType), Jvm.Cond.code ({ cls := "java/util/Optional", name := "get", desc := "()Ljava/lang/Object;" } : Jvm.MethodName) jdk_32_method_5_code (1 : Nat) (Option.some (Jvm.ClassFile.FieldType.object "java/lang/Object"))]
set_option maxRecDepth 65536 in
theorem codes_eq : words1.filter isCode = codes1 := rfl
theorem w_codes : ∀ c ∈ words1.filter isCode, c.before args0 about1 = true := by
  rw [codes_eq]
  intro c hc
  simp only [codes1, List.mem_cons, List.not_mem_nil, or_false] at hc
  rcases hc with rfl | rfl | rfl | rfl | rfl | rfl | rfl | rfl | rfl | rfl | rfl
  · exact w_c0
  · exact w_c1
  · exact w_c2
  · exact w_c3
  · exact w_c4
  · exact w_c5
  · exact w_c6
  · exact w_c7
  · exact w_c8
  · exact w_c9
  · exact w_c10
set_option maxRecDepth 65536 in
theorem w_t1 : (words1.take 24).all (fun c => isCode c || c.before args0 about1) = true := by decide +kernel
set_option maxRecDepth 65536 in
theorem w_t2 : ((words1.drop 24).take 24).all (fun c => isCode c || c.before args0 about1) = true := by decide +kernel
set_option maxRecDepth 65536 in
theorem w_t3 : (((words1.drop 24).drop 24).take 24).all (fun c => isCode c || c.before args0 about1) = true := by decide +kernel
set_option maxRecDepth 65536 in
theorem w_t4 : (((words1.drop 24).drop 24).drop 24).all (fun c => isCode c || c.before args0 about1) = true := by decide +kernel
theorem w_tables : (allAtoms (Jvm.Cond.code x code maxLocals ret :: tables_1)).before args0 about1 = true := by
  rw [allAtoms_all]
  show words1.all (fun c => c.before args0 about1) = true
  refine all_split ?_ w_codes
  rw [← List.take_append_drop 24 words1, List.all_append, w_t1, ← List.take_append_drop 24 (words1.drop 24), List.all_append, w_t2, ← List.take_append_drop 24 ((words1.drop 24).drop 24), List.all_append, w_t3, w_t4]
  rfl
set_option maxRecDepth 65536 in
theorem w_rest : rest_1_c.before args0 about1 = true := by decide +kernel
set_option maxRecDepth 65536 in
theorem w_case : (Jvm.Cond.and given_1 narrow_1).before args0 about1 = true := by decide +kernel
theorem w_applies : (headSpec (Jvm.Cond.code x code maxLocals ret :: tables_1) room_1).applies x e0.platform about1 = true :=
  (Spec.applies_iff w_frames).mpr ⟨w_running, w_runnable, w_alone, w_named, w_hears, w_ripe, w_room, w_tables⟩
theorem atStart : AtStart classFile x code maxLocals ret World_1 tables_1 room_1 Calls_1 rest_1 Pre_1 launch0 p0 e0 about1 theMethod args0 below0 :=
  ⟨lists_1, trivial, launch0.admits_env _ _ _, launch0.least_env, fairChoices_fair.cas, fairChoices_fair.clock, w_frames, w_args, w_heap, w_applies, trivial, w_rest, w_case⟩
end start1
theorem witness_1 : WitnessClaimed_1 := ⟨start1.p0, start1.e0, start1.about1, start1.theMethod, start1.args0, start1.below0, start1.atStart⟩
end Jvm.Pilot.@@N@@
