import JvmDerived
import JvmDerived.Pilot.@@N@@Statement
import JvmDerived.Pilot.@@N@@Code
set_option linter.unusedVariables false
set_option linter.unusedSimpArgs false
@@BLOCK:NumsL.lean.txt@@
namespace Jvm.Pilot.@@N@@
open Jvm Jvm.ClassFile Sem Op Lib Jvm.Free Jvm.Stand Jvm.LawKit Jvm.RoadKit Bundle Jvm.Pilot.@@N@@.Jvm.D
/-! GoKit: a walk told forwards. Go: from this frame on the method comes to its end as Q says; Does: what a call of a method does (over the library's MetFree). -/
section GoKit
variable {p : Program} {l : Launch} {e : Env} {R : Room} {s : State} {m : MethodId} {args : Array Value} {below : List Frame} {meth : Method} {c : Code} {T T' : State} {locs : List Loc} {cells slots : Nat} {Z : State} {a0 : Array Value} {h : Heap} {g g' : JFrame} {Q : Outcome → State → Prop}
def Go (p : Program) (e : Env) (below : List Frame) (Q : Outcome → State → Prop) (T : State) (g : JFrame) : Prop :=
  ∃ s₂ o, Steps p.tables e below (T.setTop g) s₂ ∧ s₂.status = .running ∧ Ended s₂ below o ∧ Q o s₂
theorem Go.st (k : ∀ target, Steps p.tables e below (T'.setTop g') target → Steps p.tables e below (T.setTop g) target) (H : Go p e below Q T' g') : Go p e below Q T g := by
  obtain ⟨s₂, o, h1, r⟩ := H; exact ⟨s₂, o, k _ h1, r⟩
theorem Go.eq (q : g = g') (H : Go p e below Q T g') : Go p e below Q T g := q ▸ H
def Ends (s : State) (k n : Nat) (P : Option Value → Heap → List Loc → Prop) : Outcome → State → Prop :=
  fun o U' => ∃ v L, o = .returned v ∧ P v U'.heap L ∧ FrameEnd s o U' L k n
theorem Go.ret (X : Stand p l e R s m args below meth c T locs cells slots) (hx : p.tables.exec = Jvm.exec) (hlk : meth.locks = false) {pc : Nat} {Ls : Array Slot} {w : Value} {t : FieldType} {i : Instr} {rest : List Value} {P : Option Value → Heap → List Loc → Prop} {k n : Nat}
    (hret : meth.sig.returnType = some t) (hn : narrow t w = w)
    (hi : (i = .ireturn ∧ (t = .int ∨ t = .boolean ∨ t = .byte ∨ t = .char ∨ t = .short) ∧ ∃ z, w = .int z) ∨ (i = .lreturn ∧ t = .long ∧ ∃ z, w = .long z) ∨ (i = .dreturn ∧ t = .double ∧ ∃ z, w = .double z) ∨ (i = .freturn ∧ t = .float ∧ ∃ z, w = .float z) ∨ (i = .areturn ∧ t.isReference = true ∧ w.isRef = true))
    (hd : decode c.code pc = .ok (i, 1)) (hk : cells ≤ k) (hs : slots ≤ n) (hP : P (some w) T.heap locs) : Go p e below (Ends s k n P) T (mkF m pc Ls (w :: rest)) := by
  obtain ⟨fs, hr, hrun, hended, hW, hsame⟩ := X.leave (v := some w) (fun h => by rw [hret] at h; cases h) hlk
  exact ⟨_, _, retOut X hx hret hn hi hd hr, hrun, hended, _, _, rfl, hP, ⟨_, rfl⟩, hW, hsame.mono hk hs⟩
theorem Go.retV (X : Stand p l e R s m args below meth c T locs cells slots) (hx : p.tables.exec = Jvm.exec) (hlk : meth.locks = false) {pc : Nat} {Ls : Array Slot} {P : Option Value → Heap → List Loc → Prop} {k n : Nat}
    (hret : meth.sig.returnType = none) (hd : decode c.code pc = .ok (.return_, 1)) (hk : cells ≤ k) (hs : slots ≤ n) (hP : P none T.heap locs) : Go p e below (Ends s k n P) T (mkF m pc Ls []) := by
  obtain ⟨fs, hr, hrun, hended, hW, hsame⟩ := X.leave (v := none) (fun _ => rfl) hlk
  exact ⟨_, _, X.returnOut hx hret hd hr, hrun, hended, _, _, rfl, hP, ⟨_, rfl⟩, hW, hsame.mono hk hs⟩
theorem Go.retZ (X : Stand p l e R s m args below meth c T locs cells slots) (hx : p.tables.exec = Jvm.exec) (hlk : meth.locks = false) {pc : Nat} {Ls : Array Slot} {z : Int32} {rest : List Value} {P : Option Value → Heap → List Loc → Prop} {k n : Nat}
    (hret : meth.sig.returnType = some .boolean) (hn : narrow .boolean (.int z) = .int z) (hd : decode c.code pc = .ok (.ireturn, 1)) (hk : cells ≤ k) (hs : slots ≤ n) (hP : P (some (.int z)) T.heap locs) : Go p e below (Ends s k n P) T (mkF m pc Ls (.int z :: rest)) :=
  Go.ret X hx hlk hret hn (Or.inl ⟨rfl, Or.inr (Or.inl rfl), z, rfl⟩) hd hk hs hP
theorem Go.retC (X : Stand p l e R s m args below meth c T locs cells slots) (hx : p.tables.exec = Jvm.exec) (hlk : meth.locks = false) {pc : Nat} {Ls : Array Slot} {z : Int32} {rest : List Value} {P : Option Value → Heap → List Loc → Prop} {k n : Nat}
    (hret : meth.sig.returnType = some .char) (hn : narrow .char (.int z) = .int z) (hd : decode c.code pc = .ok (.ireturn, 1)) (hk : cells ≤ k) (hs : slots ≤ n) (hP : P (some (.int z)) T.heap locs) : Go p e below (Ends s k n P) T (mkF m pc Ls (.int z :: rest)) :=
  Go.ret X hx hlk hret hn (Or.inl ⟨rfl, Or.inr (Or.inr (Or.inr (Or.inl rfl))), z, rfl⟩) hd hk hs hP
theorem Go.retI (X : Stand p l e R s m args below meth c T locs cells slots) (hx : p.tables.exec = Jvm.exec) (hlk : meth.locks = false) {pc : Nat} {Ls : Array Slot} {z : Int32} {rest : List Value} {P : Option Value → Heap → List Loc → Prop} {k n : Nat}
    (hret : meth.sig.returnType = some .int) (hd : decode c.code pc = .ok (.ireturn, 1)) (hk : cells ≤ k) (hs : slots ≤ n) (hP : P (some (.int z)) T.heap locs) : Go p e below (Ends s k n P) T (mkF m pc Ls (.int z :: rest)) :=
  Go.ret X hx hlk hret rfl (Or.inl ⟨rfl, Or.inl rfl, z, rfl⟩) hd hk hs hP
theorem Go.retJ (X : Stand p l e R s m args below meth c T locs cells slots) (hx : p.tables.exec = Jvm.exec) (hlk : meth.locks = false) {pc : Nat} {Ls : Array Slot} {z : Int64} {rest : List Value} {P : Option Value → Heap → List Loc → Prop} {k n : Nat}
    (hret : meth.sig.returnType = some .long) (hd : decode c.code pc = .ok (.lreturn, 1)) (hk : cells ≤ k) (hs : slots ≤ n) (hP : P (some (.long z)) T.heap locs) : Go p e below (Ends s k n P) T (mkF m pc Ls (.long z :: rest)) :=
  Go.ret X hx hlk hret rfl (Or.inr (Or.inl ⟨rfl, rfl, z, rfl⟩)) hd hk hs hP
theorem Go.retA (X : Stand p l e R s m args below meth c T locs cells slots) (hx : p.tables.exec = Jvm.exec) (hlk : meth.locks = false) {pc : Nat} {Ls : Array Slot} {w : Value} {t : FieldType} {rest : List Value} {P : Option Value → Heap → List Loc → Prop} {k n : Nat}
    (hret : meth.sig.returnType = some t) (ht : t.isReference = true) (hw : w.isRef = true) (hn : narrow t w = w) (hd : decode c.code pc = .ok (.areturn, 1)) (hk : cells ≤ k) (hs : slots ≤ n) (hP : P (some w) T.heap locs) : Go p e below (Ends s k n P) T (mkF m pc Ls (w :: rest)) :=
  Go.ret X hx hlk hret hn (Or.inr (Or.inr (Or.inr (Or.inr ⟨rfl, ht, hw⟩)))) hd hk hs hP
/-- what a call does: the arguments, the heap before, and P: what it returns, the heap behind, the places written -/
def Does (l : Launch) (Z : State) (y : MethodName) (bytes : ByteArray) (maxL : Nat) (ret : Option FieldType) (ws : List Jvm.Cond) (rm : Room) (as' : Array Value) (h : Heap) (P : Option Value → Heap → List Loc → Prop) : Prop :=
  MetFree l y (head1 (Jvm.Cond.code y bytes maxL ret :: ws) rm) (fun a U => a = as' ∧ Z.Warmed39 U.vm ∧ U.heap = h) (fun _ _ _ _ _ => True) (fun _ U o U' => ∃ v L, o = .returned v ∧ P v U'.heap L ∧ FrameEnd U o U' L rm.cells rm.slots)
theorem Does.intro {y : MethodName} {bytes : ByteArray} {maxL : Nat} {ret : Option FieldType} {ws : List Jvm.Cond} {rm : Room} {as' : Array Value} {P : Option Value → Heap → List Loc → Prop} {Ls : Array Slot} (hpn : plainFor y = true) (hef : ∀ m, entryFrame m as' maxL = mkF m 0 Ls [])
    (body : ∀ (p : Program) (e : Env) (s : State) (m : MethodId) (below : List Frame) (meth : Method) (c : Code) (s₁ : State), p.tables.exec = Jvm.exec → c.code = bytes → c.maxLocals = maxL → s.vm.findClass y.cls = some m.cls → meth.name = y.name → meth.sig.returnType = ret → meth.locks = false →
      Z.Warmed39 s.vm → s₁.heap = h → Stand p l e rm s m as' below meth c s₁ [] 0 0 → Go p e below (Ends s rm.cells rm.slots P) s₁ (mkF m 0 Ls [])) : Does l Z y bytes maxL ret ws rm as' h P := by
  refine MetFree.of_bodySF hpn hisR ?_
  intro p e s m args below meth c s₁ Bd hml0 hP hK
  obtain ⟨rfl, hZ, hh⟩ := hP
  have := body p e s m below meth c s₁ Bd.exec Bd.bytes hml0 (findClass_of_methodNamed Bd.named) (name_of_methodNamed Bd.named Bd.method).1 Bd.returns Bd.notSynchronized hZ (by rw [← hh, Bd.state]; rfl) (Stand.of_body Bd)
  obtain ⟨s₂, o, h1, h2, h3, h4⟩ := this
  exact ⟨s₂, o, castTop (hef m) h1, h2, h3, h4⟩
theorem Does.mono {y : MethodName} {bytes : ByteArray} {maxL : Nat} {ret : Option FieldType} {ws : List Jvm.Cond} {rm : Room} {as' : Array Value} {P P' : Option Value → Heap → List Loc → Prop} (D : Does l Z y bytes maxL ret ws rm as' h P) (q : ∀ v h' L, P v h' L → P' v h' L) : Does l Z y bytes maxL ret ws rm as' h P' := by
  intro p e ha hc hk s m args below hf happ hP hK
  obtain ⟨n, o, h1, h2, h3, v, L, h4, h5, h6⟩ := D p e ha hc hk s m args below hf happ hP hK
  exact ⟨n, o, h1, h2, h3, v, L, h4, q _ _ _ h5, h6⟩
theorem Does.static {y : MethodName} {bytes : ByteArray} {maxL : Nat} {ret : Option FieldType} {rm : Room} {P : Option Value → Heap → List Loc → Prop} {own : String} {index : Nat} {argsL rest : List Value} (D : Does l Z y bytes maxL ret [] rm argsL.toArray h P)
    (X : Stand p l e R s m args below meth c T locs cells slots) (hx : p.tables.exec = Jvm.exec) (hZ : Z.Warmed39 s.vm) (hown : s.vm.findClass own = some m.cls) (eT : T.heap = h) (w1 : (Cond.methodLink own index y).before a0 Z = true) (w2 : (Cond.static y).before a0 Z = true) (w3 : (Cond.initialized y.cls).before a0 Z = true) (w4 : (Cond.code y bytes maxL ret).before a0 Z = true)
    (hy : y.cls ≠ "java/lang/invoke/MethodHandle" ∧ y.cls ≠ "java/lang/invoke/VarHandle") (hg : g.method = m) (hsize : g.locals.size = c.maxLocals) (hlen : ∀ sig, parseMethodDescriptor y.desc = some sig → argsL.length = sig.parameters.length)
    (hstack : g.stack = argsL.reverse ++ rest) (hd : decode c.code g.pc = .ok (.invokestatic index, 3)) {W : Nat} (hW : 2 * g.monitorRoom + (rest.map fun v => v.category).sum ≤ W) (hf : rm.frames + 1 ≤ R.frames) (hl : W + (maxL + 11) + rm.locals ≤ R.locals) (hc : cells + rm.cells ≤ R.cells) (hs : slots + rm.slots ≤ R.slots) :
    ∃ v T' L, Stand p l e R s m args below meth c T' (locs ++ L) (cells + rm.cells) (slots + rm.slots) ∧ P v T'.heap L ∧ ∀ target, Steps p.tables e below (T'.setTop { g with pc := g.pc + 3, stack := v.toList ++ rest }) target → Steps p.tables e below (T.setTop g) target := by
  obtain ⟨v, vm₁, ⟨T', L', k', n'⟩, -, X', ⟨L, hQ, q1, q2, q3⟩, st⟩ := Jvm.LawKit.callS X hx (y := y) hown (mvT hZ w1) (mvT hZ w2) (mvT hZ w3) (mvT hZ w4) hy (backOf (W := W) D hZ w4 w3 hf hl) hg hsize (argsL := argsL) (rest := rest) hlen hstack hW hd (fun _ _ => ⟨rfl, eT, hc, hs⟩)
  dsimp only [Pt.U, Pt.locs, Pt.cells, Pt.slots] at X' q1 q2 q3 st hQ
  subst q1 q2 q3
  exact ⟨v, T', L, X', hQ, st⟩
theorem Does.special {y : MethodName} {bytes : ByteArray} {maxL : Nat} {rm : Room} {P : Option Value → Heap → List Loc → Prop} {own : String} {index : Nat} {a : Addr} {argsL rest : List Value} (D : Does l Z y bytes maxL none [] rm (.ref a :: argsL).toArray h P)
    (X : Stand p l e R s m args below meth c T locs cells slots) (hx : p.tables.exec = Jvm.exec) (hZ : Z.Warmed39 s.vm) (hown : s.vm.findClass own = some m.cls) (eT : T.heap = h) (hnm : y.name = "<init>") (w1 : (Cond.methodLink own index y).before a0 Z = true) (w2 : (Cond.instanceMethod y).before a0 Z = true) (w3 : (Cond.initialized y.cls).before a0 Z = true) (w4 : (Cond.code y bytes maxL none).before a0 Z = true)
    (hy : y.cls ≠ "java/lang/invoke/MethodHandle" ∧ y.cls ≠ "java/lang/invoke/VarHandle") (hg : g.method = m) (hsize : g.locals.size = c.maxLocals) (hlen : ∀ sig, parseMethodDescriptor y.desc = some sig → argsL.length = sig.parameters.length)
    (hstack : g.stack = argsL.reverse ++ .ref a :: rest) (hd : decode c.code g.pc = .ok (.invokespecial index, 3)) {W : Nat} (hW : 2 * g.monitorRoom + (rest.map fun v => v.category).sum ≤ W) (hf : rm.frames + 1 ≤ R.frames) (hl : W + (maxL + 11) + rm.locals ≤ R.locals) (hc : cells + rm.cells ≤ R.cells) (hs : slots + rm.slots ≤ R.slots) :
    ∃ v T' L, Stand p l e R s m args below meth c T' (locs ++ L) (cells + rm.cells) (slots + rm.slots) ∧ P v T'.heap L ∧ ∀ target, Steps p.tables e below (T'.setTop { g with pc := g.pc + 3, stack := v.toList ++ rest }) target → Steps p.tables e below (T.setTop g) target := by
  obtain ⟨v, vm₁, ⟨T', L', k', n'⟩, -, X', ⟨L, hQ, q1, q2, q3⟩, st⟩ := X.specialBack hx (y := y) hnm hown (mvT hZ w1) (mvT hZ w2) (mvT hZ w4) hy (backOf (W := W) D hZ w4 w3 hf hl) hg hsize (Steps.refl _) (a := a) (argsL := argsL) (rest := rest) hlen hstack hW hd (fun _ _ => ⟨rfl, eT, hc, hs⟩)
  dsimp only [Pt.U, Pt.locs, Pt.cells, Pt.slots] at X' q1 q2 q3 st hQ
  subst q1 q2 q3
  exact ⟨v, T', L, X', hQ, fun _ k => st.trans k⟩
theorem Does.virtual {y : MethodName} {bytes : ByteArray} {maxL : Nat} {ret : Option FieldType} {rm : Room} {P : Option Value → Heap → List Loc → Prop} {own C : String} {index : Nat} {a : Addr} {argsL rest : List Value} (D : Does l Z y bytes maxL ret [] rm (.ref a :: argsL).toArray h P)
    (X : Stand p l e R s m args below meth c T locs cells slots) (hx : p.tables.exec = Jvm.exec) (hZ : Z.Warmed39 s.vm) (hown : s.vm.findClass own = some m.cls) (eT : T.heap = h) (E : Exa Z h a C) (w1 : (Cond.methodLink own index y).before a0 Z = true) (w2 : (Cond.declares y).before a0 Z = true) (w2' : (Cond.selects C y y).before a0 Z = true) (w2'' : (Cond.instanceMethod y).before a0 Z = true) (w3 : (Cond.initialized y.cls).before a0 Z = true) (w4 : (Cond.code y bytes maxL ret).before a0 Z = true)
    (hy : y.cls ≠ "java/lang/invoke/MethodHandle" ∧ y.cls ≠ "java/lang/invoke/VarHandle") (hg : g.method = m) (hsize : g.locals.size = c.maxLocals) (hlen : ∀ sig, parseMethodDescriptor y.desc = some sig → argsL.length = sig.parameters.length)
    (hstack : g.stack = argsL.reverse ++ .ref a :: rest) (hd : decode c.code g.pc = .ok (.invokevirtual index, 3)) {W : Nat} (hW : 2 * g.monitorRoom + (rest.map fun v => v.category).sum ≤ W) (hf : rm.frames + 1 ≤ R.frames) (hl : W + (maxL + 11) + rm.locals ≤ R.locals) (hc : cells + rm.cells ≤ R.cells) (hs : slots + rm.slots ≤ R.slots) :
    ∃ v T' L, Stand p l e R s m args below meth c T' (locs ++ L) (cells + rm.cells) (slots + rm.slots) ∧ P v T'.heap L ∧ ∀ target, Steps p.tables e below (T'.setTop { g with pc := g.pc + 3, stack := v.toList ++ rest }) target → Steps p.tables e below (T.setTop g) target := by
  obtain ⟨cB, kB, q1, -, q3⟩ := isOf hZ eT E
  obtain ⟨v, vm₁, ⟨T', L', k', n'⟩, -, X', ⟨L, hQ, q1, q2, q3⟩, st⟩ := X.virtualBack hx (y := y) (z := y) hown (mvT hZ w1) (mvT hZ w2) (notFace_of_selects (args := #[]) (mvT hZ w2')) (mvT hZ w2') (mvT hZ w2'') hy (backOf (W := W) D hZ w4 w3 hf hl) q1 q3 hg hsize (Steps.refl _) (argsL := argsL) (rest := rest) hlen hstack hW hd (fun _ _ => ⟨rfl, eT, hc, hs⟩)
  dsimp only [Pt.U, Pt.locs, Pt.cells, Pt.slots] at X' q1 q2 q3 st hQ
  subst q1 q2 q3
  exact ⟨v, T', L, X', hQ, fun _ k => st.trans k⟩
theorem Does.virtualUp {x' z : MethodName} {owner : String} {bytes : ByteArray} {maxL : Nat} {ret : Option FieldType} {rm : Room} {P : Option Value → Heap → List Loc → Prop} {own C : String} {index : Nat} {a : Addr} {argsL rest : List Value} (D : Does l Z z bytes maxL ret [] rm (.ref a :: argsL).toArray h P)
    (X : Stand p l e R s m args below meth c T locs cells slots) (hx : p.tables.exec = Jvm.exec) (hZ : Z.Warmed39 s.vm) (hown : s.vm.findClass own = some m.cls) (eT : T.heap = h) (E : Exa Z h a C) (w1 : (Cond.methodLink own index x').before a0 Z = true) (w1' : (Cond.sameMethod x'.cls owner x'.name x'.desc).before a0 Z = true) (w2 : (Cond.declares ⟨owner, x'.name, x'.desc⟩).before a0 Z = true) (w2' : (Cond.selects C x' z).before a0 Z = true) (w2'' : (Cond.instanceMethod z).before a0 Z = true) (w3 : (Cond.initialized z.cls).before a0 Z = true) (w4 : (Cond.code z bytes maxL ret).before a0 Z = true)
    (hy : owner ≠ "java/lang/invoke/MethodHandle" ∧ owner ≠ "java/lang/invoke/VarHandle") (hg : g.method = m) (hsize : g.locals.size = c.maxLocals) (hlen : ∀ sig, parseMethodDescriptor x'.desc = some sig → argsL.length = sig.parameters.length)
    (hstack : g.stack = argsL.reverse ++ .ref a :: rest) (hd : decode c.code g.pc = .ok (.invokevirtual index, 3)) {W : Nat} (hW : 2 * g.monitorRoom + (rest.map fun v => v.category).sum ≤ W) (hf : rm.frames + 1 ≤ R.frames) (hl : W + (maxL + 11) + rm.locals ≤ R.locals) (hc : cells + rm.cells ≤ R.cells) (hs : slots + rm.slots ≤ R.slots) :
    ∃ v T' L, Stand p l e R s m args below meth c T' (locs ++ L) (cells + rm.cells) (slots + rm.slots) ∧ P v T'.heap L ∧ ∀ target, Steps p.tables e below (T'.setTop { g with pc := g.pc + 3, stack := v.toList ++ rest }) target → Steps p.tables e below (T.setTop g) target := by
  obtain ⟨cB, kB, q1, -, q3⟩ := isOf hZ eT E
  obtain ⟨v, vm₁, ⟨T', L', k', n'⟩, -, X', ⟨L, hQ, q1, q2, q3⟩, st⟩ := X.virtualBackUp hx (x := x') (y := z) hown (mvT hZ w1) (mvT hZ w1') (mvT hZ w2) hy (mvT hZ w2') (mvT hZ w2'') (backOf (W := W) D hZ w4 w3 hf hl) q1 q3 hg hsize (Steps.refl _) (argsL := argsL) (rest := rest) hlen hstack hW hd (fun _ _ => ⟨rfl, eT, hc, hs⟩)
  dsimp only [Pt.U, Pt.locs, Pt.cells, Pt.slots] at X' q1 q2 q3 st hQ
  subst q1 q2 q3
  exact ⟨v, T', L, X', hQ, fun _ k => st.trans k⟩
/-- a call that leaves the heap as it was and returns w -/
abbrev Val (w : Option Value) (h : Heap) : Option Value → Heap → List Loc → Prop := fun v h' L => v = w ∧ L = [] ∧ h' = h
theorem own_still {w : Option Value} {rm : Room} {rest : List Value} (hc : rm.cells = 0) (hs : rm.slots = 0)
    (H : ∃ v T' L, Stand p l e R s m args below meth c T' (locs ++ L) (cells + rm.cells) (slots + rm.slots) ∧ Val w h v T'.heap L ∧ ∀ target, Steps p.tables e below (T'.setTop { g with pc := g.pc + 3, stack := v.toList ++ rest }) target → Steps p.tables e below (T.setTop g) target) :
    ∃ T', Stand p l e R s m args below meth c T' locs cells slots ∧ T'.heap = h ∧ ∀ target, Steps p.tables e below (T'.setTop { g with pc := g.pc + 3, stack := w.toList ++ rest }) target → Steps p.tables e below (T.setTop g) target := by
  obtain ⟨v, T', L, X', ⟨rfl, rfl, e'⟩, st⟩ := H
  rw [hc, hs, List.append_nil] at X'
  exact ⟨T', X', e', st⟩
theorem own_Llt {x y : Int64} (h : x < y) : XT.cmpL x y < 0 := (lw_lt x y).mpr h
theorem own_Lnlt {x y : Int64} (h : ¬ x < y) : ¬ XT.cmpL x y < 0 := fun q => h ((lw_lt x y).mp q)
theorem own_Lgt {x y : Int64} (h : y < x) : 0 < XT.cmpL x y := (lw_gt x y).mpr h
theorem own_Lngt {x y : Int64} (h : ¬ y < x) : ¬ 0 < XT.cmpL x y := fun q => h ((lw_gt x y).mp q)
theorem own_Leq {x y : Int64} (h : x = y) : XT.cmpL x y = 0 := (lw_eq x y).mpr h
theorem own_Lneq {x y : Int64} (h : ¬ x = y) : ¬ XT.cmpL x y = 0 := fun q => h ((lw_eq x y).mp q)
theorem own_aeq {a b : Addr} (h : a = b) : XT.acmp .eq (.ref a) (.ref b) = true ∧ XT.acmp .ne (.ref a) (.ref b) = false := by subst h; exact ⟨decide_eq_true rfl, decide_eq_false (fun q => q rfl)⟩
theorem own_ane {a b : Addr} (h : ¬ a = b) : XT.acmp .eq (.ref a) (.ref b) = false ∧ XT.acmp .ne (.ref a) (.ref b) = true := ⟨decide_eq_false (fun q => h (by cases q; rfl)), decide_eq_true (fun q => h (by cases q; rfl))⟩
theorem own_lswHit (X : Stand p l e R s m args below meth c T locs cells slots) (hx : p.tables.exec = Jvm.exec) (hg : g.method = m) {k : Int32} {rest : List Value} (hs : g.stack = .int k :: rest) {dflt : Int} {pairs : Array (Int × Int)} {len : Nat} (hd : decode c.code g.pc = .ok (.lookupswitch dflt pairs, len))
    (hsorted : (pairs.toList.zip (pairs.toList.drop 1)).all (fun (a, next) => a.1 < next.1) = true) {a off : Int} (hfind : pairs.find? (·.1 == k.toInt) = some (a, off)) {pc0 pc' : Nat} (hpc : g.pc = pc0) (ho : 0 ≤ (pc0 : Int) + off) (hp : ((pc0 : Int) + off).toNat = pc') :
    ∀ target, Steps p.tables e below (T.setTop { g with pc := pc', stack := rest }) target → Steps p.tables e below (T.setTop g) target := by
  subst hpc hp
  exact fun t h => X.lookupswitchHit hx hg hs hd hsorted hfind ho t h
theorem own_ext {h0 h : Heap} (K : Keep h0 h []) : Ext h0 h := ⟨K.1, fun x c q => K.2.1 x c q nin0⟩
end GoKit
/-! ArrKit: arrays by Arv, one law a step -/
section ArrKit
variable {p : Program} {l : Launch} {e : Env} {R : Room} {s : State} {m : MethodId} {args : Array Value} {below : List Frame} {meth : Method} {c : Code} {T T' : State} {locs : List Loc} {cells slots : Nat} {Z : State} {a0 : Array Value} {h : Heap} {g g' : JFrame} {a : Addr} {k : ClassId} {z j : Int32} {vs : List Value} {dv : Value} {rest : List Value} {ty : FieldType}
theorem own_stI (X : Stand p l e R s m args below meth c T locs cells slots) (hx : p.tables.exec = Jvm.exec) (hZ : Z.Warmed39 s.vm) (eT : T.heap = h) (Vv : Arv Z h a k .int z vs dv) {x : Int32} (hj0 : ¬ j < 0) (hj1 : j < z) (i : Nat) (hi : j.toNatClampNeg = i) (hl : i < vs.length) (hg : g.method = m) (hs : g.stack = .int x :: .int j :: .ref a :: rest) (hd : decode c.code g.pc = .ok (.iastore, 1)) :
    ∃ T' h', Stand p l e R s m args below meth c T' (locs ++ [⟨a, j.toNatClampNeg⟩]) cells slots ∧ T'.heap = h' ∧ Wr h h' a j.toNatClampNeg (.int x) ∧ Arv Z h' a k .int z (vs.set i (.int x)) dv ∧ ∀ target, Steps p.tables e below (T'.setTop { g with pc := g.pc + 1, stack := rest }) target → Steps p.tables e below (T.setTop g) target := by
  obtain ⟨c', A, q1, S, q3, H, G⟩ := Vv
  obtain ⟨T', h', X', e', W, st⟩ := stI X hx hZ eT A (inb_of S ⟨hj0, hj1⟩) hg hs hd
  exact ⟨T', h', X', e', W, Arv.set A q1 S q3 H G rfl W i hi hl, st⟩
theorem own_stC (X : Stand p l e R s m args below meth c T locs cells slots) (hx : p.tables.exec = Jvm.exec) (hZ : Z.Warmed39 s.vm) (eT : T.heap = h) (Vv : Arv Z h a k .char z vs dv) {x : Int32} (hj0 : ¬ j < 0) (hj1 : j < z) (i : Nat) (hi : j.toNatClampNeg = i) (hl : i < vs.length) (hg : g.method = m) (hs : g.stack = .int x :: .int j :: .ref a :: rest) (hd : decode c.code g.pc = .ok (.castore, 1)) :
    ∃ T' h', Stand p l e R s m args below meth c T' (locs ++ [⟨a, j.toNatClampNeg⟩]) cells slots ∧ T'.heap = h' ∧ Wr h h' a j.toNatClampNeg (.int (nar .char x)) ∧ Arv Z h' a k .char z (vs.set i (.int (nar .char x))) dv ∧ ∀ target, Steps p.tables e below (T'.setTop { g with pc := g.pc + 1, stack := rest }) target → Steps p.tables e below (T.setTop g) target := by
  obtain ⟨c', A, q1, S, q3, H, G⟩ := Vv
  obtain ⟨T', h', X', e', W, st⟩ := stC X hx hZ eT A (inb_of S ⟨hj0, hj1⟩) hg hs hd
  exact ⟨T', h', X', e', W, Arv.set A q1 S q3 H G (fits_nar_char x) W i hi hl, st⟩
theorem own_stR (X : Stand p l e R s m args below meth c T locs cells slots) (hx : p.tables.exec = Jvm.exec) (hZ : Z.Warmed39 s.vm) (eT : T.heap = h) {C K : String} (Vv : Arv Z h a k (.object C) z vs dv) (O : Ovr Z k K) {y : Addr} (I : Ins Z h y K true) (hj0 : ¬ j < 0) (hj1 : j < z) (i : Nat) (hi : j.toNatClampNeg = i) (hl : i < vs.length) (hg : g.method = m) (hs : g.stack = .ref y :: .int j :: .ref a :: rest) (hd : decode c.code g.pc = .ok (.aastore, 1)) :
    ∃ T' h', Stand p l e R s m args below meth c T' (locs ++ [⟨a, j.toNatClampNeg⟩]) cells slots ∧ T'.heap = h' ∧ Wr h h' a j.toNatClampNeg (.ref y) ∧ Arv Z h' a k (.object C) z (vs.set i (.ref y)) dv ∧ ∀ target, Steps p.tables e below (T'.setTop { g with pc := g.pc + 1, stack := rest }) target → Steps p.tables e below (T.setTop g) target := by
  obtain ⟨c', A, q1, S, q3, H, G⟩ := Vv
  obtain ⟨T', h', X', e', W, st⟩ := stR X hx hZ eT A (inb_of S ⟨hj0, hj1⟩) rfl (Sto.ofV A q1 O I) hg hs hd
  exact ⟨T', h', X', e', W, Arv.set A q1 S q3 H G rfl W i hi hl, st⟩
theorem own_ldI (X : Stand p l e R s m args below meth c T locs cells slots) (hx : p.tables.exec = Jvm.exec) (hZ : Z.Warmed39 s.vm) (eT : T.heap = h) (Vv : Arv Z h a k .int z vs dv) {w : Int32} (hj0 : ¬ j < 0) (hj1 : j < z) (hv : vs.getD j.toNatClampNeg dv = .int w) (hg : g.method = m) (hs : g.stack = .int j :: .ref a :: rest) (hd : decode c.code g.pc = .ok (.iaload, 1)) :
    ∀ target, Steps p.tables e below (T.setTop { g with pc := g.pc + 1, stack := .int w :: rest }) target → Steps p.tables e below (T.setTop g) target := by
  obtain ⟨c', A, q1, S, q3, H, G⟩ := Vv
  have q := inb_of S ⟨hj0, hj1⟩
  exact fun t k => X.iaload hx (by rw [eT]; exact A.1) (State.isArrayOf_alike hZ.alike A.2.1) A.2.2 q (Has.at H q hv) hg hs hd t k
theorem own_ldC (X : Stand p l e R s m args below meth c T locs cells slots) (hx : p.tables.exec = Jvm.exec) (hZ : Z.Warmed39 s.vm) (eT : T.heap = h) (Vv : Arv Z h a k .char z vs dv) {w : Int32} (hj0 : ¬ j < 0) (hj1 : j < z) (hv : vs.getD j.toNatClampNeg dv = .int w) (hg : g.method = m) (hs : g.stack = .int j :: .ref a :: rest) (hd : decode c.code g.pc = .ok (.caload, 1)) :
    ∀ target, Steps p.tables e below (T.setTop { g with pc := g.pc + 1, stack := .int w :: rest }) target → Steps p.tables e below (T.setTop g) target := by
  obtain ⟨c', A, q1, S, q3, H, G⟩ := Vv
  have q := inb_of S ⟨hj0, hj1⟩
  exact fun t k => X.caload hx (by rw [eT]; exact A.1) (State.isArrayOf_alike hZ.alike A.2.1) A.2.2 q (Has.at H q hv) hg hs hd t k
theorem own_ldB (X : Stand p l e R s m args below meth c T locs cells slots) (hx : p.tables.exec = Jvm.exec) (hZ : Z.Warmed39 s.vm) (eT : T.heap = h) (Vv : Arv Z h a k .byte z vs dv) {w : Int32} (hj0 : ¬ j < 0) (hj1 : j < z) (hv : vs.getD j.toNatClampNeg dv = .int w) (hg : g.method = m) (hs : g.stack = .int j :: .ref a :: rest) (hd : decode c.code g.pc = .ok (.baload, 1)) :
    ∀ target, Steps p.tables e below (T.setTop { g with pc := g.pc + 1, stack := .int w :: rest }) target → Steps p.tables e below (T.setTop g) target := by
  obtain ⟨c', A, q1, S, q3, H, G⟩ := Vv
  have q := inb_of S ⟨hj0, hj1⟩
  exact fun t k => X.baloadBytes hx (by rw [eT]; exact A.1) (State.isArrayOf_alike hZ.alike A.2.1) A.2.2 q (Has.at H q hv) hg hs hd t k
theorem own_ldR (X : Stand p l e R s m args below meth c T locs cells slots) (hx : p.tables.exec = Jvm.exec) (hZ : Z.Warmed39 s.vm) (eT : T.heap = h) (Vv : Arv Z h a k ty z vs dv) (hty : ty.isReference = true) {w : Value} (hj0 : ¬ j < 0) (hj1 : j < z) (hv : vs.getD j.toNatClampNeg dv = w) (hg : g.method = m) (hs : g.stack = .int j :: .ref a :: rest) (hd : decode c.code g.pc = .ok (.aaload, 1)) :
    ∀ target, Steps p.tables e below (T.setTop { g with pc := g.pc + 1, stack := w :: rest }) target → Steps p.tables e below (T.setTop g) target := by
  obtain ⟨c', A, q1, S, q3, H, G⟩ := Vv
  have q := inb_of S ⟨hj0, hj1⟩
  exact fun t k => X.aaload hx (by rw [eT]; exact A.1) (State.isArrayOf_alike hZ.alike A.2.1) hty A.2.2 q (Has.at H q hv) hg hs hd t k
theorem own_len (X : Stand p l e R s m args below meth c T locs cells slots) (hx : p.tables.exec = Jvm.exec) (hZ : Z.Warmed39 s.vm) (eT : T.heap = h) (Vv : Arv Z h a k ty z vs dv) (hg : g.method = m) (hs : g.stack = .ref a :: rest) (hd : decode c.code g.pc = .ok (.arraylength, 1)) :
    ∀ target, Steps p.tables e below (T.setTop { g with pc := g.pc + 1, stack := .int z :: rest }) target → Steps p.tables e below (T.setTop g) target := by
  obtain ⟨c', A, q1, S, q3, H, G⟩ := Vv
  exact fun t k => X.arraylength hx (by rw [eT]; exact A.1) (State.isArrayOf_alike hZ.alike A.2.1) hg hs hd t (by rw [len_of S q3]; exact k)
end ArrKit
/-! PrivKit: a private method called by invokevirtual -/
section PrivKit
variable {p : Program} {l : Launch} {e : Env} {R : Room} {s : State} {m : MethodId} {args : Array Value} {below : List Frame} {meth : Method} {c : Code} {T T' : State} {locs : List Loc} {cells slots : Nat} {Z : State} {a0 : Array Value} {h : Heap} {g g' : JFrame}
theorem Does.priv {y : MethodName} {bytes : ByteArray} {maxL : Nat} {ret : Option FieldType} {rm : Room} {P : Option Value → Heap → List Loc → Prop} {own C : String} {index : Nat} {a : Addr} {argsL rest : List Value} (D : Does l Z y bytes maxL ret [] rm (.ref a :: argsL).toArray h P)
    (X : Stand p l e R s m args below meth c T locs cells slots) (hx : p.tables.exec = Jvm.exec) (hZ : Z.Warmed39 s.vm) (hown : s.vm.findClass own = some m.cls) (eT : T.heap = h) (E : Exa Z h a C) (w1 : (Cond.methodLink own index y).before a0 Z = true) (w2 : (Cond.instanceMethod y).before a0 Z = true) (w2' : (Cond.selects y.cls y y).before a0 Z = true) (w2'' : (Cond.privateMethod y).before a0 Z = true) (w3 : (Cond.initialized y.cls).before a0 Z = true) (w4 : (Cond.code y bytes maxL ret).before a0 Z = true)
    (hy : y.cls ≠ "java/lang/invoke/MethodHandle" ∧ y.cls ≠ "java/lang/invoke/VarHandle") (hg : g.method = m) (hsize : g.locals.size = c.maxLocals) (hlen : ∀ sig, parseMethodDescriptor y.desc = some sig → argsL.length = sig.parameters.length)
    (hstack : g.stack = argsL.reverse ++ .ref a :: rest) (hd : decode c.code g.pc = .ok (.invokevirtual index, 3)) {W : Nat} (hW : 2 * g.monitorRoom + (rest.map fun v => v.category).sum ≤ W) (hf : rm.frames + 1 ≤ R.frames) (hl : W + (maxL + 11) + rm.locals ≤ R.locals) (hc : cells + rm.cells ≤ R.cells) (hs : slots + rm.slots ≤ R.slots) :
    ∃ v T' L, Stand p l e R s m args below meth c T' (locs ++ L) (cells + rm.cells) (slots + rm.slots) ∧ P v T'.heap L ∧ ∀ target, Steps p.tables e below (T'.setTop { g with pc := g.pc + 3, stack := v.toList ++ rest }) target → Steps p.tables e below (T.setTop g) target := by
  obtain ⟨cl, hcl, hns⟩ := E.cell
  obtain ⟨v, vm₁, ⟨T', L', k', n'⟩, -, X', ⟨L, hQ, q1, q2, q3⟩, st⟩ := X.privateBack hx (y := y) hown (mvT hZ w1) (mvT hZ w2) (mvT hZ w2') (Cond.privateMethod_at (mvP hZ w2'' (args := #[]))) (mvT hZ w4) hy (backOf (W := W) D hZ w4 w3 hf hl) hg hsize (Steps.refl _) (by rw [eT]; exact hcl) hns (argsL := argsL) (rest := rest) hlen hstack hW hd (fun _ _ => ⟨rfl, eT, hc, hs⟩)
  dsimp only [Pt.U, Pt.locs, Pt.cells, Pt.slots] at X' q1 q2 q3 st hQ
  subst q1 q2 q3
  exact ⟨v, T', L, X', hQ, fun _ k => st.trans k⟩
theorem own_stk {h' : Heap} {C n d : String} {v : Value} {ws : List Addr} (S : Sta Z h C n d v) (K : Keep h h' ws) (ns : ∀ x ∈ ws, ∀ cell : Cell, h[x]? = some cell → cell.vm.isStatics = false) : Sta Z h' C n d v := by
  obtain ⟨cf, i, k, f, st, cell, h1, h2, h3, h4, h5, h6, h7⟩ := S
  exact ⟨cf, i, k, f, st, cell, h1, h2, h3, h4, K.2.1 _ _ h5 (fun q => by rw [ns _ q _ h5] at h6; cases h6), h6, h7⟩
theorem own_nsE {a : Addr} {C : String} (E : Exa Z h a C) : ∀ cell : Cell, h[a]? = some cell → cell.vm.isStatics = false := fun cell q => by
  obtain ⟨c', k, h1, -, -, h4, -⟩ := E
  cases h1.symm.trans q
  exact h4
end PrivKit
theorem own_sta {Z : State} {args : Array Value} {C f d K : String} (h : (Jvm.Cond.exactly (.static C f d) K).value args Z none Z [] = some true) (wi : (Jvm.Cond.initialized C).before args Z = true) (wl : (Jvm.Cond.laysStatic C f d).before args Z = true) :
    ∃ x, (Term.static C f d).eval args Z none [] Z = some (.ref x) ∧ Sta Z Z.heap C f d (.ref x) ∧ Exa Z Z.heap x K := by
  obtain ⟨x, ev⟩ := exa_v h
  exact ⟨x, ev, Sta.start ev (Or.inr ⟨wi, wl⟩), Exa.start ev h⟩
theorem own_fldI {Z : State} {args : Array Value} {t : Term} {O n d : String} {k : Int32} {x : Addr} (ev : t.eval args Z none [] Z = some (.ref x)) (h : (Jvm.Cond.eq (.field t O n d) (.int k)).value args Z none Z [] = some true) : Fld Z Z.heap x O n d (.int k) := by
  obtain ⟨u, v, e1, e2, k1, -⟩ := cmp_v (Or.inl h)
  have e3 : v = .int k := by simpa [Term.eval] using e2.symm
  subst e3
  obtain ⟨z, rfl⟩ : ∃ z, u = .int z := by cases u <;> simp [Kin, Value.isRef] at k1 ⊢
  have q : z = k := gotT (Cond.eq_ints e1 e2) h
  subst q
  exact Fld.start ((fld_at ev).symm.trans e1)
theorem own_cl10 {sz : Int32} (h0 : ¬ sz < 0) (h1 : sz < (10 : Int32)) : sz.toNatClampNeg < 10 := by
  rw [Int32.lt_iff_toInt_lt] at h0 h1
  have z0 : (0 : Int32).toInt = 0 := by decide
  have z1 : (10 : Int32).toInt = 10 := by decide
  rw [Int32.toNatClampNeg]; omega
theorem own_ne10 {sz : Int32} (h1 : sz < (10 : Int32)) : ¬ sz = (10 : Int32) := fun q => by subst q; exact absurd h1 (by decide)
theorem own_ldCell {p : Program} {l : Launch} {e : Env} {R : Room} {s : State} {m : MethodId} {args : Array Value} {below : List Frame} {meth : Method} {c : Code} {T : State} {locs : List Loc} {cells slots : Nat} {Z : State} {h : Heap} {g : JFrame} {a : Addr} {cl : Cell} {j : Int32} {rest : List Value} {ty : FieldType} {w : Value} (X : Stand p l e R s m args below meth c T locs cells slots) (hx : p.tables.exec = Jvm.exec) (hZ : Z.Warmed39 s.vm) (eT : T.heap = h) (A : Arr Z h a cl ty) (hty : ty.isReference = true) (q : ¬ (j < 0 ∨ cl.slots.size ≤ j.toNatClampNeg)) (hv : cl.slots[j.toNatClampNeg]? = some w) (hg : g.method = m) (hs : g.stack = .int j :: .ref a :: rest) (hd : decode c.code g.pc = .ok (.aaload, 1)) :
    ∀ target, Steps p.tables e below (T.setTop { g with pc := g.pc + 1, stack := w :: rest }) target → Steps p.tables e below (T.setTop g) target :=
  fun t k => X.aaload hx (by rw [eT]; exact A.1) (State.isArrayOf_alike hZ.alike A.2.1) hty A.2.2 q hv hg hs hd t k
def own_pc (p1 : Int32) : Int32 := ((((((((p1 &&& (1 : Int32)) + ((p1 >>> ((1 : Int32) &&& 31)) &&& (1 : Int32))) + ((p1 >>> ((2 : Int32) &&& 31)) &&& (1 : Int32))) + ((p1 >>> ((3 : Int32) &&& 31)) &&& (1 : Int32))) + ((p1 >>> ((4 : Int32) &&& 31)) &&& (1 : Int32))) + ((p1 >>> ((5 : Int32) &&& 31)) &&& (1 : Int32))) + ((p1 >>> ((6 : Int32) &&& 31)) &&& (1 : Int32))) + ((p1 >>> ((7 : Int32) &&& 31)) &&& (1 : Int32)))
def own_bits : Nat → List Nat
  | 0 => []
  | 1 => [0]
  | 2 => [1]
  | 3 => [0, 1]
  | 4 => [2]
  | 5 => [0, 2]
  | 6 => [1, 2]
  | 7 => [0, 1, 2]
  | 8 => [3]
  | 9 => [0, 3]
  | 10 => [1, 3]
  | 11 => [0, 1, 3]
  | 12 => [2, 3]
  | 13 => [0, 2, 3]
  | 14 => [1, 2, 3]
  | 15 => [0, 1, 2, 3]
  | _ => []
abbrev own_cnt (m : Nat) : Nat := (own_bits m).length
def own_pos (f : Int32) (b : Nat) : Value := .int (f + Int32.ofNat b)
theorem own_pos0 (f : Int32) : own_pos f 0 = .int f := by
  show Value.int (f + 0) = _
  rw [Int32.add_zero]
theorem own_16 {m : Nat} (h : m < 16) : m = 0 ∨ m = 1 ∨ m = 2 ∨ m = 3 ∨ m = 4 ∨ m = 5 ∨ m = 6 ∨ m = 7 ∨ m = 8 ∨ m = 9 ∨ m = 10 ∨ m = 11 ∨ m = 12 ∨ m = 13 ∨ m = 14 ∨ m = 15 := by omega
theorem own_pcof {m : Nat} (h : m < 16) : own_pc (Int32.ofNat m) = Int32.ofNat (own_cnt m) := by
  revert m; decide +kernel
theorem own_cnt4 {m : Nat} (h : m < 16) : own_cnt m ≤ 4 := by
  revert m; decide +kernel
theorem own_bits4 {m : Nat} (h : m < 16) : ∀ b ∈ own_bits m, b < 4 := by
  revert m; decide +kernel
def own_okp (k r a p : Int32) : Int32 := if p < (0 : Int32) then 0 else if (7 : Int32) < p then 0 else if ((a >>> (p &&& 31)) &&& (1 : Int32)) = (0 : Int32) then (if (p - (own_pc (a &&& (((1 : Int32) <<< (p &&& 31)) - (1 : Int32))))) = (k - (own_pc (r &&& (((1 : Int32) <<< (k &&& 31)) - (1 : Int32))))) then 1 else 0) else 0
def own_ok (k r a f n g : Int32) : Int32 := if k < n then (if ((r >>> (k &&& 31)) &&& (1 : Int32)) = (0 : Int32) then own_okp k r a (g - f) else if g = (-1 : Int32) then 1 else 0) else 1
def own_adv (ss : List Nat) : Nat → Nat → Nat → Nat × Nat
  | 0, j, x => (j, x)
  | f + 1, j, x => if ss[j]? = some x then own_adv ss f (j + 1) (x + 1) else (j, x)
def own_mv (rs ss : List Nat) : Nat → Nat → Nat → Nat → Nat → List (Option Nat)
  | 0, _, _, _, _ => []
  | t + 1, k, i, j, x => if rs[i]? = some k then none :: own_mv rs ss t (k + 1) (i + 1) j x else some (own_adv ss (ss.length - j) j x).2 :: own_mv rs ss t (k + 1) i (own_adv ss (ss.length - j) j x).1 ((own_adv ss (ss.length - j) j x).2 + 1)
theorem own_mv_rem {rs ss : List Nat} {t k i j x : Nat} (h : rs[i]? = some k) : own_mv rs ss (t + 1) k i j x = none :: own_mv rs ss t (k + 1) (i + 1) j x := by rw [own_mv, if_pos h]
theorem own_mv_add {rs ss : List Nat} {t k i j x j' x' : Nat} (h : ¬ rs[i]? = some k) (e : (j', x') = own_adv ss (ss.length - j) j x) : own_mv rs ss (t + 1) k i j x = some x' :: own_mv rs ss t (k + 1) i j' (x' + 1) := by rw [own_mv, if_neg h, ← e]
def own_val (f : Int32) : Option Nat → Value
  | none => .int (-1 : Int32)
  | some x => .int (f + Int32.ofNat x)
theorem own_set (f : Int32) (dn : List (Option Nat)) (o : Option Nat) (u : Value) (k : Nat) (hk : dn.length = k) : (dn.map (own_val f) ++ [u]).set k (own_val f o) = (dn ++ [o]).map (own_val f) := by
  subst hk
  have q : (dn.map (own_val f)).length = dn.length := by simp
  rw [List.set_append_right _ _ (by omega), q]; simp
theorem own_ofNat {n : Nat} (h : n ≤ 15) : (Int32.ofNat n).toInt = n := Int32.toInt_ofNat_small (by omega)
theorem own_clamp {n : Nat} (h : n ≤ 15) : (Int32.ofNat n).toNatClampNeg = n := by rw [Int32.toNatClampNeg, own_ofNat h]; rfl
theorem own_nneg {n : Nat} (h : n ≤ 15) : ¬ Int32.ofNat n < 0 := by rw [Int32.lt_iff_toInt_lt, own_ofNat h]; show ¬ (n : Int) < 0; omega
theorem own_lt {i n : Nat} (h : n ≤ 15) (q : i < n) : Int32.ofNat i < Int32.ofNat n := by rw [Int32.lt_iff_toInt_lt, own_ofNat h, own_ofNat (by omega)]; omega
theorem own_nlt {i n : Nat} (hi : i ≤ 15) (h : n ≤ 15) (q : ¬ i < n) : ¬ Int32.ofNat i < Int32.ofNat n := by rw [Int32.lt_iff_toInt_lt, own_ofNat h, own_ofNat hi]; omega
theorem own_succ (i : Nat) : Int32.ofNat i + (1 : Int32) = Int32.ofNat (i + 1) := (Int32.ofNat_add i 1).symm
theorem own_fsucc (f : Int32) (i : Nat) : (f + Int32.ofNat i) + (1 : Int32) = f + Int32.ofNat (i + 1) := by rw [Int32.add_assoc, own_succ]
theorem own_subc (f x : Int32) : (f + x) - f = x := by rw [Int32.add_comm, Int32.add_sub_cancel]
theorem own_fadd {f : Int32} {i : Nat} (h0 : 0 ≤ f.toInt) (h1 : f.toInt < 2 ^ 30) (hi : i ≤ 15) : (f + Int32.ofNat i).toInt = f.toInt + i := by
  rw [Jvm.Kit.i32_add (by rw [own_ofNat hi]; omega) (by rw [own_ofNat hi]; omega), own_ofNat hi]
theorem own_flt {f : Int32} {i n : Nat} (h0 : 0 ≤ f.toInt) (h1 : f.toInt < 2 ^ 30) (hn : n ≤ 15) (q : i < n) : (f + Int32.ofNat i) < (f + Int32.ofNat n) := by rw [Int32.lt_iff_toInt_lt, own_fadd h0 h1 hn, own_fadd h0 h1 (by omega)]; omega
theorem own_feq {f : Int32} {i j : Nat} (hi : i ≤ 15) (hj : j ≤ 15) (q : ¬ i = j) : ¬ (f + Int32.ofNat i) = (f + Int32.ofNat j) := fun e => by
  have e2 : Int32.ofNat i = Int32.ofNat j := by rw [← own_subc f (Int32.ofNat i), ← own_subc f (Int32.ofNat j), e]
  have e3 := congrArg Int32.toInt e2
  rw [own_ofNat hi, own_ofNat hj] at e3
  omega
theorem own_at {f : Int32} {rs : List Nat} {i r : Nat} (hi : i ≤ 15) (h : rs[i]? = some r) : (rs.map (own_pos f)).getD (Int32.ofNat i).toNatClampNeg (.int (0 : Int32)) = .int (f + Int32.ofNat r) := by
  rw [own_clamp hi, List.getD_eq_getElem?_getD, List.getElem?_map, h]; rfl
theorem own_all : ∀ n, n < 5 → ∀ r, r < 2 ^ n → ∀ a, a < 16 → ∀ k, k < 4 → (if k < n then (match (own_mv (own_bits r) (own_bits a) n 0 0 0 0)[k]? with
    | some none => decide (¬ ((Int32.ofNat r >>> (Int32.ofNat k &&& 31)) &&& (1 : Int32)) = (0 : Int32))
    | some (some x) => decide (((Int32.ofNat r >>> (Int32.ofNat k &&& 31)) &&& (1 : Int32)) = (0 : Int32)) && decide (own_okp (Int32.ofNat k) (Int32.ofNat r) (Int32.ofNat a) (Int32.ofNat x) = 1)
    | none => false) else true) = true := by decide +kernel
theorem own_fin {n r a : Nat} (hn : n < 5) (hr : r < 2 ^ n) (ha : a < 16) (k : Nat) (hk : k < 4) (f : Int32) : ∃ g : Int32, (Int32.ofNat k < Int32.ofNat n → ((own_mv (own_bits r) (own_bits a) n 0 0 0 0).map (own_val f)).getD (Int32.ofNat k).toNatClampNeg (.int (0 : Int32)) = .int g) ∧ own_ok (Int32.ofNat k) (Int32.ofNat r) (Int32.ofNat a) f (Int32.ofNat n) g = 1 := by
  have h := own_all n hn r hr a ha k hk
  by_cases hkn : k < n
  · rw [if_pos hkn] at h
    rw [own_clamp (by omega), List.getD_eq_getElem?_getD, List.getElem?_map]
    cases hm : (own_mv (own_bits r) (own_bits a) n 0 0 0 0)[k]? with
    | none => rw [hm] at h; cases h
    | some q =>
      cases q with
      | none =>
        rw [hm] at h
        have h' := of_decide_eq_true h
        exact ⟨-1, fun _ => rfl, by rw [own_ok, if_pos (own_lt (by omega) hkn), if_neg h', if_pos rfl]⟩
      | some x =>
        rw [hm] at h
        have h' := Bool.and_eq_true_iff.mp h
        exact ⟨f + Int32.ofNat x, fun _ => rfl, by rw [own_ok, if_pos (own_lt (by omega) hkn), if_pos (of_decide_eq_true h'.1), own_subc]; exact of_decide_eq_true h'.2⟩
  · refine ⟨0, fun q => absurd q (own_nlt (by omega) (by omega) hkn), ?_⟩
    rw [own_ok, if_neg (own_nlt (by omega) (by omega) hkn)]
theorem own_first (x : Int32) : 0 ≤ (x &&& (1073741823 : Int32)).toInt ∧ (x &&& (1073741823 : Int32)).toInt < 2 ^ 30 := by
  have e1 := Jvm.Kit.i32_mask x (1073741823 : Int32) (k := 30) (by decide) (by decide)
  have b0 := Int.emod_nonneg x.toInt (show (2 ^ 30 : Int) ≠ 0 by decide)
  have b1 := Int.emod_lt_of_pos x.toInt (show (0 : Int) < 2 ^ 30 by decide)
  omega
theorem own_five (x : Int32) : ∃ n : Nat, n < 5 ∧ ((x &&& (2147483647 : Int32)) % (5 : Int32)) = Int32.ofNat n := by
  have e1 := Jvm.Kit.i32_mask x (2147483647 : Int32) (k := 31) (by decide) (by decide)
  have b0 := Int.emod_nonneg x.toInt (show (2 ^ 31 : Int) ≠ 0 by decide)
  have e2 : ((x &&& (2147483647 : Int32)) % (5 : Int32)).toInt = (x &&& (2147483647 : Int32)).toInt % 5 := by
    rw [Int32.toInt_mod]
    have q : (5 : Int32).toInt = 5 := by decide
    rw [q, Int.tmod_eq_emod_of_nonneg (by omega)]
  refine ⟨((x &&& (2147483647 : Int32)) % (5 : Int32)).toInt.toNat, by omega, Int32.toInt_inj.mp ?_⟩
  rw [own_ofNat (by omega)]; omega
theorem own_mask15 (x : Int32) : ∃ n : Nat, n < 16 ∧ (x &&& (15 : Int32)) = Int32.ofNat n := by
  have e1 := Jvm.Kit.i32_mask x (15 : Int32) (k := 4) (by decide) (by decide)
  have b0 := Int.emod_nonneg x.toInt (show (2 ^ 4 : Int) ≠ 0 by decide)
  have b1 := Int.emod_lt_of_pos x.toInt (show (0 : Int) < 2 ^ 4 by decide)
  refine ⟨(x &&& (15 : Int32)).toInt.toNat, by omega, Int32.toInt_inj.mp ?_⟩
  rw [own_ofNat (by omega)]; omega
theorem own_cut : ∀ q, q < 16 → ∀ n, n < 5 → (Int32.ofNat q &&& (((1 : Int32) <<< (Int32.ofNat n &&& 31)) - (1 : Int32))) = Int32.ofNat (q % 2 ^ n) := by decide +kernel
theorem own_eqI {Z : State} {args : Array Value} {t : Term} {k : Int32} (h : (Jvm.Cond.eq t (.int k)).value args Z none Z [] = some true) : t.eval args Z none [] Z = some (.int k) := by
  obtain ⟨u, v, e1, e2, k1, -⟩ := cmp_v (Or.inl h)
  have e3 : v = .int k := by simpa [Term.eval] using e2.symm
  subst e3
  obtain ⟨z, rfl⟩ : ∃ z, u = .int z := by cases u <;> simp [Kin, Value.isRef] at k1 ⊢
  have q : z = k := gotT (Cond.eq_ints e1 e2) h
  subst q
  exact e1
theorem own_arrL {Z : State} {args : Array Value} {t : Term} {z : Int32} {x : Addr} {ty : FieldType} (ev : t.eval args Z none [] Z = some (.ref x)) (ha : (Jvm.Cond.arrayOf t ty).value args Z none Z [] = some true) (hl : (Jvm.Cond.eq (.length t) (.int z)).value args Z none Z [] = some true) :
    ∃ cl, Arr Z Z.heap x cl ty ∧ cl.slots.size < 2 ^ 31 ∧ cl.slots.size.toInt32 = z := by
  obtain ⟨cl, A⟩ := Arr.start ev ha
  have e1 := own_eqI hl
  obtain ⟨b, cell, h1, h2, h3, h4⟩ := Jvm.Lib.length_spec e1
  cases ev.symm.trans h1
  have e5 := A.fin (Vm.Alike.refl _)
  cases e5.symm.trans h2
  cases h4
  exact ⟨_, A, h3, rfl⟩
theorem own_sz {n : Nat} (h : n < 2 ^ 31) (e : n.toInt32 = (256 : Int32)) : n = 256 := by
  have q := congrArg Int32.toInt e
  rw [len_toInt h] at q
  have z : (256 : Int32).toInt = 256 := by decide
  omega
theorem own_cache {Z : State} {args : Array Value} {C n d : String} {x : Addr} {cl : Cell} {c2 : Jvm.Cond} {K : String} {ty : FieldType} (ev : (Term.static C n d).eval args Z none [] Z = some (.ref x)) (A : Arr Z Z.heap x cl ty) (hsz : cl.slots.size < 2 ^ 31) (hall : (Jvm.Cond.all (.static C n d) (.and (.exactly (.elem (.static C n d) (.index 0)) K) c2)).value args Z none Z [] = some true) (k : Nat) (hk : k < cl.slots.size) :
    ∃ y, cl.slots[k]? = some (.ref y) ∧ Exa Z Z.heap y K := by
  have h := Cond.all_elim ev (A.fin (Vm.Alike.refl _)) hall k hk
  obtain ⟨h1, -⟩ := and_e h
  obtain ⟨y, c', cell, kc, e1, e2, e3, e4, e5, rfl, e7⟩ := Cond.exactly_spec (beq_iff_eq.mpr h1 : (Jvm.Cond.exactly (.elem (.static C n d) (.index 0)) K).holds args Z none Z [k] = true)
  refine ⟨y, ?_, cell, kc, e3, e2, e4, e5, e7⟩
  have ev' : (Term.static C n d).eval args Z none [k] Z = some (.ref x) := by simpa [Term.eval] using ev
  obtain ⟨-, j, f2⟩ := elem_v e1
  have q := (elem_in e1 ev' f2 A.1).2
  have f3 : j.toNatClampNeg = k := by
    simp [Term.eval] at f2
    rw [← f2, Int32.toNatClampNeg, len_toInt (by omega)]; rfl
  rw [f3] at q; exact q
theorem d_jdk_22_method_1_code_0 : decode jdk_22_method_1_code 0 = .ok (.aload_n 0, 1) := by decide +kernel
theorem d_jdk_22_method_1_code_1 : decode jdk_22_method_1_code 1 = .ok (.invokespecial 1, 3) := by decide +kernel
theorem d_jdk_22_method_1_code_4 : decode jdk_22_method_1_code 4 = .ok (.return_, 1) := by decide +kernel
theorem pn_java_util_AbstractCollection : plainName "java/util/AbstractCollection" = true := by first | (simp [plainName, overriddenIn]; done) | decide +kernel
theorem d_jdk_39_method_1_code_0 : decode jdk_39_method_1_code 0 = .ok (.aload_n 0, 1) := by decide +kernel
theorem d_jdk_39_method_1_code_1 : decode jdk_39_method_1_code 1 = .ok (.invokespecial 1, 3) := by decide +kernel
theorem pd_2829V : parseMethodDescriptor "()V" = some ⟨[], none⟩ := by decide +kernel
theorem d_jdk_39_method_1_code_4 : decode jdk_39_method_1_code 4 = .ok (.aload_n 0, 1) := by decide +kernel
theorem d_jdk_39_method_1_code_5 : decode jdk_39_method_1_code 5 = .ok (.iconst 0, 1) := by decide +kernel
theorem d_jdk_39_method_1_code_6 : decode jdk_39_method_1_code 6 = .ok (.putfield 7, 3) := by decide +kernel
theorem d_jdk_39_method_1_code_9 : decode jdk_39_method_1_code 9 = .ok (.return_, 1) := by decide +kernel
theorem pn_java_util_AbstractList : plainName "java/util/AbstractList" = true := by first | (simp [plainName, overriddenIn]; done) | decide +kernel
theorem d_jdk_38_method_2_code_0 : decode jdk_38_method_2_code 0 = .ok (.aload_n 0, 1) := by decide +kernel
theorem d_jdk_38_method_2_code_1 : decode jdk_38_method_2_code 1 = .ok (.invokespecial 1, 3) := by decide +kernel
theorem d_jdk_38_method_2_code_4 : decode jdk_38_method_2_code 4 = .ok (.aload_n 0, 1) := by decide +kernel
theorem d_jdk_38_method_2_code_5 : decode jdk_38_method_2_code 5 = .ok (.getstatic 39, 3) := by decide +kernel
theorem d_jdk_38_method_2_code_8 : decode jdk_38_method_2_code 8 = .ok (.putfield 9, 3) := by decide +kernel
theorem d_jdk_38_method_2_code_11 : decode jdk_38_method_2_code 11 = .ok (.return_, 1) := by decide +kernel
theorem pn_java_util_ArrayList : plainName "java/util/ArrayList" = true := by first | (simp [plainName, overriddenIn]; done) | decide +kernel
theorem d_jdk_29_method_65_code_0 : decode jdk_29_method_65_code 0 = .ok (.iload_n 0, 1) := by decide +kernel
theorem d_jdk_29_method_65_code_1 : decode jdk_29_method_65_code 1 = .ok (.iload_n 1, 1) := by decide +kernel
theorem d_jdk_29_method_65_code_2 : decode jdk_29_method_65_code 2 = .ok (.if_icmp .lt 7, 3) := by decide +kernel
theorem d_jdk_29_method_65_code_5 : decode jdk_29_method_65_code 5 = .ok (.iload_n 0, 1) := by decide +kernel
theorem d_jdk_29_method_65_code_6 : decode jdk_29_method_65_code 6 = .ok (.goto 4, 3) := by decide +kernel
theorem d_jdk_29_method_65_code_10 : decode jdk_29_method_65_code 10 = .ok (.ireturn, 1) := by decide +kernel
theorem d_jdk_38_method_6_code_0 : decode jdk_38_method_6_code 0 = .ok (.aload_n 0, 1) := by decide +kernel
theorem d_jdk_38_method_6_code_1 : decode jdk_38_method_6_code 1 = .ok (.getfield 9, 3) := by decide +kernel
theorem d_jdk_38_method_6_code_4 : decode jdk_38_method_6_code 4 = .ok (.arraylength, 1) := by decide +kernel
theorem d_jdk_38_method_6_code_5 : decode jdk_38_method_6_code 5 = .ok (.istore_n 2, 1) := by decide +kernel
theorem d_jdk_38_method_6_code_6 : decode jdk_38_method_6_code 6 = .ok (.iload_n 2, 1) := by decide +kernel
theorem d_jdk_38_method_6_code_7 : decode jdk_38_method_6_code 7 = .ok (.ifCond .gt 13, 3) := by decide +kernel
theorem d_jdk_38_method_6_code_10 : decode jdk_38_method_6_code 10 = .ok (.aload_n 0, 1) := by decide +kernel
theorem d_jdk_38_method_6_code_11 : decode jdk_38_method_6_code 11 = .ok (.getfield 9, 3) := by decide +kernel
theorem d_jdk_38_method_6_code_14 : decode jdk_38_method_6_code 14 = .ok (.getstatic 39, 3) := by decide +kernel
theorem d_jdk_38_method_6_code_17 : decode jdk_38_method_6_code 17 = .ok (.if_acmp .eq 28, 3) := by decide +kernel
theorem d_jdk_38_method_6_code_45 : decode jdk_38_method_6_code 45 = .ok (.aload_n 0, 1) := by decide +kernel
theorem d_jdk_38_method_6_code_46 : decode jdk_38_method_6_code 46 = .ok (.bipush 10, 2) := by decide +kernel
theorem d_jdk_38_method_6_code_48 : decode jdk_38_method_6_code 48 = .ok (.iload_n 1, 1) := by decide +kernel
theorem d_jdk_38_method_6_code_49 : decode jdk_38_method_6_code 49 = .ok (.invokestatic 79, 3) := by decide +kernel
theorem pd_28II29I : parseMethodDescriptor "(II)I" = some ⟨[.int, .int], some .int⟩ := by decide +kernel
theorem d_jdk_38_method_6_code_52 : decode jdk_38_method_6_code 52 = .ok (.anewarray 7, 3) := by decide +kernel
theorem d_jdk_38_method_6_code_55 : decode jdk_38_method_6_code 55 = .ok (.dup_x1, 1) := by decide +kernel
theorem d_jdk_38_method_6_code_56 : decode jdk_38_method_6_code 56 = .ok (.putfield 9, 3) := by decide +kernel
theorem d_jdk_38_method_6_code_59 : decode jdk_38_method_6_code 59 = .ok (.areturn, 1) := by decide +kernel
theorem d_jdk_38_method_7_code_0 : decode jdk_38_method_7_code 0 = .ok (.aload_n 0, 1) := by decide +kernel
theorem d_jdk_38_method_7_code_1 : decode jdk_38_method_7_code 1 = .ok (.aload_n 0, 1) := by decide +kernel
theorem d_jdk_38_method_7_code_2 : decode jdk_38_method_7_code 2 = .ok (.getfield 48, 3) := by decide +kernel
theorem d_jdk_38_method_7_code_5 : decode jdk_38_method_7_code 5 = .ok (.iconst 1, 1) := by decide +kernel
theorem d_jdk_38_method_7_code_6 : decode jdk_38_method_7_code 6 = .ok (.iadd, 1) := by decide +kernel
theorem d_jdk_38_method_7_code_7 : decode jdk_38_method_7_code 7 = .ok (.invokevirtual 69, 3) := by decide +kernel
theorem pd_28I295bLjava2flang2fObject3b : parseMethodDescriptor "(I)[Ljava/lang/Object;" = some ⟨[.int], some (.array (.object "java/lang/Object"))⟩ := by decide +kernel
theorem d_jdk_38_method_7_code_10 : decode jdk_38_method_7_code 10 = .ok (.areturn, 1) := by decide +kernel
theorem d_jdk_38_method_24_code_0 : decode jdk_38_method_24_code 0 = .ok (.iload_n 3, 1) := by decide +kernel
theorem d_jdk_38_method_24_code_1 : decode jdk_38_method_24_code 1 = .ok (.aload_n 2, 1) := by decide +kernel
theorem d_jdk_38_method_24_code_2 : decode jdk_38_method_24_code 2 = .ok (.arraylength, 1) := by decide +kernel
theorem d_jdk_38_method_24_code_3 : decode jdk_38_method_24_code 3 = .ok (.if_icmp .ne 8, 3) := by decide +kernel
theorem d_jdk_38_method_24_code_6 : decode jdk_38_method_24_code 6 = .ok (.aload_n 0, 1) := by decide +kernel
theorem d_jdk_38_method_24_code_7 : decode jdk_38_method_24_code 7 = .ok (.invokevirtual 129, 3) := by decide +kernel
theorem pd_28295bLjava2flang2fObject3b : parseMethodDescriptor "()[Ljava/lang/Object;" = some ⟨[], some (.array (.object "java/lang/Object"))⟩ := by decide +kernel
theorem d_jdk_38_method_24_code_10 : decode jdk_38_method_24_code 10 = .ok (.astore_n 2, 1) := by decide +kernel
theorem d_jdk_38_method_24_code_11 : decode jdk_38_method_24_code 11 = .ok (.aload_n 2, 1) := by decide +kernel
theorem d_jdk_38_method_24_code_12 : decode jdk_38_method_24_code 12 = .ok (.iload_n 3, 1) := by decide +kernel
theorem d_jdk_38_method_24_code_13 : decode jdk_38_method_24_code 13 = .ok (.aload_n 1, 1) := by decide +kernel
theorem d_jdk_38_method_24_code_14 : decode jdk_38_method_24_code 14 = .ok (.aastore, 1) := by decide +kernel
theorem d_jdk_38_method_24_code_15 : decode jdk_38_method_24_code 15 = .ok (.aload_n 0, 1) := by decide +kernel
theorem d_jdk_38_method_24_code_16 : decode jdk_38_method_24_code 16 = .ok (.iload_n 3, 1) := by decide +kernel
theorem d_jdk_38_method_24_code_17 : decode jdk_38_method_24_code 17 = .ok (.iconst 1, 1) := by decide +kernel
theorem d_jdk_38_method_24_code_18 : decode jdk_38_method_24_code 18 = .ok (.iadd, 1) := by decide +kernel
theorem d_jdk_38_method_24_code_19 : decode jdk_38_method_24_code 19 = .ok (.putfield 48, 3) := by decide +kernel
theorem d_jdk_38_method_24_code_22 : decode jdk_38_method_24_code 22 = .ok (.return_, 1) := by decide +kernel
theorem d_jdk_38_method_25_code_0 : decode jdk_38_method_25_code 0 = .ok (.aload_n 0, 1) := by decide +kernel
theorem d_jdk_38_method_25_code_1 : decode jdk_38_method_25_code 1 = .ok (.dup, 1) := by decide +kernel
theorem d_jdk_38_method_25_code_2 : decode jdk_38_method_25_code 2 = .ok (.getfield 63, 3) := by decide +kernel
theorem d_jdk_38_method_25_code_5 : decode jdk_38_method_25_code 5 = .ok (.iconst 1, 1) := by decide +kernel
theorem d_jdk_38_method_25_code_6 : decode jdk_38_method_25_code 6 = .ok (.iadd, 1) := by decide +kernel
theorem d_jdk_38_method_25_code_7 : decode jdk_38_method_25_code 7 = .ok (.putfield 63, 3) := by decide +kernel
theorem d_jdk_38_method_25_code_10 : decode jdk_38_method_25_code 10 = .ok (.aload_n 0, 1) := by decide +kernel
theorem d_jdk_38_method_25_code_11 : decode jdk_38_method_25_code 11 = .ok (.aload_n 1, 1) := by decide +kernel
theorem d_jdk_38_method_25_code_12 : decode jdk_38_method_25_code 12 = .ok (.aload_n 0, 1) := by decide +kernel
theorem d_jdk_38_method_25_code_13 : decode jdk_38_method_25_code 13 = .ok (.getfield 9, 3) := by decide +kernel
theorem d_jdk_38_method_25_code_16 : decode jdk_38_method_25_code 16 = .ok (.aload_n 0, 1) := by decide +kernel
theorem d_jdk_38_method_25_code_17 : decode jdk_38_method_25_code 17 = .ok (.getfield 48, 3) := by decide +kernel
theorem d_jdk_38_method_25_code_20 : decode jdk_38_method_25_code 20 = .ok (.invokevirtual 131, 3) := by decide +kernel
theorem pd_28Ljava2flang2fObject3b5bLjava2flang2fObject3bI29V : parseMethodDescriptor "(Ljava/lang/Object;[Ljava/lang/Object;I)V" = some ⟨[(.object "java/lang/Object"), (.array (.object "java/lang/Object")), .int], none⟩ := by decide +kernel
theorem d_jdk_38_method_25_code_23 : decode jdk_38_method_25_code 23 = .ok (.iconst 1, 1) := by decide +kernel
theorem d_jdk_38_method_25_code_24 : decode jdk_38_method_25_code 24 = .ok (.ireturn, 1) := by decide +kernel
theorem d_jdk_33_method_22_code_0 : decode jdk_33_method_22_code 0 = .ok (.iload_n 0, 1) := by decide +kernel
theorem d_jdk_33_method_22_code_1 : decode jdk_33_method_22_code 1 = .ok (.bipush (-128), 2) := by decide +kernel
theorem d_jdk_33_method_22_code_3 : decode jdk_33_method_22_code 3 = .ok (.if_icmp .lt 20, 3) := by decide +kernel
theorem d_jdk_33_method_22_code_6 : decode jdk_33_method_22_code 6 = .ok (.iload_n 0, 1) := by decide +kernel
theorem d_jdk_33_method_22_code_7 : decode jdk_33_method_22_code 7 = .ok (.getstatic 191, 3) := by decide +kernel
theorem d_jdk_33_method_22_code_10 : decode jdk_33_method_22_code 10 = .ok (.if_icmp .gt 13, 3) := by decide +kernel
theorem d_jdk_33_method_22_code_13 : decode jdk_33_method_22_code 13 = .ok (.getstatic 195, 3) := by decide +kernel
theorem d_jdk_33_method_22_code_16 : decode jdk_33_method_22_code 16 = .ok (.iload_n 0, 1) := by decide +kernel
theorem d_jdk_33_method_22_code_17 : decode jdk_33_method_22_code 17 = .ok (.sipush 128, 3) := by decide +kernel
theorem d_jdk_33_method_22_code_20 : decode jdk_33_method_22_code 20 = .ok (.iadd, 1) := by decide +kernel
theorem d_jdk_33_method_22_code_21 : decode jdk_33_method_22_code 21 = .ok (.aaload, 1) := by decide +kernel
theorem d_jdk_33_method_22_code_22 : decode jdk_33_method_22_code 22 = .ok (.areturn, 1) := by decide +kernel
theorem pn_java_lang_Integer : plainName "java/lang/Integer" = true := by first | (simp [plainName, overriddenIn]; done) | decide +kernel
theorem d_method_5_code_0 : decode method_5_code 0 = .ok (.new 36, 3) := by decide +kernel
theorem d_method_5_code_3 : decode method_5_code 3 = .ok (.dup, 1) := by decide +kernel
theorem d_method_5_code_4 : decode method_5_code 4 = .ok (.invokespecial 38, 3) := by decide +kernel
theorem d_method_5_code_7 : decode method_5_code 7 = .ok (.astore_n 1, 1) := by decide +kernel
theorem d_method_5_code_8 : decode method_5_code 8 = .ok (.iload_n 0, 1) := by decide +kernel
theorem d_method_5_code_9 : decode method_5_code 9 = .ok (.iconst 1, 1) := by decide +kernel
theorem d_method_5_code_10 : decode method_5_code 10 = .ok (.iand, 1) := by decide +kernel
theorem d_method_5_code_11 : decode method_5_code 11 = .ok (.ifCond .eq 12, 3) := by decide +kernel
theorem d_method_5_code_23 : decode method_5_code 23 = .ok (.iload_n 0, 1) := by decide +kernel
theorem d_method_5_code_24 : decode method_5_code 24 = .ok (.iconst 2, 1) := by decide +kernel
theorem d_method_5_code_25 : decode method_5_code 25 = .ok (.iand, 1) := by decide +kernel
theorem d_method_5_code_26 : decode method_5_code 26 = .ok (.ifCond .eq 12, 3) := by decide +kernel
theorem d_method_5_code_38 : decode method_5_code 38 = .ok (.iload_n 0, 1) := by decide +kernel
theorem d_method_5_code_39 : decode method_5_code 39 = .ok (.iconst 4, 1) := by decide +kernel
theorem d_method_5_code_40 : decode method_5_code 40 = .ok (.iand, 1) := by decide +kernel
theorem d_method_5_code_41 : decode method_5_code 41 = .ok (.ifCond .eq 12, 3) := by decide +kernel
theorem d_method_5_code_53 : decode method_5_code 53 = .ok (.iload_n 0, 1) := by decide +kernel
theorem d_method_5_code_54 : decode method_5_code 54 = .ok (.bipush 8, 2) := by decide +kernel
theorem d_method_5_code_56 : decode method_5_code 56 = .ok (.iand, 1) := by decide +kernel
theorem d_method_5_code_57 : decode method_5_code 57 = .ok (.ifCond .eq 12, 3) := by decide +kernel
theorem d_method_5_code_69 : decode method_5_code 69 = .ok (.aload_n 1, 1) := by decide +kernel
theorem d_method_5_code_70 : decode method_5_code 70 = .ok (.areturn, 1) := by decide +kernel
theorem d_method_5_code_60 : decode method_5_code 60 = .ok (.aload_n 1, 1) := by decide +kernel
theorem d_method_5_code_61 : decode method_5_code 61 = .ok (.iconst 3, 1) := by decide +kernel
theorem d_method_5_code_62 : decode method_5_code 62 = .ok (.invokestatic 39, 3) := by decide +kernel
theorem pd_28I29Ljava2flang2fInteger3b : parseMethodDescriptor "(I)Ljava/lang/Integer;" = some ⟨[.int], some (.object "java/lang/Integer")⟩ := by decide +kernel
theorem d_method_5_code_65 : decode method_5_code 65 = .ok (.invokevirtual 45, 3) := by decide +kernel
theorem pd_28Ljava2flang2fObject3b29Z : parseMethodDescriptor "(Ljava/lang/Object;)Z" = some ⟨[(.object "java/lang/Object")], some .boolean⟩ := by decide +kernel
theorem d_method_5_code_68 : decode method_5_code 68 = .ok (.pop, 1) := by decide +kernel
theorem d_method_5_code_44 : decode method_5_code 44 = .ok (.aload_n 1, 1) := by decide +kernel
theorem d_method_5_code_45 : decode method_5_code 45 = .ok (.iconst 2, 1) := by decide +kernel
theorem d_method_5_code_46 : decode method_5_code 46 = .ok (.invokestatic 39, 3) := by decide +kernel
theorem d_method_5_code_49 : decode method_5_code 49 = .ok (.invokevirtual 45, 3) := by decide +kernel
theorem d_method_5_code_52 : decode method_5_code 52 = .ok (.pop, 1) := by decide +kernel
theorem d_method_5_code_29 : decode method_5_code 29 = .ok (.aload_n 1, 1) := by decide +kernel
theorem d_method_5_code_30 : decode method_5_code 30 = .ok (.iconst 1, 1) := by decide +kernel
theorem d_method_5_code_31 : decode method_5_code 31 = .ok (.invokestatic 39, 3) := by decide +kernel
theorem d_method_5_code_34 : decode method_5_code 34 = .ok (.invokevirtual 45, 3) := by decide +kernel
theorem d_method_5_code_37 : decode method_5_code 37 = .ok (.pop, 1) := by decide +kernel
theorem d_method_5_code_14 : decode method_5_code 14 = .ok (.aload_n 1, 1) := by decide +kernel
theorem d_method_5_code_15 : decode method_5_code 15 = .ok (.iconst 0, 1) := by decide +kernel
theorem d_method_5_code_16 : decode method_5_code 16 = .ok (.invokestatic 39, 3) := by decide +kernel
theorem d_method_5_code_19 : decode method_5_code 19 = .ok (.invokevirtual 45, 3) := by decide +kernel
theorem d_method_5_code_22 : decode method_5_code 22 = .ok (.pop, 1) := by decide +kernel
theorem pn_com_example_bindwell_bindwell_collect_ListChangeMovesFromPinLaw : plainName "com/example/bindwell/bindwell/collect/ListChangeMovesFromPinLaw" = true := by first | (simp [plainName, overriddenIn]; done) | decide +kernel
theorem d_method_3_code_0 : decode method_3_code 0 = .ok (.iload_n 0, 1) := by decide +kernel
theorem d_method_3_code_1 : decode method_3_code 1 = .ok (.iconst 1, 1) := by decide +kernel
theorem d_method_3_code_2 : decode method_3_code 2 = .ok (.iand, 1) := by decide +kernel
theorem d_method_3_code_3 : decode method_3_code 3 = .ok (.iload_n 0, 1) := by decide +kernel
theorem d_method_3_code_4 : decode method_3_code 4 = .ok (.iconst 1, 1) := by decide +kernel
theorem d_method_3_code_5 : decode method_3_code 5 = .ok (.ishr, 1) := by decide +kernel
theorem d_method_3_code_6 : decode method_3_code 6 = .ok (.iconst 1, 1) := by decide +kernel
theorem d_method_3_code_7 : decode method_3_code 7 = .ok (.iand, 1) := by decide +kernel
theorem d_method_3_code_8 : decode method_3_code 8 = .ok (.iadd, 1) := by decide +kernel
theorem d_method_3_code_9 : decode method_3_code 9 = .ok (.iload_n 0, 1) := by decide +kernel
theorem d_method_3_code_10 : decode method_3_code 10 = .ok (.iconst 2, 1) := by decide +kernel
theorem d_method_3_code_11 : decode method_3_code 11 = .ok (.ishr, 1) := by decide +kernel
theorem d_method_3_code_12 : decode method_3_code 12 = .ok (.iconst 1, 1) := by decide +kernel
theorem d_method_3_code_13 : decode method_3_code 13 = .ok (.iand, 1) := by decide +kernel
theorem d_method_3_code_14 : decode method_3_code 14 = .ok (.iadd, 1) := by decide +kernel
theorem d_method_3_code_15 : decode method_3_code 15 = .ok (.iload_n 0, 1) := by decide +kernel
theorem d_method_3_code_16 : decode method_3_code 16 = .ok (.iconst 3, 1) := by decide +kernel
theorem d_method_3_code_17 : decode method_3_code 17 = .ok (.ishr, 1) := by decide +kernel
theorem d_method_3_code_18 : decode method_3_code 18 = .ok (.iconst 1, 1) := by decide +kernel
theorem d_method_3_code_19 : decode method_3_code 19 = .ok (.iand, 1) := by decide +kernel
theorem d_method_3_code_20 : decode method_3_code 20 = .ok (.iadd, 1) := by decide +kernel
theorem d_method_3_code_21 : decode method_3_code 21 = .ok (.iload_n 0, 1) := by decide +kernel
theorem d_method_3_code_22 : decode method_3_code 22 = .ok (.iconst 4, 1) := by decide +kernel
theorem d_method_3_code_23 : decode method_3_code 23 = .ok (.ishr, 1) := by decide +kernel
theorem d_method_3_code_24 : decode method_3_code 24 = .ok (.iconst 1, 1) := by decide +kernel
theorem d_method_3_code_25 : decode method_3_code 25 = .ok (.iand, 1) := by decide +kernel
theorem d_method_3_code_26 : decode method_3_code 26 = .ok (.iadd, 1) := by decide +kernel
theorem d_method_3_code_27 : decode method_3_code 27 = .ok (.iload_n 0, 1) := by decide +kernel
theorem d_method_3_code_28 : decode method_3_code 28 = .ok (.iconst 5, 1) := by decide +kernel
theorem d_method_3_code_29 : decode method_3_code 29 = .ok (.ishr, 1) := by decide +kernel
theorem d_method_3_code_30 : decode method_3_code 30 = .ok (.iconst 1, 1) := by decide +kernel
theorem d_method_3_code_31 : decode method_3_code 31 = .ok (.iand, 1) := by decide +kernel
theorem d_method_3_code_32 : decode method_3_code 32 = .ok (.iadd, 1) := by decide +kernel
theorem d_method_3_code_33 : decode method_3_code 33 = .ok (.iload_n 0, 1) := by decide +kernel
theorem d_method_3_code_34 : decode method_3_code 34 = .ok (.bipush 6, 2) := by decide +kernel
theorem d_method_3_code_36 : decode method_3_code 36 = .ok (.ishr, 1) := by decide +kernel
theorem d_method_3_code_37 : decode method_3_code 37 = .ok (.iconst 1, 1) := by decide +kernel
theorem d_method_3_code_38 : decode method_3_code 38 = .ok (.iand, 1) := by decide +kernel
theorem d_method_3_code_39 : decode method_3_code 39 = .ok (.iadd, 1) := by decide +kernel
theorem d_method_3_code_40 : decode method_3_code 40 = .ok (.iload_n 0, 1) := by decide +kernel
theorem d_method_3_code_41 : decode method_3_code 41 = .ok (.bipush 7, 2) := by decide +kernel
theorem d_method_3_code_43 : decode method_3_code 43 = .ok (.ishr, 1) := by decide +kernel
theorem d_method_3_code_44 : decode method_3_code 44 = .ok (.iconst 1, 1) := by decide +kernel
theorem d_method_3_code_45 : decode method_3_code 45 = .ok (.iand, 1) := by decide +kernel
theorem d_method_3_code_46 : decode method_3_code 46 = .ok (.iadd, 1) := by decide +kernel
theorem d_method_3_code_47 : decode method_3_code 47 = .ok (.ireturn, 1) := by decide +kernel
theorem d_method_4_code_0 : decode method_4_code 0 = .ok (.iconst 0, 1) := by decide +kernel
theorem d_method_4_code_1 : decode method_4_code 1 = .ok (.istore_n 3, 1) := by decide +kernel
theorem d_method_4_code_2 : decode method_4_code 2 = .ok (.iload_n 1, 1) := by decide +kernel
theorem d_method_4_code_3 : decode method_4_code 3 = .ok (.iconst 1, 1) := by decide +kernel
theorem d_method_4_code_4 : decode method_4_code 4 = .ok (.iand, 1) := by decide +kernel
theorem d_method_4_code_5 : decode method_4_code 5 = .ok (.ifCond .eq 10, 3) := by decide +kernel
theorem d_method_4_code_15 : decode method_4_code 15 = .ok (.iload_n 1, 1) := by decide +kernel
theorem d_method_4_code_16 : decode method_4_code 16 = .ok (.iconst 2, 1) := by decide +kernel
theorem d_method_4_code_17 : decode method_4_code 17 = .ok (.iand, 1) := by decide +kernel
theorem d_method_4_code_18 : decode method_4_code 18 = .ok (.ifCond .eq 12, 3) := by decide +kernel
theorem d_method_4_code_30 : decode method_4_code 30 = .ok (.iload_n 1, 1) := by decide +kernel
theorem d_method_4_code_31 : decode method_4_code 31 = .ok (.iconst 4, 1) := by decide +kernel
theorem d_method_4_code_32 : decode method_4_code 32 = .ok (.iand, 1) := by decide +kernel
theorem d_method_4_code_33 : decode method_4_code 33 = .ok (.ifCond .eq 12, 3) := by decide +kernel
theorem d_method_4_code_45 : decode method_4_code 45 = .ok (.iload_n 1, 1) := by decide +kernel
theorem d_method_4_code_46 : decode method_4_code 46 = .ok (.bipush 8, 2) := by decide +kernel
theorem d_method_4_code_48 : decode method_4_code 48 = .ok (.iand, 1) := by decide +kernel
theorem d_method_4_code_49 : decode method_4_code 49 = .ok (.ifCond .eq 12, 3) := by decide +kernel
theorem d_method_4_code_61 : decode method_4_code 61 = .ok (.return_, 1) := by decide +kernel
theorem d_method_4_code_8 : decode method_4_code 8 = .ok (.aload_n 0, 1) := by decide +kernel
theorem d_method_4_code_9 : decode method_4_code 9 = .ok (.iload_n 3, 1) := by decide +kernel
theorem d_method_4_code_10 : decode method_4_code 10 = .ok (.iload_n 2, 1) := by decide +kernel
theorem d_method_4_code_11 : decode method_4_code 11 = .ok (.iastore, 1) := by decide +kernel
theorem d_method_4_code_12 : decode method_4_code 12 = .ok (.iinc 3 1, 3) := by decide +kernel
theorem d_method_4_code_21 : decode method_4_code 21 = .ok (.aload_n 0, 1) := by decide +kernel
theorem d_method_4_code_22 : decode method_4_code 22 = .ok (.iload_n 3, 1) := by decide +kernel
theorem d_method_4_code_23 : decode method_4_code 23 = .ok (.iload_n 2, 1) := by decide +kernel
theorem d_method_4_code_24 : decode method_4_code 24 = .ok (.iconst 1, 1) := by decide +kernel
theorem d_method_4_code_25 : decode method_4_code 25 = .ok (.iadd, 1) := by decide +kernel
theorem d_method_4_code_26 : decode method_4_code 26 = .ok (.iastore, 1) := by decide +kernel
theorem d_method_4_code_27 : decode method_4_code 27 = .ok (.iinc 3 1, 3) := by decide +kernel
theorem d_method_4_code_36 : decode method_4_code 36 = .ok (.aload_n 0, 1) := by decide +kernel
theorem d_method_4_code_37 : decode method_4_code 37 = .ok (.iload_n 3, 1) := by decide +kernel
theorem d_method_4_code_38 : decode method_4_code 38 = .ok (.iload_n 2, 1) := by decide +kernel
theorem d_method_4_code_39 : decode method_4_code 39 = .ok (.iconst 2, 1) := by decide +kernel
theorem d_method_4_code_40 : decode method_4_code 40 = .ok (.iadd, 1) := by decide +kernel
theorem d_method_4_code_41 : decode method_4_code 41 = .ok (.iastore, 1) := by decide +kernel
theorem d_method_4_code_42 : decode method_4_code 42 = .ok (.iinc 3 1, 3) := by decide +kernel
theorem d_method_4_code_52 : decode method_4_code 52 = .ok (.aload_n 0, 1) := by decide +kernel
theorem d_method_4_code_53 : decode method_4_code 53 = .ok (.iload_n 3, 1) := by decide +kernel
theorem d_method_4_code_54 : decode method_4_code 54 = .ok (.iload_n 2, 1) := by decide +kernel
theorem d_method_4_code_55 : decode method_4_code 55 = .ok (.iconst 3, 1) := by decide +kernel
theorem d_method_4_code_56 : decode method_4_code 56 = .ok (.iadd, 1) := by decide +kernel
theorem d_method_4_code_57 : decode method_4_code 57 = .ok (.iastore, 1) := by decide +kernel
theorem d_method_4_code_58 : decode method_4_code 58 = .ok (.iinc 3 1, 3) := by decide +kernel
theorem d_prog_22_method_2_code_0 : decode prog_22_method_2_code 0 = .ok (.aload_n 0, 1) := by decide +kernel
theorem d_prog_22_method_2_code_1 : decode prog_22_method_2_code 1 = .ok (.invokespecial 7, 3) := by decide +kernel
theorem d_prog_22_method_2_code_4 : decode prog_22_method_2_code 4 = .ok (.aload_n 0, 1) := by decide +kernel
theorem d_prog_22_method_2_code_5 : decode prog_22_method_2_code 5 = .ok (.aload_n 1, 1) := by decide +kernel
theorem d_prog_22_method_2_code_6 : decode prog_22_method_2_code 6 = .ok (.putfield 12, 3) := by decide +kernel
theorem d_prog_22_method_2_code_9 : decode prog_22_method_2_code 9 = .ok (.aload_n 0, 1) := by decide +kernel
theorem d_prog_22_method_2_code_10 : decode prog_22_method_2_code 10 = .ok (.aload_n 2, 1) := by decide +kernel
theorem d_prog_22_method_2_code_11 : decode prog_22_method_2_code 11 = .ok (.putfield 16, 3) := by decide +kernel
theorem d_prog_22_method_2_code_14 : decode prog_22_method_2_code 14 = .ok (.aload_n 0, 1) := by decide +kernel
theorem d_prog_22_method_2_code_15 : decode prog_22_method_2_code 15 = .ok (.aload_n 3, 1) := by decide +kernel
theorem d_prog_22_method_2_code_16 : decode prog_22_method_2_code 16 = .ok (.putfield 20, 3) := by decide +kernel
theorem d_prog_22_method_2_code_19 : decode prog_22_method_2_code 19 = .ok (.aload_n 0, 1) := by decide +kernel
theorem d_prog_22_method_2_code_20 : decode prog_22_method_2_code 20 = .ok (.aload 4, 2) := by decide +kernel
theorem d_prog_22_method_2_code_22 : decode prog_22_method_2_code 22 = .ok (.putfield 23, 3) := by decide +kernel
theorem d_prog_22_method_2_code_25 : decode prog_22_method_2_code 25 = .ok (.aload_n 0, 1) := by decide +kernel
theorem d_prog_22_method_2_code_26 : decode prog_22_method_2_code 26 = .ok (.aload 5, 2) := by decide +kernel
theorem d_prog_22_method_2_code_28 : decode prog_22_method_2_code 28 = .ok (.putfield 26, 3) := by decide +kernel
theorem d_prog_22_method_2_code_31 : decode prog_22_method_2_code 31 = .ok (.return_, 1) := by decide +kernel
theorem pn_com_example_bindwell_bindwell_collect_ListChange : plainName "com/example/bindwell/bindwell/collect/ListChange" = true := by first | (simp [plainName, overriddenIn]; done) | decide +kernel
theorem d_prog_22_method_1_code_0 : decode prog_22_method_1_code 0 = .ok (.aload_n 0, 1) := by decide +kernel
theorem d_prog_22_method_1_code_1 : decode prog_22_method_1_code 1 = .ok (.aload_n 1, 1) := by decide +kernel
theorem d_prog_22_method_1_code_2 : decode prog_22_method_1_code 2 = .ok (.aload_n 2, 1) := by decide +kernel
theorem d_prog_22_method_1_code_3 : decode prog_22_method_1_code 3 = .ok (.aload_n 3, 1) := by decide +kernel
theorem d_prog_22_method_1_code_4 : decode prog_22_method_1_code 4 = .ok (.aload 4, 2) := by decide +kernel
theorem d_prog_22_method_1_code_6 : decode prog_22_method_1_code 6 = .ok (.aconst_null, 1) := by decide +kernel
theorem d_prog_22_method_1_code_7 : decode prog_22_method_1_code 7 = .ok (.invokespecial 1, 3) := by decide +kernel
theorem pd_28Ljava2futil2fList3b5bILjava2futil2fList3b5bI5bI29V : parseMethodDescriptor "(Ljava/util/List;[ILjava/util/List;[I[I)V" = some ⟨[(.object "java/util/List"), (.array .int), (.object "java/util/List"), (.array .int), (.array .int)], none⟩ := by decide +kernel
theorem d_prog_22_method_1_code_10 : decode prog_22_method_1_code 10 = .ok (.return_, 1) := by decide +kernel
theorem d_method_6_code_0 : decode method_6_code 0 = .ok (.iload_n 1, 1) := by decide +kernel
theorem d_method_6_code_1 : decode method_6_code 1 = .ok (.iload 5, 2) := by decide +kernel
theorem d_method_6_code_3 : decode method_6_code 3 = .ok (.if_icmp .lt 5, 3) := by decide +kernel
theorem d_method_6_code_8 : decode method_6_code 8 = .ok (.aload_n 0, 1) := by decide +kernel
theorem d_method_6_code_9 : decode method_6_code 9 = .ok (.iload_n 1, 1) := by decide +kernel
theorem d_method_6_code_10 : decode method_6_code 10 = .ok (.iaload, 1) := by decide +kernel
theorem d_method_6_code_11 : decode method_6_code 11 = .ok (.istore 6, 2) := by decide +kernel
theorem d_method_6_code_13 : decode method_6_code 13 = .ok (.iload_n 2, 1) := by decide +kernel
theorem d_method_6_code_14 : decode method_6_code 14 = .ok (.iload_n 1, 1) := by decide +kernel
theorem d_method_6_code_15 : decode method_6_code 15 = .ok (.ishr, 1) := by decide +kernel
theorem d_method_6_code_16 : decode method_6_code 16 = .ok (.iconst 1, 1) := by decide +kernel
theorem d_method_6_code_17 : decode method_6_code 17 = .ok (.iand, 1) := by decide +kernel
theorem d_method_6_code_18 : decode method_6_code 18 = .ok (.ifCond .eq 15, 3) := by decide +kernel
theorem d_method_6_code_33 : decode method_6_code 33 = .ok (.iload_n 1, 1) := by decide +kernel
theorem d_method_6_code_34 : decode method_6_code 34 = .ok (.iload_n 2, 1) := by decide +kernel
theorem d_method_6_code_35 : decode method_6_code 35 = .ok (.iconst 1, 1) := by decide +kernel
theorem d_method_6_code_36 : decode method_6_code 36 = .ok (.iload_n 1, 1) := by decide +kernel
theorem d_method_6_code_37 : decode method_6_code 37 = .ok (.ishl, 1) := by decide +kernel
theorem d_method_6_code_38 : decode method_6_code 38 = .ok (.iconst 1, 1) := by decide +kernel
theorem d_method_6_code_39 : decode method_6_code 39 = .ok (.isub, 1) := by decide +kernel
theorem d_method_6_code_40 : decode method_6_code 40 = .ok (.iand, 1) := by decide +kernel
theorem d_method_6_code_41 : decode method_6_code 41 = .ok (.invokestatic 9, 3) := by decide +kernel
theorem pd_28I29I : parseMethodDescriptor "(I)I" = some ⟨[.int], some .int⟩ := by decide +kernel
theorem d_method_6_code_44 : decode method_6_code 44 = .ok (.isub, 1) := by decide +kernel
theorem d_method_6_code_45 : decode method_6_code 45 = .ok (.istore 7, 2) := by decide +kernel
theorem d_method_6_code_47 : decode method_6_code 47 = .ok (.iload 6, 2) := by decide +kernel
theorem d_method_6_code_49 : decode method_6_code 49 = .ok (.iload 4, 2) := by decide +kernel
theorem d_method_6_code_51 : decode method_6_code 51 = .ok (.isub, 1) := by decide +kernel
theorem d_method_6_code_52 : decode method_6_code 52 = .ok (.istore 8, 2) := by decide +kernel
theorem d_method_6_code_54 : decode method_6_code 54 = .ok (.iload 8, 2) := by decide +kernel
theorem d_method_6_code_56 : decode method_6_code 56 = .ok (.ifCond .lt 10, 3) := by decide +kernel
theorem d_method_6_code_66 : decode method_6_code 66 = .ok (.iconst 0, 1) := by decide +kernel
theorem d_method_6_code_67 : decode method_6_code 67 = .ok (.ireturn, 1) := by decide +kernel
theorem d_method_6_code_59 : decode method_6_code 59 = .ok (.iload 8, 2) := by decide +kernel
theorem d_method_6_code_61 : decode method_6_code 61 = .ok (.bipush 7, 2) := by decide +kernel
theorem d_method_6_code_63 : decode method_6_code 63 = .ok (.if_icmp .le 5, 3) := by decide +kernel
theorem d_method_6_code_68 : decode method_6_code 68 = .ok (.iload_n 3, 1) := by decide +kernel
theorem d_method_6_code_69 : decode method_6_code 69 = .ok (.iload 8, 2) := by decide +kernel
theorem d_method_6_code_71 : decode method_6_code 71 = .ok (.ishr, 1) := by decide +kernel
theorem d_method_6_code_72 : decode method_6_code 72 = .ok (.iconst 1, 1) := by decide +kernel
theorem d_method_6_code_73 : decode method_6_code 73 = .ok (.iand, 1) := by decide +kernel
theorem d_method_6_code_74 : decode method_6_code 74 = .ok (.ifCond .eq 5, 3) := by decide +kernel
theorem d_method_6_code_79 : decode method_6_code 79 = .ok (.iload 8, 2) := by decide +kernel
theorem d_method_6_code_81 : decode method_6_code 81 = .ok (.iload_n 3, 1) := by decide +kernel
theorem d_method_6_code_82 : decode method_6_code 82 = .ok (.iconst 1, 1) := by decide +kernel
theorem d_method_6_code_83 : decode method_6_code 83 = .ok (.iload 8, 2) := by decide +kernel
theorem d_method_6_code_85 : decode method_6_code 85 = .ok (.ishl, 1) := by decide +kernel
theorem d_method_6_code_86 : decode method_6_code 86 = .ok (.iconst 1, 1) := by decide +kernel
theorem d_method_6_code_87 : decode method_6_code 87 = .ok (.isub, 1) := by decide +kernel
theorem d_method_6_code_88 : decode method_6_code 88 = .ok (.iand, 1) := by decide +kernel
theorem d_method_6_code_89 : decode method_6_code 89 = .ok (.invokestatic 9, 3) := by decide +kernel
theorem d_method_6_code_92 : decode method_6_code 92 = .ok (.isub, 1) := by decide +kernel
theorem d_method_6_code_93 : decode method_6_code 93 = .ok (.iload 7, 2) := by decide +kernel
theorem d_method_6_code_95 : decode method_6_code 95 = .ok (.if_icmp .ne 7, 3) := by decide +kernel
theorem d_method_6_code_98 : decode method_6_code 98 = .ok (.iconst 1, 1) := by decide +kernel
theorem d_method_6_code_99 : decode method_6_code 99 = .ok (.goto 4, 3) := by decide +kernel
theorem d_method_6_code_103 : decode method_6_code 103 = .ok (.ireturn, 1) := by decide +kernel
theorem d_method_6_code_102 : decode method_6_code 102 = .ok (.iconst 0, 1) := by decide +kernel
theorem d_method_6_code_77 : decode method_6_code 77 = .ok (.iconst 0, 1) := by decide +kernel
theorem d_method_6_code_78 : decode method_6_code 78 = .ok (.ireturn, 1) := by decide +kernel
theorem d_method_6_code_21 : decode method_6_code 21 = .ok (.iload 6, 2) := by decide +kernel
theorem d_method_6_code_23 : decode method_6_code 23 = .ok (.iconst (-1), 1) := by decide +kernel
theorem d_method_6_code_24 : decode method_6_code 24 = .ok (.if_icmp .ne 7, 3) := by decide +kernel
theorem d_method_6_code_27 : decode method_6_code 27 = .ok (.iconst 1, 1) := by decide +kernel
theorem d_method_6_code_28 : decode method_6_code 28 = .ok (.goto 4, 3) := by decide +kernel
theorem d_method_6_code_32 : decode method_6_code 32 = .ok (.ireturn, 1) := by decide +kernel
theorem d_method_6_code_31 : decode method_6_code 31 = .ok (.iconst 0, 1) := by decide +kernel
theorem d_method_6_code_6 : decode method_6_code 6 = .ok (.iconst 1, 1) := by decide +kernel
theorem d_method_6_code_7 : decode method_6_code 7 = .ok (.ireturn, 1) := by decide +kernel
theorem d_prog_22_method_18_code_0 : decode prog_22_method_18_code 0 = .ok (.iload_n 2, 1) := by decide +kernel
theorem d_prog_22_method_18_code_1 : decode prog_22_method_18_code 1 = .ok (.iload_n 1, 1) := by decide +kernel
theorem d_prog_22_method_18_code_2 : decode prog_22_method_18_code 2 = .ok (.isub, 1) := by decide +kernel
theorem d_prog_22_method_18_code_3 : decode prog_22_method_18_code 3 = .ok (.newarray .int, 2) := by decide +kernel
theorem d_prog_22_method_18_code_5 : decode prog_22_method_18_code 5 = .ok (.astore_n 3, 1) := by decide +kernel
theorem d_prog_22_method_18_code_6 : decode prog_22_method_18_code 6 = .ok (.iconst 0, 1) := by decide +kernel
theorem d_prog_22_method_18_code_7 : decode prog_22_method_18_code 7 = .ok (.istore 4, 2) := by decide +kernel
theorem d_prog_22_method_18_code_9 : decode prog_22_method_18_code 9 = .ok (.iconst 0, 1) := by decide +kernel
theorem d_prog_22_method_18_code_10 : decode prog_22_method_18_code 10 = .ok (.istore 5, 2) := by decide +kernel
theorem d_prog_22_method_18_code_12 : decode prog_22_method_18_code 12 = .ok (.iload_n 1, 1) := by decide +kernel
theorem d_prog_22_method_18_code_13 : decode prog_22_method_18_code 13 = .ok (.istore 6, 2) := by decide +kernel
theorem d_prog_22_method_18_code_15 : decode prog_22_method_18_code 15 = .ok (.iload_n 1, 1) := by decide +kernel
theorem d_prog_22_method_18_code_16 : decode prog_22_method_18_code 16 = .ok (.istore 7, 2) := by decide +kernel
theorem d_prog_22_method_18_code_18 : decode prog_22_method_18_code 18 = .ok (.iload 7, 2) := by decide +kernel
theorem d_prog_22_method_18_code_20 : decode prog_22_method_18_code 20 = .ok (.iload_n 2, 1) := by decide +kernel
theorem d_prog_22_method_18_code_21 : decode prog_22_method_18_code 21 = .ok (.if_icmp .ge 103, 3) := by decide +kernel
theorem d_prog_22_method_18_code_124 : decode prog_22_method_18_code 124 = .ok (.aload_n 3, 1) := by decide +kernel
theorem d_prog_22_method_18_code_125 : decode prog_22_method_18_code 125 = .ok (.areturn, 1) := by decide +kernel
theorem d_prog_22_method_18_code_107 : decode prog_22_method_18_code 107 = .ok (.aload_n 3, 1) := by decide +kernel
theorem d_prog_22_method_18_code_108 : decode prog_22_method_18_code 108 = .ok (.iload 7, 2) := by decide +kernel
theorem d_prog_22_method_18_code_110 : decode prog_22_method_18_code 110 = .ok (.iload_n 1, 1) := by decide +kernel
theorem d_prog_22_method_18_code_111 : decode prog_22_method_18_code 111 = .ok (.isub, 1) := by decide +kernel
theorem d_prog_22_method_18_code_112 : decode prog_22_method_18_code 112 = .ok (.iload 6, 2) := by decide +kernel
theorem d_prog_22_method_18_code_114 : decode prog_22_method_18_code 114 = .ok (.iinc 6 1, 3) := by decide +kernel
theorem d_prog_22_method_18_code_117 : decode prog_22_method_18_code 117 = .ok (.iastore, 1) := by decide +kernel
theorem d_prog_22_method_18_code_118 : decode prog_22_method_18_code 118 = .ok (.iinc 7 1, 3) := by decide +kernel
theorem d_prog_22_method_18_code_121 : decode prog_22_method_18_code 121 = .ok (.goto (-103), 3) := by decide +kernel
theorem d_prog_22_method_18_code_76 : decode prog_22_method_18_code 76 = .ok (.iload 5, 2) := by decide +kernel
theorem d_prog_22_method_18_code_78 : decode prog_22_method_18_code 78 = .ok (.aload_n 0, 1) := by decide +kernel
theorem d_prog_22_method_18_code_79 : decode prog_22_method_18_code 79 = .ok (.getfield 23, 3) := by decide +kernel
theorem d_prog_22_method_18_code_82 : decode prog_22_method_18_code 82 = .ok (.arraylength, 1) := by decide +kernel
theorem d_prog_22_method_18_code_83 : decode prog_22_method_18_code 83 = .ok (.if_icmp .ge 24, 3) := by decide +kernel
theorem d_prog_22_method_18_code_86 : decode prog_22_method_18_code 86 = .ok (.aload_n 0, 1) := by decide +kernel
theorem d_prog_22_method_18_code_87 : decode prog_22_method_18_code 87 = .ok (.getfield 23, 3) := by decide +kernel
theorem d_prog_22_method_18_code_90 : decode prog_22_method_18_code 90 = .ok (.iload 5, 2) := by decide +kernel
theorem d_prog_22_method_18_code_92 : decode prog_22_method_18_code 92 = .ok (.iaload, 1) := by decide +kernel
theorem d_prog_22_method_18_code_93 : decode prog_22_method_18_code 93 = .ok (.iload 6, 2) := by decide +kernel
theorem d_prog_22_method_18_code_95 : decode prog_22_method_18_code 95 = .ok (.if_icmp .ne 12, 3) := by decide +kernel
theorem d_prog_22_method_18_code_98 : decode prog_22_method_18_code 98 = .ok (.iinc 5 1, 3) := by decide +kernel
theorem d_prog_22_method_18_code_101 : decode prog_22_method_18_code 101 = .ok (.iinc 6 1, 3) := by decide +kernel
theorem d_prog_22_method_18_code_104 : decode prog_22_method_18_code 104 = .ok (.goto (-28), 3) := by decide +kernel
theorem d_prog_22_method_18_code_24 : decode prog_22_method_18_code 24 = .ok (.iload 4, 2) := by decide +kernel
theorem d_prog_22_method_18_code_26 : decode prog_22_method_18_code 26 = .ok (.aload_n 0, 1) := by decide +kernel
theorem d_prog_22_method_18_code_27 : decode prog_22_method_18_code 27 = .ok (.getfield 16, 3) := by decide +kernel
theorem d_prog_22_method_18_code_30 : decode prog_22_method_18_code 30 = .ok (.arraylength, 1) := by decide +kernel
theorem d_prog_22_method_18_code_31 : decode prog_22_method_18_code 31 = .ok (.if_icmp .ge 45, 3) := by decide +kernel
theorem d_prog_22_method_18_code_34 : decode prog_22_method_18_code 34 = .ok (.aload_n 0, 1) := by decide +kernel
theorem d_prog_22_method_18_code_35 : decode prog_22_method_18_code 35 = .ok (.getfield 16, 3) := by decide +kernel
theorem d_prog_22_method_18_code_38 : decode prog_22_method_18_code 38 = .ok (.iload 4, 2) := by decide +kernel
theorem d_prog_22_method_18_code_40 : decode prog_22_method_18_code 40 = .ok (.iaload, 1) := by decide +kernel
theorem d_prog_22_method_18_code_41 : decode prog_22_method_18_code 41 = .ok (.iload 7, 2) := by decide +kernel
theorem d_prog_22_method_18_code_43 : decode prog_22_method_18_code 43 = .ok (.if_icmp .ne 33, 3) := by decide +kernel
theorem d_prog_22_method_18_code_46 : decode prog_22_method_18_code 46 = .ok (.aload_n 3, 1) := by decide +kernel
theorem d_prog_22_method_18_code_47 : decode prog_22_method_18_code 47 = .ok (.iload 7, 2) := by decide +kernel
theorem d_prog_22_method_18_code_49 : decode prog_22_method_18_code 49 = .ok (.iload_n 1, 1) := by decide +kernel
theorem d_prog_22_method_18_code_50 : decode prog_22_method_18_code 50 = .ok (.isub, 1) := by decide +kernel
theorem d_prog_22_method_18_code_51 : decode prog_22_method_18_code 51 = .ok (.aload_n 0, 1) := by decide +kernel
theorem d_prog_22_method_18_code_52 : decode prog_22_method_18_code 52 = .ok (.getfield 26, 3) := by decide +kernel
theorem d_prog_22_method_18_code_55 : decode prog_22_method_18_code 55 = .ok (.ifnonnull 7, 3) := by decide +kernel
theorem d_prog_22_method_18_code_58 : decode prog_22_method_18_code 58 = .ok (.iconst (-1), 1) := by decide +kernel
theorem d_prog_22_method_18_code_59 : decode prog_22_method_18_code 59 = .ok (.goto 10, 3) := by decide +kernel
theorem d_prog_22_method_18_code_69 : decode prog_22_method_18_code 69 = .ok (.iastore, 1) := by decide +kernel
theorem d_prog_22_method_18_code_70 : decode prog_22_method_18_code 70 = .ok (.iinc 4 1, 3) := by decide +kernel
theorem d_prog_22_method_18_code_73 : decode prog_22_method_18_code 73 = .ok (.goto 45, 3) := by decide +kernel
theorem pd_285bIII29V : parseMethodDescriptor "([III)V" = some ⟨[(.array .int), .int, .int], none⟩ := by decide +kernel
theorem pd_28I29Ljava2futil2fArrayList3b : parseMethodDescriptor "(I)Ljava/util/ArrayList;" = some ⟨[.int], some (.object "java/util/ArrayList")⟩ := by decide +kernel
theorem pd_28Ljava2futil2fList3b5bILjava2futil2fList3b5bI29V : parseMethodDescriptor "(Ljava/util/List;[ILjava/util/List;[I)V" = some ⟨[(.object "java/util/List"), (.array .int), (.object "java/util/List"), (.array .int)], none⟩ := by decide +kernel
theorem pd_28II295bI : parseMethodDescriptor "(II)[I" = some ⟨[.int, .int], some (.array .int)⟩ := by decide +kernel
theorem pd_285bIIIIII29Z : parseMethodDescriptor "([IIIIII)Z" = some ⟨[(.array .int), .int, .int, .int, .int, .int], some .boolean⟩ := by decide +kernel
theorem ef_rmAC (x0 : Addr) (m : MethodId) : entryFrame m #[(.ref x0)] 1 = mkF m 0 #[.val (.ref x0)] [] := by first | (simp [entryFrame, mkF, argsToLocals, Value.category]; done) | rfl
set_option maxRecDepth 65536 in
set_option maxHeartbeats 40000000 in
theorem rmAC (l : Launch) (Z : State) (a0 : Array Value) (hw : ∀ d ∈ tables_1, d.before a0 Z = true) (b1 : Addr) (h0 : Heap) :
    Does l Z (⟨"java/util/AbstractCollection", "<init>", "()V"⟩ : MethodName) jdk_22_method_1_code 1 none [] ({ frames := 1, cells := 0, slots := 0, locals := 12 } : Room) #[(.ref b1)] h0 (Val none h0) := by
  refine Does.intro (plainFor_of_name pn_java_util_AbstractCollection) (ef_rmAC b1) ?_
  intro p e s m below meth c s₁ hx hby hml hown hnm hret hlk hZ e0 X0
  show Go p e below _ s₁ (mkF m 0 #[.val (.ref b1)] [])
  refine Go.st (fun _ h => XS.aloadN X0.here hx rfl (hb hby d_jdk_22_method_1_code_0) rfl rfl h) ?_
  show Go p e below _ s₁ (mkF m 1 #[.val (.ref b1)] [(.ref b1)])
  obtain ⟨T1, X1, e1, st1⟩ := initO X0 hx hZ hown (hw _ (List.mem_of_getElem? (i := 31) rfl)) (hw _ (List.mem_of_getElem? (i := 32) rfl)) (hw _ (List.mem_of_getElem? (i := 33) rfl)) e0 (g := (mkF m 1 #[.val (.ref b1)] [(.ref b1)])) rfl (by rw [hml]; rfl) rfl (hb hby d_jdk_22_method_1_code_1) (by decide) (W := 0) (by show 2 * 0 + _ ≤ _; exact Nat.le_of_eq rfl) (by decide)
  refine Go.st st1 ?_
  show Go p e below _ T1 (mkF m 4 #[.val (.ref b1)] [])
  refine Go.retV X1 hx hlk hret (hb hby d_jdk_22_method_1_code_4) (by decide) (by decide) ?_
  exact ⟨rfl, rfl, e1⟩
theorem ef_rmABL (x0 : Addr) (m : MethodId) : entryFrame m #[(.ref x0)] 1 = mkF m 0 #[.val (.ref x0)] [] := by first | (simp [entryFrame, mkF, argsToLocals, Value.category]; done) | rfl
set_option maxRecDepth 65536 in
set_option maxHeartbeats 40000000 in
theorem rmABL (l : Launch) (Z : State) (a0 : Array Value) (hw : ∀ d ∈ tables_1, d.before a0 Z = true) (b1 : Addr) (h0 : Heap) (n0 : Nat) (Z0 : n0 ≤ h0.size) (F_e : Fld Z h0 b1 "java/util/ArrayList" "elementData" "[Ljava/lang/Object;" .null) (F_s : Fld Z h0 b1 "java/util/ArrayList" "size" "I" (.int (0 : Int32))) (F_m : Fld Z h0 b1 "java/util/AbstractList" "modCount" "I" (.int (0 : Int32))) (E1 : Exa Z h0 b1 "java/util/ArrayList") (g_b1 : n0 ≤ b1) :
    Does l Z (⟨"java/util/AbstractList", "<init>", "()V"⟩ : MethodName) jdk_39_method_1_code 1 none [] ({ frames := 2, cells := 0, slots := 0, locals := 24 } : Room) #[(.ref b1)] h0 (fun v h L => v = none ∧ Fr n0 L ∧ Keep h0 h [b1] ∧ Fld Z h b1 "java/util/ArrayList" "elementData" "[Ljava/lang/Object;" .null ∧ Fld Z h b1 "java/util/ArrayList" "size" "I" (.int (0 : Int32)) ∧ Fld Z h b1 "java/util/AbstractList" "modCount" "I" (.int (0 : Int32))) := by
  refine Does.intro (plainFor_of_name pn_java_util_AbstractList) (ef_rmABL b1) ?_
  intro p e s m below meth c s₁ hx hby hml hown hnm hret hlk hZ e0 X0
  show Go p e below _ s₁ (mkF m 0 #[.val (.ref b1)] [])
  have N0 := Fr.nil n0
  refine Go.st (fun _ h => XS.aloadN X0.here hx rfl (hb hby d_jdk_39_method_1_code_0) rfl rfl h) ?_
  show Go p e below _ s₁ (mkF m 1 #[.val (.ref b1)] [(.ref b1)])
  obtain ⟨T1, X1, e1, st1⟩ := own_still rfl rfl (Does.special (y := (⟨"java/util/AbstractCollection", "<init>", "()V"⟩ : MethodName)) (g := (mkF m 1 #[.val (.ref b1)] [(.ref b1)])) (a := b1) (rmAC l Z a0 hw b1 h0) X0 hx hZ hown e0 rfl (hw _ (List.mem_of_getElem? (i := 25) rfl)) (hw _ (List.mem_of_getElem? (i := 26) rfl)) (hw _ (List.mem_of_getElem? (i := 29) rfl)) (hw _ (List.mem_of_getElem? (i := 30) rfl)) (by decide) rfl (by rw [hml]; rfl) (argsL := []) (rest := []) (lenOf pd_2829V rfl) rfl (hb hby d_jdk_39_method_1_code_1) (W := 0) (by show 2 * 0 + _ ≤ _; exact Nat.le_of_eq rfl) (by decide) (by decide) (by decide) (by decide))
  refine Go.st st1 ?_
  show Go p e below _ T1 (mkF m 4 #[.val (.ref b1)] [])
  refine Go.st (fun _ h => XS.aloadN X1.here hx rfl (hb hby d_jdk_39_method_1_code_4) rfl rfl h) ?_
  show Go p e below _ T1 (mkF m 5 #[.val (.ref b1)] [(.ref b1)])
  refine Go.st (fun _ h => XT.iconstV X1.here hx rfl (0 : Int32) (hb hby d_jdk_39_method_1_code_5) (by decide) h) ?_
  show Go p e below _ T1 (mkF m 6 #[.val (.ref b1)] [(.int (0 : Int32)), (.ref b1)])
  obtain ⟨T2, h2, X2, e2, W2, st2⟩ := putF X1 hx hZ hown (host := "") (Or.inl (hw _ (List.mem_of_getElem? (i := 34) rfl))) Via.refl e1 F_m E1 (Or.inl (hw _ (List.mem_of_getElem? (i := 35) rfl))) (hw _ (List.mem_of_getElem? (i := 14) rfl)) (ty := .int) (by decide) rfl rfl (g := (mkF m 6 #[.val (.ref b1)] [(.int (0 : Int32)), (.ref b1)])) rfl rfl (hb hby d_jdk_39_method_1_code_6)
  have N2 := Fr.snoc X2 N0 g_b1
  have E2_0 := E1.wr W2
  have F2_1 := F_e.other W2 (Or.inr (slot_ne (Or.inl (hw _ (List.mem_of_getElem? (i := 38) rfl))) (Or.inl (hw _ (List.mem_of_getElem? (i := 35) rfl))) (by decide) (t := (.array (.object "java/lang/Object"))) (by decide) (t' := .int) (by decide)))
  have F2_2 := F_m.same W2
  have F2_3 := F_s.other W2 (Or.inr (slot_ne (Or.inl (hw _ (List.mem_of_getElem? (i := 54) rfl))) (Or.inl (hw _ (List.mem_of_getElem? (i := 35) rfl))) (by decide) (t := .int) (by decide) (t' := .int) (by decide)))
  have K2 := (Keep.refl _ [b1]).wr W2 (Or.inl (List.mem_of_getElem? (i := 0) rfl))
  refine Go.st st2 ?_
  show Go p e below _ T2 (mkF m 9 #[.val (.ref b1)] [])
  refine Go.retV X2 hx hlk hret (hb hby d_jdk_39_method_1_code_9) (by decide) (by decide) ?_
  rw [e2]
  exact ⟨rfl, N2, K2, F2_1, F2_3, F2_2⟩
theorem ef_rmALI (x0 : Addr) (m : MethodId) : entryFrame m #[(.ref x0)] 1 = mkF m 0 #[.val (.ref x0)] [] := by first | (simp [entryFrame, mkF, argsToLocals, Value.category]; done) | rfl
set_option maxRecDepth 65536 in
set_option maxHeartbeats 40000000 in
theorem rmALI (l : Launch) (Z : State) (a0 : Array Value) (hw : ∀ d ∈ tables_1, d.before a0 Z = true) (b1 d0 : Addr) (h0 : Heap) (n0 : Nat) (Z0 : n0 ≤ h0.size) (S_D : Sta Z h0 "java/util/ArrayList" "DEFAULTCAPACITY_EMPTY_ELEMENTDATA" "[Ljava/lang/Object;" (.ref d0)) (F_e : Fld Z h0 b1 "java/util/ArrayList" "elementData" "[Ljava/lang/Object;" .null) (F_s : Fld Z h0 b1 "java/util/ArrayList" "size" "I" (.int (0 : Int32))) (F_m : Fld Z h0 b1 "java/util/AbstractList" "modCount" "I" (.int (0 : Int32))) (E1 : Exa Z h0 b1 "java/util/ArrayList") (g_b1 : n0 ≤ b1) :
    Does l Z (⟨"java/util/ArrayList", "<init>", "()V"⟩ : MethodName) jdk_38_method_2_code 1 none [] ({ frames := 3, cells := 0, slots := 0, locals := 36 } : Room) #[(.ref b1)] h0 (fun v h L => v = none ∧ Fr n0 L ∧ Keep h0 h [b1] ∧ Fld Z h b1 "java/util/ArrayList" "elementData" "[Ljava/lang/Object;" (.ref d0) ∧ Fld Z h b1 "java/util/ArrayList" "size" "I" (.int (0 : Int32)) ∧ Fld Z h b1 "java/util/AbstractList" "modCount" "I" (.int (0 : Int32))) := by
  refine Does.intro (plainFor_of_name pn_java_util_ArrayList) (ef_rmALI b1) ?_
  intro p e s m below meth c s₁ hx hby hml hown hnm hret hlk hZ e0 X0
  show Go p e below _ s₁ (mkF m 0 #[.val (.ref b1)] [])
  have N0 := Fr.nil n0
  refine Go.st (fun _ h => XS.aloadN X0.here hx rfl (hb hby d_jdk_38_method_2_code_0) rfl rfl h) ?_
  show Go p e below _ s₁ (mkF m 1 #[.val (.ref b1)] [(.ref b1)])
  obtain ⟨_, T1, L1, X1, ⟨rfl, Nc1, Kc1, Fc1_0, Fc1_1, Fc1_2⟩, st1⟩ := Does.special (y := (⟨"java/util/AbstractList", "<init>", "()V"⟩ : MethodName)) (g := (mkF m 1 #[.val (.ref b1)] [(.ref b1)])) (a := b1) (rmABL l Z a0 hw b1 h0 n0 Z0 F_e F_s F_m E1 g_b1) X0 hx hZ hown e0 rfl (hw _ (List.mem_of_getElem? (i := 19) rfl)) (hw _ (List.mem_of_getElem? (i := 20) rfl)) (hw _ (List.mem_of_getElem? (i := 23) rfl)) (hw _ (List.mem_of_getElem? (i := 24) rfl)) (by decide) rfl (by rw [hml]; rfl) (argsL := []) (rest := []) (lenOf pd_2829V rfl) rfl (hb hby d_jdk_38_method_2_code_1) (W := 0) (by show 2 * 0 + _ ≤ _; exact Nat.le_of_eq rfl) (by decide) (by decide) (by decide) (by decide)
  have E1_0 := E1.keep Kc1
  have K1 := (Keep.refl _ [b1]).trans Kc1 (allS (Or.inl (List.mem_of_getElem? (i := 0) rfl)) all0)
  have N1 := Fr.app N0 Nc1
  refine Go.st st1 ?_
  show Go p e below _ T1 (mkF m 4 #[.val (.ref b1)] [])
  refine Go.st (fun _ h => XS.aloadN X1.here hx rfl (hb hby d_jdk_38_method_2_code_4) rfl rfl h) ?_
  show Go p e below _ T1 (mkF m 5 #[.val (.ref b1)] [(.ref b1)])
  obtain ⟨T2, X2, e2, st2⟩ := getS2 X1 hx hZ hown (host := "") (Or.inl (hw _ (List.mem_of_getElem? (i := 36) rfl))) Via.refl rfl (own_stk S_D K1 (nsS (own_nsE E1) ns0)) (g := (mkF m 5 #[.val (.ref b1)] [(.ref b1)])) rfl (hb hby d_jdk_38_method_2_code_5)
  refine Go.st st2 ?_
  show Go p e below _ T2 (mkF m 8 #[.val (.ref b1)] [(.ref d0), (.ref b1)])
  obtain ⟨T3, h3, X3, e3, W3, st3⟩ := putF X2 hx hZ hown (host := "") (Or.inl (hw _ (List.mem_of_getElem? (i := 37) rfl))) Via.refl e2 Fc1_0 E1_0 (Or.inl (hw _ (List.mem_of_getElem? (i := 38) rfl))) (hw _ (List.mem_of_getElem? (i := 14) rfl)) (ty := (.array (.object "java/lang/Object"))) (by decide) rfl rfl (g := (mkF m 8 #[.val (.ref b1)] [(.ref d0), (.ref b1)])) rfl rfl (hb hby d_jdk_38_method_2_code_8)
  have N3 := Fr.snoc X3 N1 g_b1
  have E3_0 := E1_0.wr W3
  have F3_1 := Fc1_0.same W3
  have F3_2 := Fc1_2.other W3 (Or.inr (slot_ne (Or.inl (hw _ (List.mem_of_getElem? (i := 35) rfl))) (Or.inl (hw _ (List.mem_of_getElem? (i := 38) rfl))) (by decide) (t := .int) (by decide) (t' := (.array (.object "java/lang/Object"))) (by decide)))
  have F3_3 := Fc1_1.other W3 (Or.inr (slot_ne (Or.inl (hw _ (List.mem_of_getElem? (i := 54) rfl))) (Or.inl (hw _ (List.mem_of_getElem? (i := 38) rfl))) (by decide) (t := .int) (by decide) (t' := (.array (.object "java/lang/Object"))) (by decide)))
  have K3 := K1.wr W3 (Or.inl (List.mem_of_getElem? (i := 0) rfl))
  refine Go.st st3 ?_
  show Go p e below _ T3 (mkF m 11 #[.val (.ref b1)] [])
  refine Go.retV X3 hx hlk hret (hb hby d_jdk_38_method_2_code_11) (by decide) (by decide) ?_
  rw [e3]
  exact ⟨rfl, N3, K3, F3_1, F3_3, F3_2⟩
theorem ef_rmMax (x0 : Int32) (x1 : Int32) (m : MethodId) : entryFrame m #[(.int x0), (.int x1)] 2 = mkF m 0 #[.val (.int x0), .val (.int x1)] [] := by first | (simp [entryFrame, mkF, argsToLocals, Value.category]; done) | rfl
set_option maxRecDepth 65536 in
set_option maxHeartbeats 40000000 in
theorem rmMax (l : Launch) (Z : State) (a0 : Array Value) (hw : ∀ d ∈ tables_1, d.before a0 Z = true) (h0 : Heap) :
    Does l Z (⟨"java/lang/Math", "max", "(II)I"⟩ : MethodName) jdk_29_method_65_code 2 (some .int) [] ({ frames := 0, cells := 0, slots := 0, locals := 0 } : Room) #[(.int (10 : Int32)), (.int ((0 : Int32) + (1 : Int32)))] h0 (Val (some (.int (10 : Int32))) h0) := by
  refine Does.intro (by decide +kernel) (ef_rmMax (10 : Int32) ((0 : Int32) + (1 : Int32))) ?_
  intro p e s m below meth c s₁ hx hby hml hown hnm hret hlk hZ e0 X0
  show Go p e below _ s₁ (mkF m 0 #[.val (.int (10 : Int32)), .val (.int ((0 : Int32) + (1 : Int32)))] [])
  refine Go.st (fun _ h => XS.iloadN X0.here hx rfl (hb hby d_jdk_29_method_65_code_0) rfl h) ?_
  show Go p e below _ s₁ (mkF m 1 #[.val (.int (10 : Int32)), .val (.int ((0 : Int32) + (1 : Int32)))] [(.int (10 : Int32))])
  refine Go.st (fun _ h => XS.iloadN X0.here hx rfl (hb hby d_jdk_29_method_65_code_1) rfl h) ?_
  show Go p e below _ s₁ (mkF m 2 #[.val (.int (10 : Int32)), .val (.int ((0 : Int32) + (1 : Int32)))] [(.int ((0 : Int32) + (1 : Int32))), (.int (10 : Int32))])
  refine Go.st (fun _ h => XS.icmpNo X0.here hx rfl (hb hby d_jdk_29_method_65_code_2) rfl (by decide) h) ?_
  show Go p e below _ s₁ (mkF m 5 #[.val (.int (10 : Int32)), .val (.int ((0 : Int32) + (1 : Int32)))] [])
  refine Go.st (fun _ h => XS.iloadN X0.here hx rfl (hb hby d_jdk_29_method_65_code_5) rfl h) ?_
  show Go p e below _ s₁ (mkF m 6 #[.val (.int (10 : Int32)), .val (.int ((0 : Int32) + (1 : Int32)))] [(.int (10 : Int32))])
  refine Go.st (fun _ h => XS.goto X0.here hx rfl (pc0 := 6) (pc' := 10) rfl (hb hby d_jdk_29_method_65_code_6) (by decide) (by decide) h) ?_
  show Go p e below _ s₁ (mkF m 10 #[.val (.int (10 : Int32)), .val (.int ((0 : Int32) + (1 : Int32)))] [(.int (10 : Int32))])
  refine Go.retI X0 hx hlk hret (hb hby d_jdk_29_method_65_code_10) (by decide) (by decide) ?_
  exact ⟨rfl, rfl, e0⟩
theorem ef_rmGrow1 (x0 : Addr) (x1 : Int32) (m : MethodId) : entryFrame m #[(.ref x0), (.int x1)] 4 = mkF m 0 #[.val (.ref x0), .val (.int x1), .unset, .unset] [] := by first | (simp [entryFrame, mkF, argsToLocals, Value.category]; done) | rfl
set_option maxRecDepth 65536 in
set_option maxHeartbeats 40000000 in
theorem rmGrow1 (l : Launch) (Z : State) (a0 : Array Value) (hw : ∀ d ∈ tables_1, d.before a0 Z = true) (b1 d0 : Addr) (kd : ClassId) (mc : Int32) (h0 : Heap) (n0 : Nat) (Z0 : n0 ≤ h0.size) (ne_d0 : d0 ≠ b1) (S_D : Sta Z h0 "java/util/ArrayList" "DEFAULTCAPACITY_EMPTY_ELEMENTDATA" "[Ljava/lang/Object;" (.ref d0)) (B_d0 : Arv Z h0 d0 kd (.object "java/lang/Object") (0 : Int32) [] .null) (F_e : Fld Z h0 b1 "java/util/ArrayList" "elementData" "[Ljava/lang/Object;" (.ref d0)) (F_s : Fld Z h0 b1 "java/util/ArrayList" "size" "I" (.int (0 : Int32))) (F_m : Fld Z h0 b1 "java/util/AbstractList" "modCount" "I" (.int mc)) (E1 : Exa Z h0 b1 "java/util/ArrayList") (g_b1 : n0 ≤ b1) :
    Does l Z (⟨"java/util/ArrayList", "grow", "(I)[Ljava/lang/Object;"⟩ : MethodName) jdk_38_method_6_code 4 (some (.array (.object "java/lang/Object"))) [] ({ frames := 1, cells := 1, slots := 10, locals := 14 } : Room) #[(.ref b1), (.int ((0 : Int32) + (1 : Int32)))] h0 (fun v h L => ∃ r kk, v = some (.ref r) ∧ Fr n0 L ∧ Keep h0 h [b1] ∧ h0.size ≤ r ∧ Arv Z h r kk (.object "java/lang/Object") (10 : Int32) [.null, .null, .null, .null, .null, .null, .null, .null, .null, .null] .null ∧ Ovr Z kk "java/lang/Object" ∧ Fld Z h b1 "java/util/ArrayList" "elementData" "[Ljava/lang/Object;" (.ref r) ∧ Fld Z h b1 "java/util/ArrayList" "size" "I" (.int (0 : Int32)) ∧ Fld Z h b1 "java/util/AbstractList" "modCount" "I" (.int mc)) := by
  refine Does.intro (plainFor_of_name pn_java_util_ArrayList) (ef_rmGrow1 b1 ((0 : Int32) + (1 : Int32))) ?_
  intro p e s m below meth c s₁ hx hby hml hown hnm hret hlk hZ e0 X0
  show Go p e below _ s₁ (mkF m 0 #[.val (.ref b1), .val (.int ((0 : Int32) + (1 : Int32))), .unset, .unset] [])
  have N0 := Fr.nil n0
  refine Go.st (fun _ h => XS.aloadN X0.here hx rfl (hb hby d_jdk_38_method_6_code_0) rfl rfl h) ?_
  show Go p e below _ s₁ (mkF m 1 #[.val (.ref b1), .val (.int ((0 : Int32) + (1 : Int32))), .unset, .unset] [(.ref b1)])
  obtain ⟨T1, X1, e1, st1⟩ := getF X0 hx hZ hown (host := "") (Or.inl (hw _ (List.mem_of_getElem? (i := 37) rfl))) Via.refl e0 F_e (g := (mkF m 1 #[.val (.ref b1), .val (.int ((0 : Int32) + (1 : Int32))), .unset, .unset] [(.ref b1)])) rfl rfl (hb hby d_jdk_38_method_6_code_1)
  refine Go.st st1 ?_
  show Go p e below _ T1 (mkF m 4 #[.val (.ref b1), .val (.int ((0 : Int32) + (1 : Int32))), .unset, .unset] [(.ref d0)])
  refine Go.st (own_len X1 hx hZ e1 B_d0 rfl rfl (hb hby d_jdk_38_method_6_code_4)) ?_
  show Go p e below _ T1 (mkF m 5 #[.val (.ref b1), .val (.int ((0 : Int32) + (1 : Int32))), .unset, .unset] [(.int (0 : Int32))])
  refine Go.st (fun _ h => XS.istoreN X1.here hx rfl (hb hby d_jdk_38_method_6_code_5) rfl (l' := #[.val (.ref b1), .val (.int ((0 : Int32) + (1 : Int32))), .val (.int (0 : Int32)), .unset]) rfl h) ?_
  show Go p e below _ T1 (mkF m 6 #[.val (.ref b1), .val (.int ((0 : Int32) + (1 : Int32))), .val (.int (0 : Int32)), .unset] [])
  refine Go.st (fun _ h => XS.iloadN X1.here hx rfl (hb hby d_jdk_38_method_6_code_6) rfl h) ?_
  show Go p e below _ T1 (mkF m 7 #[.val (.ref b1), .val (.int ((0 : Int32) + (1 : Int32))), .val (.int (0 : Int32)), .unset] [(.int (0 : Int32))])
  refine Go.st (fun _ h => XS.ifNo X1.here hx rfl (hb hby d_jdk_38_method_6_code_7) rfl (by decide) h) ?_
  show Go p e below _ T1 (mkF m 10 #[.val (.ref b1), .val (.int ((0 : Int32) + (1 : Int32))), .val (.int (0 : Int32)), .unset] [])
  refine Go.st (fun _ h => XS.aloadN X1.here hx rfl (hb hby d_jdk_38_method_6_code_10) rfl rfl h) ?_
  show Go p e below _ T1 (mkF m 11 #[.val (.ref b1), .val (.int ((0 : Int32) + (1 : Int32))), .val (.int (0 : Int32)), .unset] [(.ref b1)])
  obtain ⟨T2, X2, e2, st2⟩ := getF X1 hx hZ hown (host := "") (Or.inl (hw _ (List.mem_of_getElem? (i := 37) rfl))) Via.refl e1 F_e (g := (mkF m 11 #[.val (.ref b1), .val (.int ((0 : Int32) + (1 : Int32))), .val (.int (0 : Int32)), .unset] [(.ref b1)])) rfl rfl (hb hby d_jdk_38_method_6_code_11)
  refine Go.st st2 ?_
  show Go p e below _ T2 (mkF m 14 #[.val (.ref b1), .val (.int ((0 : Int32) + (1 : Int32))), .val (.int (0 : Int32)), .unset] [(.ref d0)])
  obtain ⟨T3, X3, e3, st3⟩ := getS2 X2 hx hZ hown (host := "") (Or.inl (hw _ (List.mem_of_getElem? (i := 36) rfl))) Via.refl e2 S_D (g := (mkF m 14 #[.val (.ref b1), .val (.int ((0 : Int32) + (1 : Int32))), .val (.int (0 : Int32)), .unset] [(.ref d0)])) rfl (hb hby d_jdk_38_method_6_code_14)
  refine Go.st st3 ?_
  show Go p e below _ T3 (mkF m 17 #[.val (.ref b1), .val (.int ((0 : Int32) + (1 : Int32))), .val (.int (0 : Int32)), .unset] [(.ref d0), (.ref d0)])
  refine Go.st (fun _ h => XT.acmpYes X3.here hx rfl (pc0 := 17) (pc' := 45) rfl (hb hby d_jdk_38_method_6_code_17) rfl rfl rfl ((own_aeq (rfl : d0 = d0)).1) (by decide) (by decide) h) ?_
  show Go p e below _ T3 (mkF m 45 #[.val (.ref b1), .val (.int ((0 : Int32) + (1 : Int32))), .val (.int (0 : Int32)), .unset] [])
  refine Go.st (fun _ h => XS.aloadN X3.here hx rfl (hb hby d_jdk_38_method_6_code_45) rfl rfl h) ?_
  show Go p e below _ T3 (mkF m 46 #[.val (.ref b1), .val (.int ((0 : Int32) + (1 : Int32))), .val (.int (0 : Int32)), .unset] [(.ref b1)])
  refine Go.st (fun _ h => XT.bipushV X3.here hx rfl (10 : Int32) (hb hby d_jdk_38_method_6_code_46) (by decide) h) ?_
  show Go p e below _ T3 (mkF m 48 #[.val (.ref b1), .val (.int ((0 : Int32) + (1 : Int32))), .val (.int (0 : Int32)), .unset] [(.int (10 : Int32)), (.ref b1)])
  refine Go.st (fun _ h => XS.iloadN X3.here hx rfl (hb hby d_jdk_38_method_6_code_48) rfl h) ?_
  show Go p e below _ T3 (mkF m 49 #[.val (.ref b1), .val (.int ((0 : Int32) + (1 : Int32))), .val (.int (0 : Int32)), .unset] [(.int ((0 : Int32) + (1 : Int32))), (.int (10 : Int32)), (.ref b1)])
  obtain ⟨T4, X4, e4, st4⟩ := own_still rfl rfl (Does.static (y := (⟨"java/lang/Math", "max", "(II)I"⟩ : MethodName)) (g := (mkF m 49 #[.val (.ref b1), .val (.int ((0 : Int32) + (1 : Int32))), .val (.int (0 : Int32)), .unset] [(.int ((0 : Int32) + (1 : Int32))), (.int (10 : Int32)), (.ref b1)])) (rmMax l Z a0 hw h0) X3 hx hZ hown e3 (hw _ (List.mem_of_getElem? (i := 70) rfl)) (hw _ (List.mem_of_getElem? (i := 71) rfl)) (hw _ (List.mem_of_getElem? (i := 72) rfl)) (hw _ (List.mem_of_getElem? (i := 73) rfl)) (by decide) rfl (by rw [hml]; rfl) (argsL := [(.int (10 : Int32)), (.int ((0 : Int32) + (1 : Int32)))]) (rest := [(.ref b1)]) (lenOf pd_28II29I rfl) rfl (hb hby d_jdk_38_method_6_code_49) (W := 1) (by show 2 * 0 + _ ≤ _; exact Nat.le_of_eq rfl) (by decide) (by decide) (by decide) (by decide))
  refine Go.st st4 ?_
  show Go p e below _ T4 (mkF m 52 #[.val (.ref b1), .val (.int ((0 : Int32) + (1 : Int32))), .val (.int (0 : Int32)), .unset] [(.int (10 : Int32)), (.ref b1)])
  obtain ⟨T5, h5, k5, X5, e5, E5, A5, O5, st5⟩ := newR X4 hx hZ hown (hw _ (List.mem_of_getElem? (i := 74) rfl)) (hw _ (List.mem_of_getElem? (i := 75) rfl)) e4 (g := (mkF m 52 #[.val (.ref b1), .val (.int ((0 : Int32) + (1 : Int32))), .val (.int (0 : Int32)), .unset] [(.int (10 : Int32)), (.ref b1)])) rfl (hb hby d_jdk_38_method_6_code_52) rfl (by decide) (cap := 10) (by decide) (by decide) (by decide) (by decide)
  obtain ⟨o5, g5⟩ : ∃ z, z = h0.size := ⟨_, rfl⟩
  rw [← g5] at A5 st5
  have ne_b1_o5 : b1 ≠ o5 := by rw [g5]; exact Nat.ne_of_lt E1.lt
  have ne_d0_o5 : d0 ≠ o5 := by rw [g5]; exact Nat.ne_of_lt B_d0.lt
  have le_o5 : h0.size ≤ o5 := by rw [g5]; exact (Keep.refl _ [b1]).1
  have E5_0 := E1.ext E5
  have F5_1 := F_e.ext E5
  have F5_2 := F_m.ext E5
  have F5_3 := F_s.ext E5
  have K5 := (Keep.refl _ [b1]).ext E5
  have V5 : Arv Z h5 o5 k5 (.object "java/lang/Object") (10 : Int32) [.null, .null, .null, .null, .null, .null, .null, .null, .null, .null] .null := (Arv.new A5 (by decide)).pad (pad_rep [] .null 10)
  refine Go.st st5 ?_
  show Go p e below _ T5 (mkF m 55 #[.val (.ref b1), .val (.int ((0 : Int32) + (1 : Int32))), .val (.int (0 : Int32)), .unset] [(.ref o5), (.ref b1)])
  refine Go.st (fun _ h => XT.dupX1 X5.here hx rfl (hb hby d_jdk_38_method_6_code_55) rfl rfl rfl h) ?_
  show Go p e below _ T5 (mkF m 56 #[.val (.ref b1), .val (.int ((0 : Int32) + (1 : Int32))), .val (.int (0 : Int32)), .unset] [(.ref o5), (.ref b1), (.ref o5)])
  obtain ⟨T6, h6, X6, e6, W6, st6⟩ := putF X5 hx hZ hown (host := "") (Or.inl (hw _ (List.mem_of_getElem? (i := 37) rfl))) Via.refl e5 F5_1 E5_0 (Or.inl (hw _ (List.mem_of_getElem? (i := 38) rfl))) (hw _ (List.mem_of_getElem? (i := 14) rfl)) (ty := (.array (.object "java/lang/Object"))) (by decide) rfl rfl (g := (mkF m 56 #[.val (.ref b1), .val (.int ((0 : Int32) + (1 : Int32))), .val (.int (0 : Int32)), .unset] [(.ref o5), (.ref b1), (.ref o5)])) rfl rfl (hb hby d_jdk_38_method_6_code_56)
  have N6 := Fr.snoc X6 N0 g_b1
  have E6_0 := E5_0.wr W6
  have F6_1 := F5_1.same W6
  have F6_2 := F5_2.other W6 (Or.inr (slot_ne (Or.inl (hw _ (List.mem_of_getElem? (i := 35) rfl))) (Or.inl (hw _ (List.mem_of_getElem? (i := 38) rfl))) (by decide) (t := .int) (by decide) (t' := (.array (.object "java/lang/Object"))) (by decide)))
  have F6_3 := F5_3.other W6 (Or.inr (slot_ne (Or.inl (hw _ (List.mem_of_getElem? (i := 54) rfl))) (Or.inl (hw _ (List.mem_of_getElem? (i := 38) rfl))) (by decide) (t := .int) (by decide) (t' := (.array (.object "java/lang/Object"))) (by decide)))
  have V6_4 := V5.other W6 (Ne.symm ne_b1_o5)
  have K6 := K5.wr W6 (Or.inl (List.mem_of_getElem? (i := 0) rfl))
  refine Go.st st6 ?_
  show Go p e below _ T6 (mkF m 59 #[.val (.ref b1), .val (.int ((0 : Int32) + (1 : Int32))), .val (.int (0 : Int32)), .unset] [(.ref o5)])
  refine Go.retA X6 hx hlk hret rfl rfl rfl (hb hby d_jdk_38_method_6_code_59) (by decide) (by decide) ?_
  rw [e6]
  exact ⟨o5, k5, rfl, N6, K6, le_o5, V6_4, O5, F6_1, F6_3, F6_2⟩
theorem ef_rmGrow0 (x0 : Addr) (m : MethodId) : entryFrame m #[(.ref x0)] 1 = mkF m 0 #[.val (.ref x0)] [] := by first | (simp [entryFrame, mkF, argsToLocals, Value.category]; done) | rfl
set_option maxRecDepth 65536 in
set_option maxHeartbeats 40000000 in
theorem rmGrow0 (l : Launch) (Z : State) (a0 : Array Value) (hw : ∀ d ∈ tables_1, d.before a0 Z = true) (b1 d0 : Addr) (kd : ClassId) (mc : Int32) (h0 : Heap) (n0 : Nat) (Z0 : n0 ≤ h0.size) (ne_d0 : d0 ≠ b1) (S_D : Sta Z h0 "java/util/ArrayList" "DEFAULTCAPACITY_EMPTY_ELEMENTDATA" "[Ljava/lang/Object;" (.ref d0)) (B_d0 : Arv Z h0 d0 kd (.object "java/lang/Object") (0 : Int32) [] .null) (F_e : Fld Z h0 b1 "java/util/ArrayList" "elementData" "[Ljava/lang/Object;" (.ref d0)) (F_s : Fld Z h0 b1 "java/util/ArrayList" "size" "I" (.int (0 : Int32))) (F_m : Fld Z h0 b1 "java/util/AbstractList" "modCount" "I" (.int mc)) (E1 : Exa Z h0 b1 "java/util/ArrayList") (g_b1 : n0 ≤ b1) :
    Does l Z (⟨"java/util/ArrayList", "grow", "()[Ljava/lang/Object;"⟩ : MethodName) jdk_38_method_7_code 1 (some (.array (.object "java/lang/Object"))) [] ({ frames := 2, cells := 1, slots := 10, locals := 29 } : Room) #[(.ref b1)] h0 (fun v h L => ∃ r kk, v = some (.ref r) ∧ Fr n0 L ∧ Keep h0 h [b1] ∧ h0.size ≤ r ∧ Arv Z h r kk (.object "java/lang/Object") (10 : Int32) [.null, .null, .null, .null, .null, .null, .null, .null, .null, .null] .null ∧ Ovr Z kk "java/lang/Object" ∧ Fld Z h b1 "java/util/ArrayList" "elementData" "[Ljava/lang/Object;" (.ref r) ∧ Fld Z h b1 "java/util/ArrayList" "size" "I" (.int (0 : Int32)) ∧ Fld Z h b1 "java/util/AbstractList" "modCount" "I" (.int mc)) := by
  refine Does.intro (plainFor_of_name pn_java_util_ArrayList) (ef_rmGrow0 b1) ?_
  intro p e s m below meth c s₁ hx hby hml hown hnm hret hlk hZ e0 X0
  show Go p e below _ s₁ (mkF m 0 #[.val (.ref b1)] [])
  have N0 := Fr.nil n0
  refine Go.st (fun _ h => XS.aloadN X0.here hx rfl (hb hby d_jdk_38_method_7_code_0) rfl rfl h) ?_
  show Go p e below _ s₁ (mkF m 1 #[.val (.ref b1)] [(.ref b1)])
  refine Go.st (fun _ h => XS.aloadN X0.here hx rfl (hb hby d_jdk_38_method_7_code_1) rfl rfl h) ?_
  show Go p e below _ s₁ (mkF m 2 #[.val (.ref b1)] [(.ref b1), (.ref b1)])
  obtain ⟨T1, X1, e1, st1⟩ := getF X0 hx hZ hown (host := "") (Or.inl (hw _ (List.mem_of_getElem? (i := 53) rfl))) Via.refl e0 F_s (g := (mkF m 2 #[.val (.ref b1)] [(.ref b1), (.ref b1)])) rfl rfl (hb hby d_jdk_38_method_7_code_2)
  refine Go.st st1 ?_
  show Go p e below _ T1 (mkF m 5 #[.val (.ref b1)] [(.int (0 : Int32)), (.ref b1)])
  refine Go.st (fun _ h => XT.iconstV X1.here hx rfl (1 : Int32) (hb hby d_jdk_38_method_7_code_5) (by decide) h) ?_
  show Go p e below _ T1 (mkF m 6 #[.val (.ref b1)] [(.int (1 : Int32)), (.int (0 : Int32)), (.ref b1)])
  refine Go.st (fun _ h => XS.iadd X1.here hx rfl (hb hby d_jdk_38_method_7_code_6) rfl h) ?_
  show Go p e below _ T1 (mkF m 7 #[.val (.ref b1)] [(.int ((0 : Int32) + (1 : Int32))), (.ref b1)])
  obtain ⟨_, T2, L2, X2, ⟨r2, kk2, rfl, Nc2, Kc2, lec2, Vc2, Oc2, Fc2_0, Fc2_1, Fc2_2⟩, st2⟩ := Does.priv (y := (⟨"java/util/ArrayList", "grow", "(I)[Ljava/lang/Object;"⟩ : MethodName)) (g := (mkF m 7 #[.val (.ref b1)] [(.int ((0 : Int32) + (1 : Int32))), (.ref b1)])) (a := b1) (rmGrow1 l Z a0 hw b1 d0 kd mc h0 n0 Z0 ne_d0 S_D B_d0 F_e F_s F_m E1 g_b1) X1 hx hZ hown e1 E1 (hw _ (List.mem_of_getElem? (i := 65) rfl)) (hw _ (List.mem_of_getElem? (i := 66) rfl)) (hw _ (List.mem_of_getElem? (i := 68) rfl)) (hw _ (List.mem_of_getElem? (i := 67) rfl)) (hw _ (List.mem_of_getElem? (i := 15) rfl)) (hw _ (List.mem_of_getElem? (i := 69) rfl)) (by decide) rfl (by rw [hml]; rfl) (argsL := [(.int ((0 : Int32) + (1 : Int32)))]) (rest := []) (lenOf pd_28I295bLjava2flang2fObject3b rfl) rfl (hb hby d_jdk_38_method_7_code_7) (W := 0) (by show 2 * 0 + _ ≤ _; exact Nat.le_of_eq rfl) (by decide) (by decide) (by decide) (by decide)
  have E2_0 := E1.keep Kc2
  have K2 := (Keep.refl _ [b1]).trans Kc2 (allS (Or.inl (List.mem_of_getElem? (i := 0) rfl)) all0)
  have N2 := Fr.app N0 Nc2
  have le_r2 : h0.size ≤ r2 := Nat.le_trans (Keep.refl _ [b1]).1 lec2
  have ne_b1_r2 : b1 ≠ r2 := Nat.ne_of_lt (Nat.lt_of_lt_of_le E1.lt lec2)
  have ne_d0_r2 : d0 ≠ r2 := Nat.ne_of_lt (Nat.lt_of_lt_of_le B_d0.lt lec2)
  refine Go.st st2 ?_
  show Go p e below _ T2 (mkF m 10 #[.val (.ref b1)] [(.ref r2)])
  refine Go.retA X2 hx hlk hret rfl rfl rfl (hb hby d_jdk_38_method_7_code_10) (by decide) (by decide) ?_
  exact ⟨r2, kk2, rfl, N2, K2, le_r2, Vc2, Oc2, Fc2_0, Fc2_1, Fc2_2⟩
theorem ef_rmAdd3A (x0 : Addr) (x1 : Addr) (x2 : Addr) (x3 : Int32) (m : MethodId) : entryFrame m #[(.ref x0), (.ref x1), (.ref x2), (.int x3)] 4 = mkF m 0 #[.val (.ref x0), .val (.ref x1), .val (.ref x2), .val (.int x3)] [] := by first | (simp [entryFrame, mkF, argsToLocals, Value.category]; done) | rfl
set_option maxRecDepth 65536 in
set_option maxHeartbeats 40000000 in
theorem rmAdd3A (l : Launch) (Z : State) (a0 : Array Value) (hw : ∀ d ∈ tables_1, d.before a0 Z = true) (b1 d0 : Addr) (kd : ClassId) (mc : Int32) (h0 : Heap) (n0 : Nat) (Z0 : n0 ≤ h0.size) (ne_d0 : d0 ≠ b1) (S_D : Sta Z h0 "java/util/ArrayList" "DEFAULTCAPACITY_EMPTY_ELEMENTDATA" "[Ljava/lang/Object;" (.ref d0)) (B_d0 : Arv Z h0 d0 kd (.object "java/lang/Object") (0 : Int32) [] .null) (F_e : Fld Z h0 b1 "java/util/ArrayList" "elementData" "[Ljava/lang/Object;" (.ref d0)) (F_s : Fld Z h0 b1 "java/util/ArrayList" "size" "I" (.int (0 : Int32))) (F_m : Fld Z h0 b1 "java/util/AbstractList" "modCount" "I" (.int mc)) (E1 : Exa Z h0 b1 "java/util/ArrayList") (g_b1 : n0 ≤ b1) (y : Addr) (E_y : Exa Z h0 y "java/lang/Integer") :
    Does l Z (⟨"java/util/ArrayList", "add", "(Ljava/lang/Object;[Ljava/lang/Object;I)V"⟩ : MethodName) jdk_38_method_24_code 4 none [] ({ frames := 3, cells := 1, slots := 10, locals := 41 } : Room) #[(.ref b1), (.ref y), (.ref d0), (.int (0 : Int32))] h0 (fun v h L => ∃ r kk vs, v = none ∧ Fr n0 L ∧ Keep h0 h [b1] ∧ h0.size ≤ r ∧ vs.length = 10 ∧ Arv Z h r kk (.object "java/lang/Object") (10 : Int32) vs .null ∧ Ovr Z kk "java/lang/Object" ∧ Fld Z h b1 "java/util/ArrayList" "elementData" "[Ljava/lang/Object;" (.ref r) ∧ Fld Z h b1 "java/util/ArrayList" "size" "I" (.int ((0 : Int32) + (1 : Int32))) ∧ Fld Z h b1 "java/util/AbstractList" "modCount" "I" (.int mc)) := by
  refine Does.intro (plainFor_of_name pn_java_util_ArrayList) (ef_rmAdd3A b1 y d0 (0 : Int32)) ?_
  intro p e s m below meth c s₁ hx hby hml hown hnm hret hlk hZ e0 X0
  show Go p e below _ s₁ (mkF m 0 #[.val (.ref b1), .val (.ref y), .val (.ref d0), .val (.int (0 : Int32))] [])
  have N0 := Fr.nil n0
  refine Go.st (fun _ h => XS.iloadN X0.here hx rfl (hb hby d_jdk_38_method_24_code_0) rfl h) ?_
  show Go p e below _ s₁ (mkF m 1 #[.val (.ref b1), .val (.ref y), .val (.ref d0), .val (.int (0 : Int32))] [(.int (0 : Int32))])
  refine Go.st (fun _ h => XS.aloadN X0.here hx rfl (hb hby d_jdk_38_method_24_code_1) rfl rfl h) ?_
  show Go p e below _ s₁ (mkF m 2 #[.val (.ref b1), .val (.ref y), .val (.ref d0), .val (.int (0 : Int32))] [(.ref d0), (.int (0 : Int32))])
  refine Go.st (own_len X0 hx hZ e0 B_d0 rfl rfl (hb hby d_jdk_38_method_24_code_2)) ?_
  show Go p e below _ s₁ (mkF m 3 #[.val (.ref b1), .val (.ref y), .val (.ref d0), .val (.int (0 : Int32))] [(.int (0 : Int32)), (.int (0 : Int32))])
  refine Go.st (fun _ h => XS.icmpNo X0.here hx rfl (hb hby d_jdk_38_method_24_code_3) rfl (by decide) h) ?_
  show Go p e below _ s₁ (mkF m 6 #[.val (.ref b1), .val (.ref y), .val (.ref d0), .val (.int (0 : Int32))] [])
  refine Go.st (fun _ h => XS.aloadN X0.here hx rfl (hb hby d_jdk_38_method_24_code_6) rfl rfl h) ?_
  show Go p e below _ s₁ (mkF m 7 #[.val (.ref b1), .val (.ref y), .val (.ref d0), .val (.int (0 : Int32))] [(.ref b1)])
  obtain ⟨_, T1, L1, X1, ⟨r1, kk1, rfl, Nc1, Kc1, lec1, Vc1, Oc1, Fc1_0, Fc1_1, Fc1_2⟩, st1⟩ := Does.priv (y := (⟨"java/util/ArrayList", "grow", "()[Ljava/lang/Object;"⟩ : MethodName)) (g := (mkF m 7 #[.val (.ref b1), .val (.ref y), .val (.ref d0), .val (.int (0 : Int32))] [(.ref b1)])) (a := b1) (rmGrow0 l Z a0 hw b1 d0 kd mc h0 n0 Z0 ne_d0 S_D B_d0 F_e F_s F_m E1 g_b1) X0 hx hZ hown e0 E1 (hw _ (List.mem_of_getElem? (i := 60) rfl)) (hw _ (List.mem_of_getElem? (i := 61) rfl)) (hw _ (List.mem_of_getElem? (i := 63) rfl)) (hw _ (List.mem_of_getElem? (i := 62) rfl)) (hw _ (List.mem_of_getElem? (i := 15) rfl)) (hw _ (List.mem_of_getElem? (i := 64) rfl)) (by decide) rfl (by rw [hml]; rfl) (argsL := []) (rest := []) (lenOf pd_28295bLjava2flang2fObject3b rfl) rfl (hb hby d_jdk_38_method_24_code_7) (W := 0) (by show 2 * 0 + _ ≤ _; exact Nat.le_of_eq rfl) (by decide) (by decide) (by decide) (by decide)
  have E1_0 := E1.keep Kc1
  have K1 := (Keep.refl _ [b1]).trans Kc1 (allS (Or.inl (List.mem_of_getElem? (i := 0) rfl)) all0)
  have N1 := Fr.app N0 Nc1
  have le_r1 : h0.size ≤ r1 := Nat.le_trans (Keep.refl _ [b1]).1 lec1
  have ne_b1_r1 : b1 ≠ r1 := Nat.ne_of_lt (Nat.lt_of_lt_of_le E1.lt lec1)
  have ne_d0_r1 : d0 ≠ r1 := Nat.ne_of_lt (Nat.lt_of_lt_of_le B_d0.lt lec1)
  have ne_y_r1 : y ≠ r1 := Nat.ne_of_lt (Nat.lt_of_lt_of_le E_y.lt lec1)
  refine Go.st st1 ?_
  show Go p e below _ T1 (mkF m 10 #[.val (.ref b1), .val (.ref y), .val (.ref d0), .val (.int (0 : Int32))] [(.ref r1)])
  refine Go.st (fun _ h => XS.astoreN X1.here hx rfl (hb hby d_jdk_38_method_24_code_10) rfl rfl (l' := #[.val (.ref b1), .val (.ref y), .val (.ref r1), .val (.int (0 : Int32))]) rfl h) ?_
  show Go p e below _ T1 (mkF m 11 #[.val (.ref b1), .val (.ref y), .val (.ref r1), .val (.int (0 : Int32))] [])
  refine Go.st (fun _ h => XS.aloadN X1.here hx rfl (hb hby d_jdk_38_method_24_code_11) rfl rfl h) ?_
  show Go p e below _ T1 (mkF m 12 #[.val (.ref b1), .val (.ref y), .val (.ref r1), .val (.int (0 : Int32))] [(.ref r1)])
  refine Go.st (fun _ h => XS.iloadN X1.here hx rfl (hb hby d_jdk_38_method_24_code_12) rfl h) ?_
  show Go p e below _ T1 (mkF m 13 #[.val (.ref b1), .val (.ref y), .val (.ref r1), .val (.int (0 : Int32))] [(.int (0 : Int32)), (.ref r1)])
  refine Go.st (fun _ h => XS.aloadN X1.here hx rfl (hb hby d_jdk_38_method_24_code_13) rfl rfl h) ?_
  show Go p e below _ T1 (mkF m 14 #[.val (.ref b1), .val (.ref y), .val (.ref r1), .val (.int (0 : Int32))] [(.ref y), (.int (0 : Int32)), (.ref r1)])
  obtain ⟨T2, h2, X2, e2, W2, V2, st2⟩ := own_stR X1 hx hZ rfl (j := (0 : Int32)) Vc1 Oc1 (Ins.of_exa (E_y.keep K1) (hw _ (List.mem_of_getElem? (i := 76) rfl))) (by decide) (by decide) 0 (by decide) (by simp) (g := (mkF m 14 #[.val (.ref b1), .val (.ref y), .val (.ref r1), .val (.int (0 : Int32))] [(.ref y), (.int (0 : Int32)), (.ref r1)])) rfl rfl (hb hby d_jdk_38_method_24_code_14)
  have N2 := Fr.snoc X2 N1 (Nat.le_trans Z0 le_r1)
  have E2_0 := E1_0.wr W2
  have F2_1 := Fc1_0.other W2 (Or.inl ne_b1_r1)
  have F2_2 := Fc1_2.other W2 (Or.inl ne_b1_r1)
  have F2_3 := Fc1_1.other W2 (Or.inl ne_b1_r1)
  have K2 := K1.wr W2 (Or.inr le_r1)
  have V2' : Arv Z h2 r1 kk1 (.object "java/lang/Object") (10 : Int32) [(.ref y), .null, .null, .null, .null, .null, .null, .null, .null, .null] .null := V2
  refine Go.st st2 ?_
  show Go p e below _ T2 (mkF m 15 #[.val (.ref b1), .val (.ref y), .val (.ref r1), .val (.int (0 : Int32))] [])
  refine Go.st (fun _ h => XS.aloadN X2.here hx rfl (hb hby d_jdk_38_method_24_code_15) rfl rfl h) ?_
  show Go p e below _ T2 (mkF m 16 #[.val (.ref b1), .val (.ref y), .val (.ref r1), .val (.int (0 : Int32))] [(.ref b1)])
  refine Go.st (fun _ h => XS.iloadN X2.here hx rfl (hb hby d_jdk_38_method_24_code_16) rfl h) ?_
  show Go p e below _ T2 (mkF m 17 #[.val (.ref b1), .val (.ref y), .val (.ref r1), .val (.int (0 : Int32))] [(.int (0 : Int32)), (.ref b1)])
  refine Go.st (fun _ h => XT.iconstV X2.here hx rfl (1 : Int32) (hb hby d_jdk_38_method_24_code_17) (by decide) h) ?_
  show Go p e below _ T2 (mkF m 18 #[.val (.ref b1), .val (.ref y), .val (.ref r1), .val (.int (0 : Int32))] [(.int (1 : Int32)), (.int (0 : Int32)), (.ref b1)])
  refine Go.st (fun _ h => XS.iadd X2.here hx rfl (hb hby d_jdk_38_method_24_code_18) rfl h) ?_
  show Go p e below _ T2 (mkF m 19 #[.val (.ref b1), .val (.ref y), .val (.ref r1), .val (.int (0 : Int32))] [(.int ((0 : Int32) + (1 : Int32))), (.ref b1)])
  obtain ⟨T3, h3, X3, e3, W3, st3⟩ := putF X2 hx hZ hown (host := "") (Or.inl (hw _ (List.mem_of_getElem? (i := 53) rfl))) Via.refl e2 F2_3 E2_0 (Or.inl (hw _ (List.mem_of_getElem? (i := 54) rfl))) (hw _ (List.mem_of_getElem? (i := 14) rfl)) (ty := .int) (by decide) rfl rfl (g := (mkF m 19 #[.val (.ref b1), .val (.ref y), .val (.ref r1), .val (.int (0 : Int32))] [(.int ((0 : Int32) + (1 : Int32))), (.ref b1)])) rfl rfl (hb hby d_jdk_38_method_24_code_19)
  have N3 := Fr.snoc X3 N2 g_b1
  have E3_0 := E2_0.wr W3
  have F3_1 := F2_1.other W3 (Or.inr (slot_ne (Or.inl (hw _ (List.mem_of_getElem? (i := 38) rfl))) (Or.inl (hw _ (List.mem_of_getElem? (i := 54) rfl))) (by decide) (t := (.array (.object "java/lang/Object"))) (by decide) (t' := .int) (by decide)))
  have F3_2 := F2_2.other W3 (Or.inr (slot_ne (Or.inl (hw _ (List.mem_of_getElem? (i := 35) rfl))) (Or.inl (hw _ (List.mem_of_getElem? (i := 54) rfl))) (by decide) (t := .int) (by decide) (t' := .int) (by decide)))
  have F3_3 := F2_3.same W3
  have V3_4 := V2'.other W3 (Ne.symm ne_b1_r1)
  have K3 := K2.wr W3 (Or.inl (List.mem_of_getElem? (i := 0) rfl))
  refine Go.st st3 ?_
  show Go p e below _ T3 (mkF m 22 #[.val (.ref b1), .val (.ref y), .val (.ref r1), .val (.int (0 : Int32))] [])
  refine Go.retV X3 hx hlk hret (hb hby d_jdk_38_method_24_code_22) (by decide) (by decide) ?_
  rw [e3]
  exact ⟨r1, kk1, _, rfl, N3, K3, le_r1, rfl, V3_4, Oc1, F3_1, F3_3, F3_2⟩
theorem ef_rmAdd3B (x0 : Addr) (x1 : Addr) (x2 : Addr) (x3 : Int32) (m : MethodId) : entryFrame m #[(.ref x0), (.ref x1), (.ref x2), (.int x3)] 4 = mkF m 0 #[.val (.ref x0), .val (.ref x1), .val (.ref x2), .val (.int x3)] [] := by first | (simp [entryFrame, mkF, argsToLocals, Value.category]; done) | rfl
set_option maxRecDepth 65536 in
set_option maxHeartbeats 40000000 in
theorem rmAdd3B (l : Launch) (Z : State) (a0 : Array Value) (hw : ∀ d ∈ tables_1, d.before a0 Z = true) (b1 r1 : Addr) (kr : ClassId) (vs : List Value) (sz mc : Int32) (h0 : Heap) (n0 : Nat) (Z0 : n0 ≤ h0.size) (ne_r : r1 ≠ b1) (hvs : vs.length = 10) (hs0 : ¬ sz < 0) (hs1 : sz < (10 : Int32)) (B_r : Arv Z h0 r1 kr (.object "java/lang/Object") (10 : Int32) vs .null) (O_r : Ovr Z kr "java/lang/Object") (g_r1 : n0 ≤ r1) (F_e : Fld Z h0 b1 "java/util/ArrayList" "elementData" "[Ljava/lang/Object;" (.ref r1)) (F_s : Fld Z h0 b1 "java/util/ArrayList" "size" "I" (.int sz)) (F_m : Fld Z h0 b1 "java/util/AbstractList" "modCount" "I" (.int mc)) (E1 : Exa Z h0 b1 "java/util/ArrayList") (g_b1 : n0 ≤ b1) (y : Addr) (E_y : Exa Z h0 y "java/lang/Integer") :
    Does l Z (⟨"java/util/ArrayList", "add", "(Ljava/lang/Object;[Ljava/lang/Object;I)V"⟩ : MethodName) jdk_38_method_24_code 4 none [] ({ frames := 0, cells := 0, slots := 0, locals := 0 } : Room) #[(.ref b1), (.ref y), (.ref r1), (.int sz)] h0 (fun v h L => ∃ vs', v = none ∧ Fr n0 L ∧ Keep h0 h [b1, r1] ∧ vs'.length = 10 ∧ Arv Z h r1 kr (.object "java/lang/Object") (10 : Int32) vs' .null ∧ Fld Z h b1 "java/util/ArrayList" "elementData" "[Ljava/lang/Object;" (.ref r1) ∧ Fld Z h b1 "java/util/ArrayList" "size" "I" (.int (sz + (1 : Int32))) ∧ Fld Z h b1 "java/util/AbstractList" "modCount" "I" (.int mc)) := by
  refine Does.intro (plainFor_of_name pn_java_util_ArrayList) (ef_rmAdd3B b1 y r1 sz) ?_
  intro p e s m below meth c s₁ hx hby hml hown hnm hret hlk hZ e0 X0
  show Go p e below _ s₁ (mkF m 0 #[.val (.ref b1), .val (.ref y), .val (.ref r1), .val (.int sz)] [])
  have N0 := Fr.nil n0
  refine Go.st (fun _ h => XS.iloadN X0.here hx rfl (hb hby d_jdk_38_method_24_code_0) rfl h) ?_
  show Go p e below _ s₁ (mkF m 1 #[.val (.ref b1), .val (.ref y), .val (.ref r1), .val (.int sz)] [(.int sz)])
  refine Go.st (fun _ h => XS.aloadN X0.here hx rfl (hb hby d_jdk_38_method_24_code_1) rfl rfl h) ?_
  show Go p e below _ s₁ (mkF m 2 #[.val (.ref b1), .val (.ref y), .val (.ref r1), .val (.int sz)] [(.ref r1), (.int sz)])
  refine Go.st (own_len X0 hx hZ e0 B_r rfl rfl (hb hby d_jdk_38_method_24_code_2)) ?_
  show Go p e below _ s₁ (mkF m 3 #[.val (.ref b1), .val (.ref y), .val (.ref r1), .val (.int sz)] [(.int (10 : Int32)), (.int sz)])
  refine Go.st (fun _ h => XS.icmpYes X0.here hx rfl (pc0 := 3) (pc' := 11) rfl (hb hby d_jdk_38_method_24_code_3) rfl ((feq (own_ne10 hs1 : ¬ (sz = (10 : Int32)))).2) (by decide) (by decide) h) ?_
  show Go p e below _ s₁ (mkF m 11 #[.val (.ref b1), .val (.ref y), .val (.ref r1), .val (.int sz)] [])
  refine Go.st (fun _ h => XS.aloadN X0.here hx rfl (hb hby d_jdk_38_method_24_code_11) rfl rfl h) ?_
  show Go p e below _ s₁ (mkF m 12 #[.val (.ref b1), .val (.ref y), .val (.ref r1), .val (.int sz)] [(.ref r1)])
  refine Go.st (fun _ h => XS.iloadN X0.here hx rfl (hb hby d_jdk_38_method_24_code_12) rfl h) ?_
  show Go p e below _ s₁ (mkF m 13 #[.val (.ref b1), .val (.ref y), .val (.ref r1), .val (.int sz)] [(.int sz), (.ref r1)])
  refine Go.st (fun _ h => XS.aloadN X0.here hx rfl (hb hby d_jdk_38_method_24_code_13) rfl rfl h) ?_
  show Go p e below _ s₁ (mkF m 14 #[.val (.ref b1), .val (.ref y), .val (.ref r1), .val (.int sz)] [(.ref y), (.int sz), (.ref r1)])
  obtain ⟨T1, h1, X1, e1, W1, V1, st1⟩ := own_stR X0 hx hZ e0 (j := sz) B_r O_r (Ins.of_exa E_y (hw _ (List.mem_of_getElem? (i := 76) rfl))) hs0 hs1 sz.toNatClampNeg rfl (by rw [hvs]; exact own_cl10 hs0 hs1) (g := (mkF m 14 #[.val (.ref b1), .val (.ref y), .val (.ref r1), .val (.int sz)] [(.ref y), (.int sz), (.ref r1)])) rfl rfl (hb hby d_jdk_38_method_24_code_14)
  have N1 := Fr.snoc X1 N0 g_r1
  have E1_0 := E1.wr W1
  have F1_1 := F_e.other W1 (Or.inl (Ne.symm ne_r))
  have F1_2 := F_m.other W1 (Or.inl (Ne.symm ne_r))
  have F1_3 := F_s.other W1 (Or.inl (Ne.symm ne_r))
  have K1 := (Keep.refl _ [b1, r1]).wr W1 (Or.inl (List.mem_of_getElem? (i := 1) rfl))
  refine Go.st st1 ?_
  show Go p e below _ T1 (mkF m 15 #[.val (.ref b1), .val (.ref y), .val (.ref r1), .val (.int sz)] [])
  refine Go.st (fun _ h => XS.aloadN X1.here hx rfl (hb hby d_jdk_38_method_24_code_15) rfl rfl h) ?_
  show Go p e below _ T1 (mkF m 16 #[.val (.ref b1), .val (.ref y), .val (.ref r1), .val (.int sz)] [(.ref b1)])
  refine Go.st (fun _ h => XS.iloadN X1.here hx rfl (hb hby d_jdk_38_method_24_code_16) rfl h) ?_
  show Go p e below _ T1 (mkF m 17 #[.val (.ref b1), .val (.ref y), .val (.ref r1), .val (.int sz)] [(.int sz), (.ref b1)])
  refine Go.st (fun _ h => XT.iconstV X1.here hx rfl (1 : Int32) (hb hby d_jdk_38_method_24_code_17) (by decide) h) ?_
  show Go p e below _ T1 (mkF m 18 #[.val (.ref b1), .val (.ref y), .val (.ref r1), .val (.int sz)] [(.int (1 : Int32)), (.int sz), (.ref b1)])
  refine Go.st (fun _ h => XS.iadd X1.here hx rfl (hb hby d_jdk_38_method_24_code_18) rfl h) ?_
  show Go p e below _ T1 (mkF m 19 #[.val (.ref b1), .val (.ref y), .val (.ref r1), .val (.int sz)] [(.int (sz + (1 : Int32))), (.ref b1)])
  obtain ⟨T2, h2, X2, e2, W2, st2⟩ := putF X1 hx hZ hown (host := "") (Or.inl (hw _ (List.mem_of_getElem? (i := 53) rfl))) Via.refl e1 F1_3 E1_0 (Or.inl (hw _ (List.mem_of_getElem? (i := 54) rfl))) (hw _ (List.mem_of_getElem? (i := 14) rfl)) (ty := .int) (by decide) rfl rfl (g := (mkF m 19 #[.val (.ref b1), .val (.ref y), .val (.ref r1), .val (.int sz)] [(.int (sz + (1 : Int32))), (.ref b1)])) rfl rfl (hb hby d_jdk_38_method_24_code_19)
  have N2 := Fr.snoc X2 N1 g_b1
  have E2_0 := E1_0.wr W2
  have F2_1 := F1_1.other W2 (Or.inr (slot_ne (Or.inl (hw _ (List.mem_of_getElem? (i := 38) rfl))) (Or.inl (hw _ (List.mem_of_getElem? (i := 54) rfl))) (by decide) (t := (.array (.object "java/lang/Object"))) (by decide) (t' := .int) (by decide)))
  have F2_2 := F1_2.other W2 (Or.inr (slot_ne (Or.inl (hw _ (List.mem_of_getElem? (i := 35) rfl))) (Or.inl (hw _ (List.mem_of_getElem? (i := 54) rfl))) (by decide) (t := .int) (by decide) (t' := .int) (by decide)))
  have F2_3 := F1_3.same W2
  have V2_4 := V1.other W2 ne_r
  have K2 := K1.wr W2 (Or.inl (List.mem_of_getElem? (i := 0) rfl))
  refine Go.st st2 ?_
  show Go p e below _ T2 (mkF m 22 #[.val (.ref b1), .val (.ref y), .val (.ref r1), .val (.int sz)] [])
  refine Go.retV X2 hx hlk hret (hb hby d_jdk_38_method_24_code_22) (by decide) (by decide) ?_
  rw [e2]
  exact ⟨_, rfl, N2, K2, by simp [hvs], V2_4, F2_1, F2_3, F2_2⟩
theorem ef_rmAddA (x0 : Addr) (x1 : Addr) (m : MethodId) : entryFrame m #[(.ref x0), (.ref x1)] 2 = mkF m 0 #[.val (.ref x0), .val (.ref x1)] [] := by first | (simp [entryFrame, mkF, argsToLocals, Value.category]; done) | rfl
set_option maxRecDepth 65536 in
set_option maxHeartbeats 40000000 in
theorem rmAddA (l : Launch) (Z : State) (a0 : Array Value) (hw : ∀ d ∈ tables_1, d.before a0 Z = true) (b1 d0 : Addr) (kd : ClassId) (mc : Int32) (h0 : Heap) (n0 : Nat) (Z0 : n0 ≤ h0.size) (ne_d0 : d0 ≠ b1) (S_D : Sta Z h0 "java/util/ArrayList" "DEFAULTCAPACITY_EMPTY_ELEMENTDATA" "[Ljava/lang/Object;" (.ref d0)) (B_d0 : Arv Z h0 d0 kd (.object "java/lang/Object") (0 : Int32) [] .null) (F_e : Fld Z h0 b1 "java/util/ArrayList" "elementData" "[Ljava/lang/Object;" (.ref d0)) (F_s : Fld Z h0 b1 "java/util/ArrayList" "size" "I" (.int (0 : Int32))) (F_m : Fld Z h0 b1 "java/util/AbstractList" "modCount" "I" (.int mc)) (E1 : Exa Z h0 b1 "java/util/ArrayList") (g_b1 : n0 ≤ b1) (y : Addr) (E_y : Exa Z h0 y "java/lang/Integer") :
    Does l Z (⟨"java/util/ArrayList", "add", "(Ljava/lang/Object;)Z"⟩ : MethodName) jdk_38_method_25_code 2 (some .boolean) [] ({ frames := 4, cells := 1, slots := 10, locals := 57 } : Room) #[(.ref b1), (.ref y)] h0 (fun v h L => ∃ r kk vs, v = some (.int (1 : Int32)) ∧ Fr n0 L ∧ Keep h0 h [b1] ∧ h0.size ≤ r ∧ vs.length = 10 ∧ Arv Z h r kk (.object "java/lang/Object") (10 : Int32) vs .null ∧ Ovr Z kk "java/lang/Object" ∧ Fld Z h b1 "java/util/ArrayList" "elementData" "[Ljava/lang/Object;" (.ref r) ∧ Fld Z h b1 "java/util/ArrayList" "size" "I" (.int ((0 : Int32) + (1 : Int32))) ∧ Fld Z h b1 "java/util/AbstractList" "modCount" "I" (.int (mc + (1 : Int32)))) := by
  refine Does.intro (plainFor_of_name pn_java_util_ArrayList) (ef_rmAddA b1 y) ?_
  intro p e s m below meth c s₁ hx hby hml hown hnm hret hlk hZ e0 X0
  show Go p e below _ s₁ (mkF m 0 #[.val (.ref b1), .val (.ref y)] [])
  have N0 := Fr.nil n0
  refine Go.st (fun _ h => XS.aloadN X0.here hx rfl (hb hby d_jdk_38_method_25_code_0) rfl rfl h) ?_
  show Go p e below _ s₁ (mkF m 1 #[.val (.ref b1), .val (.ref y)] [(.ref b1)])
  refine Go.st (fun _ h => XS.dup X0.here hx rfl (hb hby d_jdk_38_method_25_code_1) rfl rfl h) ?_
  show Go p e below _ s₁ (mkF m 2 #[.val (.ref b1), .val (.ref y)] [(.ref b1), (.ref b1)])
  obtain ⟨T1, X1, e1, st1⟩ := getF X0 hx hZ hown (host := "") (Or.inl (hw _ (List.mem_of_getElem? (i := 51) rfl))) (Via.of (hw _ (List.mem_of_getElem? (i := 52) rfl))) e0 F_m (g := (mkF m 2 #[.val (.ref b1), .val (.ref y)] [(.ref b1), (.ref b1)])) rfl rfl (hb hby d_jdk_38_method_25_code_2)
  refine Go.st st1 ?_
  show Go p e below _ T1 (mkF m 5 #[.val (.ref b1), .val (.ref y)] [(.int mc), (.ref b1)])
  refine Go.st (fun _ h => XT.iconstV X1.here hx rfl (1 : Int32) (hb hby d_jdk_38_method_25_code_5) (by decide) h) ?_
  show Go p e below _ T1 (mkF m 6 #[.val (.ref b1), .val (.ref y)] [(.int (1 : Int32)), (.int mc), (.ref b1)])
  refine Go.st (fun _ h => XS.iadd X1.here hx rfl (hb hby d_jdk_38_method_25_code_6) rfl h) ?_
  show Go p e below _ T1 (mkF m 7 #[.val (.ref b1), .val (.ref y)] [(.int (mc + (1 : Int32))), (.ref b1)])
  obtain ⟨T2, h2, X2, e2, W2, st2⟩ := putF X1 hx hZ hown (host := "") (Or.inl (hw _ (List.mem_of_getElem? (i := 51) rfl))) (Via.of (hw _ (List.mem_of_getElem? (i := 52) rfl))) e1 F_m E1 (Or.inl (hw _ (List.mem_of_getElem? (i := 35) rfl))) (hw _ (List.mem_of_getElem? (i := 14) rfl)) (ty := .int) (by decide) rfl rfl (g := (mkF m 7 #[.val (.ref b1), .val (.ref y)] [(.int (mc + (1 : Int32))), (.ref b1)])) rfl rfl (hb hby d_jdk_38_method_25_code_7)
  have N2 := Fr.snoc X2 N0 g_b1
  have E2_0 := E1.wr W2
  have F2_1 := F_e.other W2 (Or.inr (slot_ne (Or.inl (hw _ (List.mem_of_getElem? (i := 38) rfl))) (Or.inl (hw _ (List.mem_of_getElem? (i := 35) rfl))) (by decide) (t := (.array (.object "java/lang/Object"))) (by decide) (t' := .int) (by decide)))
  have F2_2 := F_m.same W2
  have F2_3 := F_s.other W2 (Or.inr (slot_ne (Or.inl (hw _ (List.mem_of_getElem? (i := 54) rfl))) (Or.inl (hw _ (List.mem_of_getElem? (i := 35) rfl))) (by decide) (t := .int) (by decide) (t' := .int) (by decide)))
  have K2 := (Keep.refl _ [b1]).wr W2 (Or.inl (List.mem_of_getElem? (i := 0) rfl))
  refine Go.st st2 ?_
  show Go p e below _ T2 (mkF m 10 #[.val (.ref b1), .val (.ref y)] [])
  refine Go.st (fun _ h => XS.aloadN X2.here hx rfl (hb hby d_jdk_38_method_25_code_10) rfl rfl h) ?_
  show Go p e below _ T2 (mkF m 11 #[.val (.ref b1), .val (.ref y)] [(.ref b1)])
  refine Go.st (fun _ h => XS.aloadN X2.here hx rfl (hb hby d_jdk_38_method_25_code_11) rfl rfl h) ?_
  show Go p e below _ T2 (mkF m 12 #[.val (.ref b1), .val (.ref y)] [(.ref y), (.ref b1)])
  refine Go.st (fun _ h => XS.aloadN X2.here hx rfl (hb hby d_jdk_38_method_25_code_12) rfl rfl h) ?_
  show Go p e below _ T2 (mkF m 13 #[.val (.ref b1), .val (.ref y)] [(.ref b1), (.ref y), (.ref b1)])
  obtain ⟨T3, X3, e3, st3⟩ := getF X2 hx hZ hown (host := "") (Or.inl (hw _ (List.mem_of_getElem? (i := 37) rfl))) Via.refl e2 F2_1 (g := (mkF m 13 #[.val (.ref b1), .val (.ref y)] [(.ref b1), (.ref y), (.ref b1)])) rfl rfl (hb hby d_jdk_38_method_25_code_13)
  refine Go.st st3 ?_
  show Go p e below _ T3 (mkF m 16 #[.val (.ref b1), .val (.ref y)] [(.ref d0), (.ref y), (.ref b1)])
  refine Go.st (fun _ h => XS.aloadN X3.here hx rfl (hb hby d_jdk_38_method_25_code_16) rfl rfl h) ?_
  show Go p e below _ T3 (mkF m 17 #[.val (.ref b1), .val (.ref y)] [(.ref b1), (.ref d0), (.ref y), (.ref b1)])
  obtain ⟨T4, X4, e4, st4⟩ := getF X3 hx hZ hown (host := "") (Or.inl (hw _ (List.mem_of_getElem? (i := 53) rfl))) Via.refl e3 F2_3 (g := (mkF m 17 #[.val (.ref b1), .val (.ref y)] [(.ref b1), (.ref d0), (.ref y), (.ref b1)])) rfl rfl (hb hby d_jdk_38_method_25_code_17)
  refine Go.st st4 ?_
  show Go p e below _ T4 (mkF m 20 #[.val (.ref b1), .val (.ref y)] [(.int (0 : Int32)), (.ref d0), (.ref y), (.ref b1)])
  obtain ⟨_, T5, L5, X5, ⟨r5, kk5, vs5, rfl, Nc5, Kc5, lec5, hvs5, Vc5, Oc5, Fc5_0, Fc5_1, Fc5_2⟩, st5⟩ := Does.priv (y := (⟨"java/util/ArrayList", "add", "(Ljava/lang/Object;[Ljava/lang/Object;I)V"⟩ : MethodName)) (g := (mkF m 20 #[.val (.ref b1), .val (.ref y)] [(.int (0 : Int32)), (.ref d0), (.ref y), (.ref b1)])) (a := b1) (rmAdd3A l Z a0 hw b1 d0 kd (mc + (1 : Int32)) h2 n0 (Nat.le_trans Z0 K2.1) ne_d0 (own_stk S_D K2 (nsS (own_nsE E1) ns0)) (B_d0.keep K2 (ninS ne_d0 nin0)) F2_1 F2_3 F2_2 E2_0 g_b1 y (E_y.keep K2)) X4 hx hZ hown e4 E2_0 (hw _ (List.mem_of_getElem? (i := 55) rfl)) (hw _ (List.mem_of_getElem? (i := 56) rfl)) (hw _ (List.mem_of_getElem? (i := 58) rfl)) (hw _ (List.mem_of_getElem? (i := 57) rfl)) (hw _ (List.mem_of_getElem? (i := 15) rfl)) (hw _ (List.mem_of_getElem? (i := 59) rfl)) (by decide) rfl (by rw [hml]; rfl) (argsL := [(.ref y), (.ref d0), (.int (0 : Int32))]) (rest := []) (lenOf pd_28Ljava2flang2fObject3b5bLjava2flang2fObject3bI29V rfl) rfl (hb hby d_jdk_38_method_25_code_20) (W := 0) (by show 2 * 0 + _ ≤ _; exact Nat.le_of_eq rfl) (by decide) (by decide) (by decide) (by decide)
  have E5_0 := E2_0.keep Kc5
  have K5 := K2.trans Kc5 (allS (Or.inl (List.mem_of_getElem? (i := 0) rfl)) all0)
  have N5 := Fr.app N2 Nc5
  have le_r5 : h0.size ≤ r5 := Nat.le_trans K2.1 lec5
  have ne_b1_r5 : b1 ≠ r5 := Nat.ne_of_lt (Nat.lt_of_lt_of_le E2_0.lt lec5)
  have ne_d0_r5 : d0 ≠ r5 := Nat.ne_of_lt (Nat.lt_of_lt_of_le (B_d0.keep K2 (ninS ne_d0 nin0)).lt lec5)
  have ne_y_r5 : y ≠ r5 := Nat.ne_of_lt (Nat.lt_of_lt_of_le (E_y.keep K2).lt lec5)
  refine Go.st st5 ?_
  show Go p e below _ T5 (mkF m 23 #[.val (.ref b1), .val (.ref y)] [])
  refine Go.st (fun _ h => XT.iconstV X5.here hx rfl (1 : Int32) (hb hby d_jdk_38_method_25_code_23) (by decide) h) ?_
  show Go p e below _ T5 (mkF m 24 #[.val (.ref b1), .val (.ref y)] [(.int (1 : Int32))])
  refine Go.retZ X5 hx hlk hret rfl (hb hby d_jdk_38_method_25_code_24) (by decide) (by decide) ?_
  exact ⟨r5, kk5, _, rfl, N5, K5, le_r5, hvs5, Vc5, Oc5, Fc5_0, Fc5_1, Fc5_2⟩
theorem ef_rmAddB (x0 : Addr) (x1 : Addr) (m : MethodId) : entryFrame m #[(.ref x0), (.ref x1)] 2 = mkF m 0 #[.val (.ref x0), .val (.ref x1)] [] := by first | (simp [entryFrame, mkF, argsToLocals, Value.category]; done) | rfl
set_option maxRecDepth 65536 in
set_option maxHeartbeats 40000000 in
theorem rmAddB (l : Launch) (Z : State) (a0 : Array Value) (hw : ∀ d ∈ tables_1, d.before a0 Z = true) (b1 r1 : Addr) (kr : ClassId) (vs : List Value) (sz mc : Int32) (h0 : Heap) (n0 : Nat) (Z0 : n0 ≤ h0.size) (ne_r : r1 ≠ b1) (hvs : vs.length = 10) (hs0 : ¬ sz < 0) (hs1 : sz < (10 : Int32)) (B_r : Arv Z h0 r1 kr (.object "java/lang/Object") (10 : Int32) vs .null) (O_r : Ovr Z kr "java/lang/Object") (g_r1 : n0 ≤ r1) (F_e : Fld Z h0 b1 "java/util/ArrayList" "elementData" "[Ljava/lang/Object;" (.ref r1)) (F_s : Fld Z h0 b1 "java/util/ArrayList" "size" "I" (.int sz)) (F_m : Fld Z h0 b1 "java/util/AbstractList" "modCount" "I" (.int mc)) (E1 : Exa Z h0 b1 "java/util/ArrayList") (g_b1 : n0 ≤ b1) (y : Addr) (E_y : Exa Z h0 y "java/lang/Integer") :
    Does l Z (⟨"java/util/ArrayList", "add", "(Ljava/lang/Object;)Z"⟩ : MethodName) jdk_38_method_25_code 2 (some .boolean) [] ({ frames := 1, cells := 0, slots := 0, locals := 16 } : Room) #[(.ref b1), (.ref y)] h0 (fun v h L => ∃ vs', v = some (.int (1 : Int32)) ∧ Fr n0 L ∧ Keep h0 h [b1, r1] ∧ vs'.length = 10 ∧ Arv Z h r1 kr (.object "java/lang/Object") (10 : Int32) vs' .null ∧ Fld Z h b1 "java/util/ArrayList" "elementData" "[Ljava/lang/Object;" (.ref r1) ∧ Fld Z h b1 "java/util/ArrayList" "size" "I" (.int (sz + (1 : Int32))) ∧ Fld Z h b1 "java/util/AbstractList" "modCount" "I" (.int (mc + (1 : Int32)))) := by
  refine Does.intro (plainFor_of_name pn_java_util_ArrayList) (ef_rmAddB b1 y) ?_
  intro p e s m below meth c s₁ hx hby hml hown hnm hret hlk hZ e0 X0
  show Go p e below _ s₁ (mkF m 0 #[.val (.ref b1), .val (.ref y)] [])
  have N0 := Fr.nil n0
  refine Go.st (fun _ h => XS.aloadN X0.here hx rfl (hb hby d_jdk_38_method_25_code_0) rfl rfl h) ?_
  show Go p e below _ s₁ (mkF m 1 #[.val (.ref b1), .val (.ref y)] [(.ref b1)])
  refine Go.st (fun _ h => XS.dup X0.here hx rfl (hb hby d_jdk_38_method_25_code_1) rfl rfl h) ?_
  show Go p e below _ s₁ (mkF m 2 #[.val (.ref b1), .val (.ref y)] [(.ref b1), (.ref b1)])
  obtain ⟨T1, X1, e1, st1⟩ := getF X0 hx hZ hown (host := "") (Or.inl (hw _ (List.mem_of_getElem? (i := 51) rfl))) (Via.of (hw _ (List.mem_of_getElem? (i := 52) rfl))) e0 F_m (g := (mkF m 2 #[.val (.ref b1), .val (.ref y)] [(.ref b1), (.ref b1)])) rfl rfl (hb hby d_jdk_38_method_25_code_2)
  refine Go.st st1 ?_
  show Go p e below _ T1 (mkF m 5 #[.val (.ref b1), .val (.ref y)] [(.int mc), (.ref b1)])
  refine Go.st (fun _ h => XT.iconstV X1.here hx rfl (1 : Int32) (hb hby d_jdk_38_method_25_code_5) (by decide) h) ?_
  show Go p e below _ T1 (mkF m 6 #[.val (.ref b1), .val (.ref y)] [(.int (1 : Int32)), (.int mc), (.ref b1)])
  refine Go.st (fun _ h => XS.iadd X1.here hx rfl (hb hby d_jdk_38_method_25_code_6) rfl h) ?_
  show Go p e below _ T1 (mkF m 7 #[.val (.ref b1), .val (.ref y)] [(.int (mc + (1 : Int32))), (.ref b1)])
  obtain ⟨T2, h2, X2, e2, W2, st2⟩ := putF X1 hx hZ hown (host := "") (Or.inl (hw _ (List.mem_of_getElem? (i := 51) rfl))) (Via.of (hw _ (List.mem_of_getElem? (i := 52) rfl))) e1 F_m E1 (Or.inl (hw _ (List.mem_of_getElem? (i := 35) rfl))) (hw _ (List.mem_of_getElem? (i := 14) rfl)) (ty := .int) (by decide) rfl rfl (g := (mkF m 7 #[.val (.ref b1), .val (.ref y)] [(.int (mc + (1 : Int32))), (.ref b1)])) rfl rfl (hb hby d_jdk_38_method_25_code_7)
  have N2 := Fr.snoc X2 N0 g_b1
  have E2_0 := E1.wr W2
  have F2_1 := F_e.other W2 (Or.inr (slot_ne (Or.inl (hw _ (List.mem_of_getElem? (i := 38) rfl))) (Or.inl (hw _ (List.mem_of_getElem? (i := 35) rfl))) (by decide) (t := (.array (.object "java/lang/Object"))) (by decide) (t' := .int) (by decide)))
  have F2_2 := F_m.same W2
  have F2_3 := F_s.other W2 (Or.inr (slot_ne (Or.inl (hw _ (List.mem_of_getElem? (i := 54) rfl))) (Or.inl (hw _ (List.mem_of_getElem? (i := 35) rfl))) (by decide) (t := .int) (by decide) (t' := .int) (by decide)))
  have V2_4 := B_r.other W2 ne_r
  have K2 := (Keep.refl _ [b1, r1]).wr W2 (Or.inl (List.mem_of_getElem? (i := 0) rfl))
  refine Go.st st2 ?_
  show Go p e below _ T2 (mkF m 10 #[.val (.ref b1), .val (.ref y)] [])
  refine Go.st (fun _ h => XS.aloadN X2.here hx rfl (hb hby d_jdk_38_method_25_code_10) rfl rfl h) ?_
  show Go p e below _ T2 (mkF m 11 #[.val (.ref b1), .val (.ref y)] [(.ref b1)])
  refine Go.st (fun _ h => XS.aloadN X2.here hx rfl (hb hby d_jdk_38_method_25_code_11) rfl rfl h) ?_
  show Go p e below _ T2 (mkF m 12 #[.val (.ref b1), .val (.ref y)] [(.ref y), (.ref b1)])
  refine Go.st (fun _ h => XS.aloadN X2.here hx rfl (hb hby d_jdk_38_method_25_code_12) rfl rfl h) ?_
  show Go p e below _ T2 (mkF m 13 #[.val (.ref b1), .val (.ref y)] [(.ref b1), (.ref y), (.ref b1)])
  obtain ⟨T3, X3, e3, st3⟩ := getF X2 hx hZ hown (host := "") (Or.inl (hw _ (List.mem_of_getElem? (i := 37) rfl))) Via.refl e2 F2_1 (g := (mkF m 13 #[.val (.ref b1), .val (.ref y)] [(.ref b1), (.ref y), (.ref b1)])) rfl rfl (hb hby d_jdk_38_method_25_code_13)
  refine Go.st st3 ?_
  show Go p e below _ T3 (mkF m 16 #[.val (.ref b1), .val (.ref y)] [(.ref r1), (.ref y), (.ref b1)])
  refine Go.st (fun _ h => XS.aloadN X3.here hx rfl (hb hby d_jdk_38_method_25_code_16) rfl rfl h) ?_
  show Go p e below _ T3 (mkF m 17 #[.val (.ref b1), .val (.ref y)] [(.ref b1), (.ref r1), (.ref y), (.ref b1)])
  obtain ⟨T4, X4, e4, st4⟩ := getF X3 hx hZ hown (host := "") (Or.inl (hw _ (List.mem_of_getElem? (i := 53) rfl))) Via.refl e3 F2_3 (g := (mkF m 17 #[.val (.ref b1), .val (.ref y)] [(.ref b1), (.ref r1), (.ref y), (.ref b1)])) rfl rfl (hb hby d_jdk_38_method_25_code_17)
  refine Go.st st4 ?_
  show Go p e below _ T4 (mkF m 20 #[.val (.ref b1), .val (.ref y)] [(.int sz), (.ref r1), (.ref y), (.ref b1)])
  obtain ⟨_, T5, L5, X5, ⟨vs5, rfl, Nc5, Kc5, hvs5, Vc5, Fc5_0, Fc5_1, Fc5_2⟩, st5⟩ := Does.priv (y := (⟨"java/util/ArrayList", "add", "(Ljava/lang/Object;[Ljava/lang/Object;I)V"⟩ : MethodName)) (g := (mkF m 20 #[.val (.ref b1), .val (.ref y)] [(.int sz), (.ref r1), (.ref y), (.ref b1)])) (a := b1) (rmAdd3B l Z a0 hw b1 r1 kr vs sz (mc + (1 : Int32)) h2 n0 (Nat.le_trans Z0 K2.1) ne_r hvs hs0 hs1 V2_4 O_r g_r1 F2_1 F2_3 F2_2 E2_0 g_b1 y (E_y.keep K2)) X4 hx hZ hown e4 E2_0 (hw _ (List.mem_of_getElem? (i := 55) rfl)) (hw _ (List.mem_of_getElem? (i := 56) rfl)) (hw _ (List.mem_of_getElem? (i := 58) rfl)) (hw _ (List.mem_of_getElem? (i := 57) rfl)) (hw _ (List.mem_of_getElem? (i := 15) rfl)) (hw _ (List.mem_of_getElem? (i := 59) rfl)) (by decide) rfl (by rw [hml]; rfl) (argsL := [(.ref y), (.ref r1), (.int sz)]) (rest := []) (lenOf pd_28Ljava2flang2fObject3b5bLjava2flang2fObject3bI29V rfl) rfl (hb hby d_jdk_38_method_25_code_20) (W := 0) (by show 2 * 0 + _ ≤ _; exact Nat.le_of_eq rfl) (by decide) (by decide) (by decide) (by decide)
  have E5_0 := E2_0.keep Kc5
  have K5 := K2.trans Kc5 (allS (Or.inl (List.mem_of_getElem? (i := 0) rfl)) (allS (Or.inl (List.mem_of_getElem? (i := 1) rfl)) all0))
  have N5 := Fr.app N2 Nc5
  refine Go.st st5 ?_
  show Go p e below _ T5 (mkF m 23 #[.val (.ref b1), .val (.ref y)] [])
  refine Go.st (fun _ h => XT.iconstV X5.here hx rfl (1 : Int32) (hb hby d_jdk_38_method_25_code_23) (by decide) h) ?_
  show Go p e below _ T5 (mkF m 24 #[.val (.ref b1), .val (.ref y)] [(.int (1 : Int32))])
  refine Go.retZ X5 hx hlk hret rfl (hb hby d_jdk_38_method_25_code_24) (by decide) (by decide) ?_
  exact ⟨_, rfl, N5, K5, hvs5, Vc5, Fc5_0, Fc5_1, Fc5_2⟩
theorem ef_rmVal0 (x0 : Int32) (m : MethodId) : entryFrame m #[(.int x0)] 1 = mkF m 0 #[.val (.int x0)] [] := by first | (simp [entryFrame, mkF, argsToLocals, Value.category]; done) | rfl
set_option maxRecDepth 65536 in
set_option maxHeartbeats 40000000 in
theorem rmVal0 (l : Launch) (Z : State) (a0 : Array Value) (hw : ∀ d ∈ tables_1, d.before a0 Z = true) (ca y : Addr) (cc : Cell) (h0 : Heap) (S_H : Sta Z h0 "java/lang/Integer$IntegerCache" "high" "I" (.int (127 : Int32))) (S_C : Sta Z h0 "java/lang/Integer$IntegerCache" "cache" "[Ljava/lang/Integer;" (.ref ca)) (A_c : Arr Z h0 ca cc (.object "java/lang/Integer")) (hcc : cc.slots.size = 256) (hy : cc.slots[128]? = some (.ref y)) :
    Does l Z (⟨"java/lang/Integer", "valueOf", "(I)Ljava/lang/Integer;"⟩ : MethodName) jdk_33_method_22_code 1 (some (.object "java/lang/Integer")) [] ({ frames := 0, cells := 0, slots := 0, locals := 0 } : Room) #[(.int (0 : Int32))] h0 (Val (some (.ref y)) h0) := by
  refine Does.intro (plainFor_of_name pn_java_lang_Integer) (ef_rmVal0 (0 : Int32)) ?_
  intro p e s m below meth c s₁ hx hby hml hown hnm hret hlk hZ e0 X0
  show Go p e below _ s₁ (mkF m 0 #[.val (.int (0 : Int32))] [])
  refine Go.st (fun _ h => XS.iloadN X0.here hx rfl (hb hby d_jdk_33_method_22_code_0) rfl h) ?_
  show Go p e below _ s₁ (mkF m 1 #[.val (.int (0 : Int32))] [(.int (0 : Int32))])
  refine Go.st (fun _ h => XT.bipushV X0.here hx rfl (-128 : Int32) (hb hby d_jdk_33_method_22_code_1) (by decide) h) ?_
  show Go p e below _ s₁ (mkF m 3 #[.val (.int (0 : Int32))] [(.int (-128 : Int32)), (.int (0 : Int32))])
  refine Go.st (fun _ h => XS.icmpNo X0.here hx rfl (hb hby d_jdk_33_method_22_code_3) rfl (by decide) h) ?_
  show Go p e below _ s₁ (mkF m 6 #[.val (.int (0 : Int32))] [])
  refine Go.st (fun _ h => XS.iloadN X0.here hx rfl (hb hby d_jdk_33_method_22_code_6) rfl h) ?_
  show Go p e below _ s₁ (mkF m 7 #[.val (.int (0 : Int32))] [(.int (0 : Int32))])
  obtain ⟨T1, X1, e1, st1⟩ := getS2 X0 hx hZ hown (host := "") (Or.inl (hw _ (List.mem_of_getElem? (i := 43) rfl))) Via.refl e0 S_H (g := (mkF m 7 #[.val (.int (0 : Int32))] [(.int (0 : Int32))])) rfl (hb hby d_jdk_33_method_22_code_7)
  refine Go.st st1 ?_
  show Go p e below _ T1 (mkF m 10 #[.val (.int (0 : Int32))] [(.int (127 : Int32)), (.int (0 : Int32))])
  refine Go.st (fun _ h => XS.icmpNo X1.here hx rfl (hb hby d_jdk_33_method_22_code_10) rfl (by decide) h) ?_
  show Go p e below _ T1 (mkF m 13 #[.val (.int (0 : Int32))] [])
  obtain ⟨T2, X2, e2, st2⟩ := getS2 X1 hx hZ hown (host := "") (Or.inl (hw _ (List.mem_of_getElem? (i := 45) rfl))) Via.refl e1 S_C (g := (mkF m 13 #[.val (.int (0 : Int32))] [])) rfl (hb hby d_jdk_33_method_22_code_13)
  refine Go.st st2 ?_
  show Go p e below _ T2 (mkF m 16 #[.val (.int (0 : Int32))] [(.ref ca)])
  refine Go.st (fun _ h => XS.iloadN X2.here hx rfl (hb hby d_jdk_33_method_22_code_16) rfl h) ?_
  show Go p e below _ T2 (mkF m 17 #[.val (.int (0 : Int32))] [(.int (0 : Int32)), (.ref ca)])
  refine Go.st (fun _ h => XT.sipushV X2.here hx rfl (128 : Int32) (hb hby d_jdk_33_method_22_code_17) (by decide) h) ?_
  show Go p e below _ T2 (mkF m 20 #[.val (.int (0 : Int32))] [(.int (128 : Int32)), (.int (0 : Int32)), (.ref ca)])
  refine Go.st (fun _ h => XS.iadd X2.here hx rfl (hb hby d_jdk_33_method_22_code_20) rfl h) ?_
  show Go p e below _ T2 (mkF m 21 #[.val (.int (0 : Int32))] [(.int ((0 : Int32) + (128 : Int32))), (.ref ca)])
  refine Go.st (own_ldCell X2 hx hZ e2 A_c rfl (j := ((0 : Int32) + (128 : Int32))) (by rw [hcc]; decide) hy rfl rfl (hb hby d_jdk_33_method_22_code_21)) ?_
  show Go p e below _ T2 (mkF m 22 #[.val (.int (0 : Int32))] [(.ref y)])
  refine Go.retA X2 hx hlk hret rfl rfl rfl (hb hby d_jdk_33_method_22_code_22) (by decide) (by decide) ?_
  exact ⟨rfl, rfl, e2⟩
theorem ef_rmVal1 (x0 : Int32) (m : MethodId) : entryFrame m #[(.int x0)] 1 = mkF m 0 #[.val (.int x0)] [] := by first | (simp [entryFrame, mkF, argsToLocals, Value.category]; done) | rfl
set_option maxRecDepth 65536 in
set_option maxHeartbeats 40000000 in
theorem rmVal1 (l : Launch) (Z : State) (a0 : Array Value) (hw : ∀ d ∈ tables_1, d.before a0 Z = true) (ca y : Addr) (cc : Cell) (h0 : Heap) (S_H : Sta Z h0 "java/lang/Integer$IntegerCache" "high" "I" (.int (127 : Int32))) (S_C : Sta Z h0 "java/lang/Integer$IntegerCache" "cache" "[Ljava/lang/Integer;" (.ref ca)) (A_c : Arr Z h0 ca cc (.object "java/lang/Integer")) (hcc : cc.slots.size = 256) (hy : cc.slots[129]? = some (.ref y)) :
    Does l Z (⟨"java/lang/Integer", "valueOf", "(I)Ljava/lang/Integer;"⟩ : MethodName) jdk_33_method_22_code 1 (some (.object "java/lang/Integer")) [] ({ frames := 0, cells := 0, slots := 0, locals := 0 } : Room) #[(.int (1 : Int32))] h0 (Val (some (.ref y)) h0) := by
  refine Does.intro (plainFor_of_name pn_java_lang_Integer) (ef_rmVal1 (1 : Int32)) ?_
  intro p e s m below meth c s₁ hx hby hml hown hnm hret hlk hZ e0 X0
  show Go p e below _ s₁ (mkF m 0 #[.val (.int (1 : Int32))] [])
  refine Go.st (fun _ h => XS.iloadN X0.here hx rfl (hb hby d_jdk_33_method_22_code_0) rfl h) ?_
  show Go p e below _ s₁ (mkF m 1 #[.val (.int (1 : Int32))] [(.int (1 : Int32))])
  refine Go.st (fun _ h => XT.bipushV X0.here hx rfl (-128 : Int32) (hb hby d_jdk_33_method_22_code_1) (by decide) h) ?_
  show Go p e below _ s₁ (mkF m 3 #[.val (.int (1 : Int32))] [(.int (-128 : Int32)), (.int (1 : Int32))])
  refine Go.st (fun _ h => XS.icmpNo X0.here hx rfl (hb hby d_jdk_33_method_22_code_3) rfl (by decide) h) ?_
  show Go p e below _ s₁ (mkF m 6 #[.val (.int (1 : Int32))] [])
  refine Go.st (fun _ h => XS.iloadN X0.here hx rfl (hb hby d_jdk_33_method_22_code_6) rfl h) ?_
  show Go p e below _ s₁ (mkF m 7 #[.val (.int (1 : Int32))] [(.int (1 : Int32))])
  obtain ⟨T1, X1, e1, st1⟩ := getS2 X0 hx hZ hown (host := "") (Or.inl (hw _ (List.mem_of_getElem? (i := 43) rfl))) Via.refl e0 S_H (g := (mkF m 7 #[.val (.int (1 : Int32))] [(.int (1 : Int32))])) rfl (hb hby d_jdk_33_method_22_code_7)
  refine Go.st st1 ?_
  show Go p e below _ T1 (mkF m 10 #[.val (.int (1 : Int32))] [(.int (127 : Int32)), (.int (1 : Int32))])
  refine Go.st (fun _ h => XS.icmpNo X1.here hx rfl (hb hby d_jdk_33_method_22_code_10) rfl (by decide) h) ?_
  show Go p e below _ T1 (mkF m 13 #[.val (.int (1 : Int32))] [])
  obtain ⟨T2, X2, e2, st2⟩ := getS2 X1 hx hZ hown (host := "") (Or.inl (hw _ (List.mem_of_getElem? (i := 45) rfl))) Via.refl e1 S_C (g := (mkF m 13 #[.val (.int (1 : Int32))] [])) rfl (hb hby d_jdk_33_method_22_code_13)
  refine Go.st st2 ?_
  show Go p e below _ T2 (mkF m 16 #[.val (.int (1 : Int32))] [(.ref ca)])
  refine Go.st (fun _ h => XS.iloadN X2.here hx rfl (hb hby d_jdk_33_method_22_code_16) rfl h) ?_
  show Go p e below _ T2 (mkF m 17 #[.val (.int (1 : Int32))] [(.int (1 : Int32)), (.ref ca)])
  refine Go.st (fun _ h => XT.sipushV X2.here hx rfl (128 : Int32) (hb hby d_jdk_33_method_22_code_17) (by decide) h) ?_
  show Go p e below _ T2 (mkF m 20 #[.val (.int (1 : Int32))] [(.int (128 : Int32)), (.int (1 : Int32)), (.ref ca)])
  refine Go.st (fun _ h => XS.iadd X2.here hx rfl (hb hby d_jdk_33_method_22_code_20) rfl h) ?_
  show Go p e below _ T2 (mkF m 21 #[.val (.int (1 : Int32))] [(.int ((1 : Int32) + (128 : Int32))), (.ref ca)])
  refine Go.st (own_ldCell X2 hx hZ e2 A_c rfl (j := ((1 : Int32) + (128 : Int32))) (by rw [hcc]; decide) hy rfl rfl (hb hby d_jdk_33_method_22_code_21)) ?_
  show Go p e below _ T2 (mkF m 22 #[.val (.int (1 : Int32))] [(.ref y)])
  refine Go.retA X2 hx hlk hret rfl rfl rfl (hb hby d_jdk_33_method_22_code_22) (by decide) (by decide) ?_
  exact ⟨rfl, rfl, e2⟩
theorem ef_rmVal2 (x0 : Int32) (m : MethodId) : entryFrame m #[(.int x0)] 1 = mkF m 0 #[.val (.int x0)] [] := by first | (simp [entryFrame, mkF, argsToLocals, Value.category]; done) | rfl
set_option maxRecDepth 65536 in
set_option maxHeartbeats 40000000 in
theorem rmVal2 (l : Launch) (Z : State) (a0 : Array Value) (hw : ∀ d ∈ tables_1, d.before a0 Z = true) (ca y : Addr) (cc : Cell) (h0 : Heap) (S_H : Sta Z h0 "java/lang/Integer$IntegerCache" "high" "I" (.int (127 : Int32))) (S_C : Sta Z h0 "java/lang/Integer$IntegerCache" "cache" "[Ljava/lang/Integer;" (.ref ca)) (A_c : Arr Z h0 ca cc (.object "java/lang/Integer")) (hcc : cc.slots.size = 256) (hy : cc.slots[130]? = some (.ref y)) :
    Does l Z (⟨"java/lang/Integer", "valueOf", "(I)Ljava/lang/Integer;"⟩ : MethodName) jdk_33_method_22_code 1 (some (.object "java/lang/Integer")) [] ({ frames := 0, cells := 0, slots := 0, locals := 0 } : Room) #[(.int (2 : Int32))] h0 (Val (some (.ref y)) h0) := by
  refine Does.intro (plainFor_of_name pn_java_lang_Integer) (ef_rmVal2 (2 : Int32)) ?_
  intro p e s m below meth c s₁ hx hby hml hown hnm hret hlk hZ e0 X0
  show Go p e below _ s₁ (mkF m 0 #[.val (.int (2 : Int32))] [])
  refine Go.st (fun _ h => XS.iloadN X0.here hx rfl (hb hby d_jdk_33_method_22_code_0) rfl h) ?_
  show Go p e below _ s₁ (mkF m 1 #[.val (.int (2 : Int32))] [(.int (2 : Int32))])
  refine Go.st (fun _ h => XT.bipushV X0.here hx rfl (-128 : Int32) (hb hby d_jdk_33_method_22_code_1) (by decide) h) ?_
  show Go p e below _ s₁ (mkF m 3 #[.val (.int (2 : Int32))] [(.int (-128 : Int32)), (.int (2 : Int32))])
  refine Go.st (fun _ h => XS.icmpNo X0.here hx rfl (hb hby d_jdk_33_method_22_code_3) rfl (by decide) h) ?_
  show Go p e below _ s₁ (mkF m 6 #[.val (.int (2 : Int32))] [])
  refine Go.st (fun _ h => XS.iloadN X0.here hx rfl (hb hby d_jdk_33_method_22_code_6) rfl h) ?_
  show Go p e below _ s₁ (mkF m 7 #[.val (.int (2 : Int32))] [(.int (2 : Int32))])
  obtain ⟨T1, X1, e1, st1⟩ := getS2 X0 hx hZ hown (host := "") (Or.inl (hw _ (List.mem_of_getElem? (i := 43) rfl))) Via.refl e0 S_H (g := (mkF m 7 #[.val (.int (2 : Int32))] [(.int (2 : Int32))])) rfl (hb hby d_jdk_33_method_22_code_7)
  refine Go.st st1 ?_
  show Go p e below _ T1 (mkF m 10 #[.val (.int (2 : Int32))] [(.int (127 : Int32)), (.int (2 : Int32))])
  refine Go.st (fun _ h => XS.icmpNo X1.here hx rfl (hb hby d_jdk_33_method_22_code_10) rfl (by decide) h) ?_
  show Go p e below _ T1 (mkF m 13 #[.val (.int (2 : Int32))] [])
  obtain ⟨T2, X2, e2, st2⟩ := getS2 X1 hx hZ hown (host := "") (Or.inl (hw _ (List.mem_of_getElem? (i := 45) rfl))) Via.refl e1 S_C (g := (mkF m 13 #[.val (.int (2 : Int32))] [])) rfl (hb hby d_jdk_33_method_22_code_13)
  refine Go.st st2 ?_
  show Go p e below _ T2 (mkF m 16 #[.val (.int (2 : Int32))] [(.ref ca)])
  refine Go.st (fun _ h => XS.iloadN X2.here hx rfl (hb hby d_jdk_33_method_22_code_16) rfl h) ?_
  show Go p e below _ T2 (mkF m 17 #[.val (.int (2 : Int32))] [(.int (2 : Int32)), (.ref ca)])
  refine Go.st (fun _ h => XT.sipushV X2.here hx rfl (128 : Int32) (hb hby d_jdk_33_method_22_code_17) (by decide) h) ?_
  show Go p e below _ T2 (mkF m 20 #[.val (.int (2 : Int32))] [(.int (128 : Int32)), (.int (2 : Int32)), (.ref ca)])
  refine Go.st (fun _ h => XS.iadd X2.here hx rfl (hb hby d_jdk_33_method_22_code_20) rfl h) ?_
  show Go p e below _ T2 (mkF m 21 #[.val (.int (2 : Int32))] [(.int ((2 : Int32) + (128 : Int32))), (.ref ca)])
  refine Go.st (own_ldCell X2 hx hZ e2 A_c rfl (j := ((2 : Int32) + (128 : Int32))) (by rw [hcc]; decide) hy rfl rfl (hb hby d_jdk_33_method_22_code_21)) ?_
  show Go p e below _ T2 (mkF m 22 #[.val (.int (2 : Int32))] [(.ref y)])
  refine Go.retA X2 hx hlk hret rfl rfl rfl (hb hby d_jdk_33_method_22_code_22) (by decide) (by decide) ?_
  exact ⟨rfl, rfl, e2⟩
theorem ef_rmVal3 (x0 : Int32) (m : MethodId) : entryFrame m #[(.int x0)] 1 = mkF m 0 #[.val (.int x0)] [] := by first | (simp [entryFrame, mkF, argsToLocals, Value.category]; done) | rfl
set_option maxRecDepth 65536 in
set_option maxHeartbeats 40000000 in
theorem rmVal3 (l : Launch) (Z : State) (a0 : Array Value) (hw : ∀ d ∈ tables_1, d.before a0 Z = true) (ca y : Addr) (cc : Cell) (h0 : Heap) (S_H : Sta Z h0 "java/lang/Integer$IntegerCache" "high" "I" (.int (127 : Int32))) (S_C : Sta Z h0 "java/lang/Integer$IntegerCache" "cache" "[Ljava/lang/Integer;" (.ref ca)) (A_c : Arr Z h0 ca cc (.object "java/lang/Integer")) (hcc : cc.slots.size = 256) (hy : cc.slots[131]? = some (.ref y)) :
    Does l Z (⟨"java/lang/Integer", "valueOf", "(I)Ljava/lang/Integer;"⟩ : MethodName) jdk_33_method_22_code 1 (some (.object "java/lang/Integer")) [] ({ frames := 0, cells := 0, slots := 0, locals := 0 } : Room) #[(.int (3 : Int32))] h0 (Val (some (.ref y)) h0) := by
  refine Does.intro (plainFor_of_name pn_java_lang_Integer) (ef_rmVal3 (3 : Int32)) ?_
  intro p e s m below meth c s₁ hx hby hml hown hnm hret hlk hZ e0 X0
  show Go p e below _ s₁ (mkF m 0 #[.val (.int (3 : Int32))] [])
  refine Go.st (fun _ h => XS.iloadN X0.here hx rfl (hb hby d_jdk_33_method_22_code_0) rfl h) ?_
  show Go p e below _ s₁ (mkF m 1 #[.val (.int (3 : Int32))] [(.int (3 : Int32))])
  refine Go.st (fun _ h => XT.bipushV X0.here hx rfl (-128 : Int32) (hb hby d_jdk_33_method_22_code_1) (by decide) h) ?_
  show Go p e below _ s₁ (mkF m 3 #[.val (.int (3 : Int32))] [(.int (-128 : Int32)), (.int (3 : Int32))])
  refine Go.st (fun _ h => XS.icmpNo X0.here hx rfl (hb hby d_jdk_33_method_22_code_3) rfl (by decide) h) ?_
  show Go p e below _ s₁ (mkF m 6 #[.val (.int (3 : Int32))] [])
  refine Go.st (fun _ h => XS.iloadN X0.here hx rfl (hb hby d_jdk_33_method_22_code_6) rfl h) ?_
  show Go p e below _ s₁ (mkF m 7 #[.val (.int (3 : Int32))] [(.int (3 : Int32))])
  obtain ⟨T1, X1, e1, st1⟩ := getS2 X0 hx hZ hown (host := "") (Or.inl (hw _ (List.mem_of_getElem? (i := 43) rfl))) Via.refl e0 S_H (g := (mkF m 7 #[.val (.int (3 : Int32))] [(.int (3 : Int32))])) rfl (hb hby d_jdk_33_method_22_code_7)
  refine Go.st st1 ?_
  show Go p e below _ T1 (mkF m 10 #[.val (.int (3 : Int32))] [(.int (127 : Int32)), (.int (3 : Int32))])
  refine Go.st (fun _ h => XS.icmpNo X1.here hx rfl (hb hby d_jdk_33_method_22_code_10) rfl (by decide) h) ?_
  show Go p e below _ T1 (mkF m 13 #[.val (.int (3 : Int32))] [])
  obtain ⟨T2, X2, e2, st2⟩ := getS2 X1 hx hZ hown (host := "") (Or.inl (hw _ (List.mem_of_getElem? (i := 45) rfl))) Via.refl e1 S_C (g := (mkF m 13 #[.val (.int (3 : Int32))] [])) rfl (hb hby d_jdk_33_method_22_code_13)
  refine Go.st st2 ?_
  show Go p e below _ T2 (mkF m 16 #[.val (.int (3 : Int32))] [(.ref ca)])
  refine Go.st (fun _ h => XS.iloadN X2.here hx rfl (hb hby d_jdk_33_method_22_code_16) rfl h) ?_
  show Go p e below _ T2 (mkF m 17 #[.val (.int (3 : Int32))] [(.int (3 : Int32)), (.ref ca)])
  refine Go.st (fun _ h => XT.sipushV X2.here hx rfl (128 : Int32) (hb hby d_jdk_33_method_22_code_17) (by decide) h) ?_
  show Go p e below _ T2 (mkF m 20 #[.val (.int (3 : Int32))] [(.int (128 : Int32)), (.int (3 : Int32)), (.ref ca)])
  refine Go.st (fun _ h => XS.iadd X2.here hx rfl (hb hby d_jdk_33_method_22_code_20) rfl h) ?_
  show Go p e below _ T2 (mkF m 21 #[.val (.int (3 : Int32))] [(.int ((3 : Int32) + (128 : Int32))), (.ref ca)])
  refine Go.st (own_ldCell X2 hx hZ e2 A_c rfl (j := ((3 : Int32) + (128 : Int32))) (by rw [hcc]; decide) hy rfl rfl (hb hby d_jdk_33_method_22_code_21)) ?_
  show Go p e below _ T2 (mkF m 22 #[.val (.int (3 : Int32))] [(.ref y)])
  refine Go.retA X2 hx hlk hret rfl rfl rfl (hb hby d_jdk_33_method_22_code_22) (by decide) (by decide) ?_
  exact ⟨rfl, rfl, e2⟩
theorem ef_rmItems (x0 : Int32) (m : MethodId) : entryFrame m #[(.int x0)] 2 = mkF m 0 #[.val (.int x0), .unset] [] := by first | (simp [entryFrame, mkF, argsToLocals, Value.category]; done) | rfl
set_option maxRecDepth 65536 in
set_option maxHeartbeats 40000000 in
theorem rmItems (l : Launch) (Z : State) (a0 : Array Value) (hw : ∀ d ∈ tables_1, d.before a0 Z = true) (p1 : Int32) (d0 ca y0 y1 y2 y3 : Addr) (kd : ClassId) (cc : Cell) (h0 : Heap) (n0 : Nat) (Z0 : n0 ≤ h0.size) (S_D : Sta Z h0 "java/util/ArrayList" "DEFAULTCAPACITY_EMPTY_ELEMENTDATA" "[Ljava/lang/Object;" (.ref d0)) (B_d0 : Arv Z h0 d0 kd (.object "java/lang/Object") (0 : Int32) [] .null) (S_H : Sta Z h0 "java/lang/Integer$IntegerCache" "high" "I" (.int (127 : Int32))) (S_C : Sta Z h0 "java/lang/Integer$IntegerCache" "cache" "[Ljava/lang/Integer;" (.ref ca)) (A_c : Arr Z h0 ca cc (.object "java/lang/Integer")) (hcc : cc.slots.size = 256) (hy0 : cc.slots[128]? = some (.ref y0)) (E_y0 : Exa Z h0 y0 "java/lang/Integer") (hy1 : cc.slots[129]? = some (.ref y1)) (E_y1 : Exa Z h0 y1 "java/lang/Integer") (hy2 : cc.slots[130]? = some (.ref y2)) (E_y2 : Exa Z h0 y2 "java/lang/Integer") (hy3 : cc.slots[131]? = some (.ref y3)) (E_y3 : Exa Z h0 y3 "java/lang/Integer") :
    Does l Z (⟨"com/example/bindwell/bindwell/collect/ListChangeMovesFromPinLaw", "items", "(I)Ljava/util/ArrayList;"⟩ : MethodName) method_5_code 2 (some (.object "java/util/ArrayList")) [] ({ frames := 5, cells := 2, slots := 13, locals := 70 } : Room) #[(.int p1)] h0 (fun v h L => ∃ r, v = some (.ref r) ∧ Fr n0 L ∧ Keep h0 h []) := by
  refine Does.intro (plainFor_of_name pn_com_example_bindwell_bindwell_collect_ListChangeMovesFromPinLaw) (ef_rmItems p1) ?_
  intro p e s m below meth c s₁ hx hby hml hown hnm hret hlk hZ e0 X0
  show Go p e below _ s₁ (mkF m 0 #[.val (.int p1), .unset] [])
  have N0 := Fr.nil n0
  obtain ⟨T1, h1, X1, e1, E1, A1, D1, -, st1⟩ := newO X0 hx hZ hown (hw _ (List.mem_of_getElem? (i := 13) rfl)) (hw _ (List.mem_of_getElem? (i := 14) rfl)) (hw _ (List.mem_of_getElem? (i := 15) rfl)) e0 (g := (mkF m 0 #[.val (.int p1), .unset] [])) rfl (hb hby d_method_5_code_0) (by decide) (by decide)
  obtain ⟨o1, g1⟩ : ∃ z, z = h0.size := ⟨_, rfl⟩
  rw [← g1] at A1 D1 st1
  have ne_d0_o1 : d0 ≠ o1 := by rw [g1]; exact Nat.ne_of_lt B_d0.lt
  have ne_y0_o1 : y0 ≠ o1 := by rw [g1]; exact Nat.ne_of_lt E_y0.lt
  have ne_y1_o1 : y1 ≠ o1 := by rw [g1]; exact Nat.ne_of_lt E_y1.lt
  have ne_y2_o1 : y2 ≠ o1 := by rw [g1]; exact Nat.ne_of_lt E_y2.lt
  have ne_y3_o1 : y3 ≠ o1 := by rw [g1]; exact Nat.ne_of_lt E_y3.lt
  have le_o1 : h0.size ≤ o1 := by rw [g1]; exact (Keep.refl _ []).1
  have K1 := (Keep.refl _ []).ext E1
  have F1_modCount : Fld Z h1 o1 "java/util/AbstractList" "modCount" "I" (.int (0 : Int32)) := D1 (Or.inl (hw _ (List.mem_of_getElem? (i := 35) rfl))) (ty := .int) (by decide)
  have F1_elementData : Fld Z h1 o1 "java/util/ArrayList" "elementData" "[Ljava/lang/Object;" .null := D1 (Or.inl (hw _ (List.mem_of_getElem? (i := 38) rfl))) (ty := (.array (.object "java/lang/Object"))) (by decide)
  have F1_size : Fld Z h1 o1 "java/util/ArrayList" "size" "I" (.int (0 : Int32)) := D1 (Or.inl (hw _ (List.mem_of_getElem? (i := 54) rfl))) (ty := .int) (by decide)
  refine Go.st st1 ?_
  show Go p e below _ T1 (mkF m 3 #[.val (.int p1), .unset] [(.ref o1)])
  refine Go.st (fun _ h => XS.dup X1.here hx rfl (hb hby d_method_5_code_3) rfl rfl h) ?_
  show Go p e below _ T1 (mkF m 4 #[.val (.int p1), .unset] [(.ref o1), (.ref o1)])
  obtain ⟨_, T2, L2, X2, ⟨rfl, Nc2, Kc2, Fc2_0, Fc2_1, Fc2_2⟩, st2⟩ := Does.special (y := (⟨"java/util/ArrayList", "<init>", "()V"⟩ : MethodName)) (g := (mkF m 4 #[.val (.int p1), .unset] [(.ref o1), (.ref o1)])) (a := o1) (rmALI l Z a0 hw o1 d0 h1 n0 (Nat.le_trans Z0 K1.1) (S_D.ext (own_ext K1)) F1_elementData F1_size F1_modCount A1 (Nat.le_trans Z0 le_o1)) X1 hx hZ hown e1 rfl (hw _ (List.mem_of_getElem? (i := 16) rfl)) (hw _ (List.mem_of_getElem? (i := 17) rfl)) (hw _ (List.mem_of_getElem? (i := 15) rfl)) (hw _ (List.mem_of_getElem? (i := 18) rfl)) (by decide) rfl (by rw [hml]; rfl) (argsL := []) (rest := [(.ref o1)]) (lenOf pd_2829V rfl) rfl (hb hby d_method_5_code_4) (W := 1) (by show 2 * 0 + _ ≤ _; exact Nat.le_of_eq rfl) (by decide) (by decide) (by decide) (by decide)
  have E2_0 := A1.keep Kc2
  have K2 := K1.trans Kc2 (allS (Or.inr le_o1) all0)
  have N2 := Fr.app N0 Nc2
  refine Go.st st2 ?_
  show Go p e below _ T2 (mkF m 7 #[.val (.int p1), .unset] [(.ref o1)])
  refine Go.st (fun _ h => XS.astoreN X2.here hx rfl (hb hby d_method_5_code_7) rfl rfl (l' := #[.val (.int p1), .val (.ref o1)]) rfl h) ?_
  show Go p e below _ T2 (mkF m 8 #[.val (.int p1), .val (.ref o1)] [])
  refine Go.st (fun _ h => XS.iloadN X2.here hx rfl (hb hby d_method_5_code_8) rfl h) ?_
  show Go p e below _ T2 (mkF m 9 #[.val (.int p1), .val (.ref o1)] [(.int p1)])
  refine Go.st (fun _ h => XT.iconstV X2.here hx rfl (1 : Int32) (hb hby d_method_5_code_9) (by decide) h) ?_
  show Go p e below _ T2 (mkF m 10 #[.val (.int p1), .val (.ref o1)] [(.int (1 : Int32)), (.int p1)])
  refine Go.st (fun _ h => XS.iand X2.here hx rfl (hb hby d_method_5_code_10) rfl h) ?_
  show Go p e below _ T2 (mkF m 11 #[.val (.int p1), .val (.ref o1)] [(.int (p1 &&& (1 : Int32)))])
  by_cases hc3 : (p1 &&& (1 : Int32)) = (0 : Int32)
  · refine Go.st (fun _ h => XS.ifYes X2.here hx rfl (pc0 := 11) (pc' := 23) rfl (hb hby d_method_5_code_11) rfl ((if0 _ _).trans (teq hc3).1) (by decide) (by decide) h) ?_
    show Go p e below _ T2 (mkF m 23 #[.val (.int p1), .val (.ref o1)] [])
    refine Go.st (fun _ h => XS.iloadN X2.here hx rfl (hb hby d_method_5_code_23) rfl h) ?_
    show Go p e below _ T2 (mkF m 24 #[.val (.int p1), .val (.ref o1)] [(.int p1)])
    refine Go.st (fun _ h => XT.iconstV X2.here hx rfl (2 : Int32) (hb hby d_method_5_code_24) (by decide) h) ?_
    show Go p e below _ T2 (mkF m 25 #[.val (.int p1), .val (.ref o1)] [(.int (2 : Int32)), (.int p1)])
    refine Go.st (fun _ h => XS.iand X2.here hx rfl (hb hby d_method_5_code_25) rfl h) ?_
    show Go p e below _ T2 (mkF m 26 #[.val (.int p1), .val (.ref o1)] [(.int (p1 &&& (2 : Int32)))])
    by_cases hc4 : (p1 &&& (2 : Int32)) = (0 : Int32)
    · refine Go.st (fun _ h => XS.ifYes X2.here hx rfl (pc0 := 26) (pc' := 38) rfl (hb hby d_method_5_code_26) rfl ((if0 _ _).trans (teq hc4).1) (by decide) (by decide) h) ?_
      show Go p e below _ T2 (mkF m 38 #[.val (.int p1), .val (.ref o1)] [])
      refine Go.st (fun _ h => XS.iloadN X2.here hx rfl (hb hby d_method_5_code_38) rfl h) ?_
      show Go p e below _ T2 (mkF m 39 #[.val (.int p1), .val (.ref o1)] [(.int p1)])
      refine Go.st (fun _ h => XT.iconstV X2.here hx rfl (4 : Int32) (hb hby d_method_5_code_39) (by decide) h) ?_
      show Go p e below _ T2 (mkF m 40 #[.val (.int p1), .val (.ref o1)] [(.int (4 : Int32)), (.int p1)])
      refine Go.st (fun _ h => XS.iand X2.here hx rfl (hb hby d_method_5_code_40) rfl h) ?_
      show Go p e below _ T2 (mkF m 41 #[.val (.int p1), .val (.ref o1)] [(.int (p1 &&& (4 : Int32)))])
      by_cases hc5 : (p1 &&& (4 : Int32)) = (0 : Int32)
      · refine Go.st (fun _ h => XS.ifYes X2.here hx rfl (pc0 := 41) (pc' := 53) rfl (hb hby d_method_5_code_41) rfl ((if0 _ _).trans (teq hc5).1) (by decide) (by decide) h) ?_
        show Go p e below _ T2 (mkF m 53 #[.val (.int p1), .val (.ref o1)] [])
        refine Go.st (fun _ h => XS.iloadN X2.here hx rfl (hb hby d_method_5_code_53) rfl h) ?_
        show Go p e below _ T2 (mkF m 54 #[.val (.int p1), .val (.ref o1)] [(.int p1)])
        refine Go.st (fun _ h => XT.bipushV X2.here hx rfl (8 : Int32) (hb hby d_method_5_code_54) (by decide) h) ?_
        show Go p e below _ T2 (mkF m 56 #[.val (.int p1), .val (.ref o1)] [(.int (8 : Int32)), (.int p1)])
        refine Go.st (fun _ h => XS.iand X2.here hx rfl (hb hby d_method_5_code_56) rfl h) ?_
        show Go p e below _ T2 (mkF m 57 #[.val (.int p1), .val (.ref o1)] [(.int (p1 &&& (8 : Int32)))])
        by_cases hc6 : (p1 &&& (8 : Int32)) = (0 : Int32)
        · refine Go.st (fun _ h => XS.ifYes X2.here hx rfl (pc0 := 57) (pc' := 69) rfl (hb hby d_method_5_code_57) rfl ((if0 _ _).trans (teq hc6).1) (by decide) (by decide) h) ?_
          show Go p e below _ T2 (mkF m 69 #[.val (.int p1), .val (.ref o1)] [])
          refine Go.st (fun _ h => XS.aloadN X2.here hx rfl (hb hby d_method_5_code_69) rfl rfl h) ?_
          show Go p e below _ T2 (mkF m 70 #[.val (.int p1), .val (.ref o1)] [(.ref o1)])
          refine Go.retA X2 hx hlk hret rfl rfl rfl (hb hby d_method_5_code_70) (by decide) (by decide) ?_
          exact ⟨o1, rfl, N2, K2⟩
        · refine Go.st (fun _ h => XS.ifNo X2.here hx rfl (hb hby d_method_5_code_57) rfl ((if0 _ _).trans (feq hc6).1) h) ?_
          show Go p e below _ T2 (mkF m 60 #[.val (.int p1), .val (.ref o1)] [])
          refine Go.st (fun _ h => XS.aloadN X2.here hx rfl (hb hby d_method_5_code_60) rfl rfl h) ?_
          show Go p e below _ T2 (mkF m 61 #[.val (.int p1), .val (.ref o1)] [(.ref o1)])
          refine Go.st (fun _ h => XT.iconstV X2.here hx rfl (3 : Int32) (hb hby d_method_5_code_61) (by decide) h) ?_
          show Go p e below _ T2 (mkF m 62 #[.val (.int p1), .val (.ref o1)] [(.int (3 : Int32)), (.ref o1)])
          obtain ⟨T7, X7, e7, st7⟩ := own_still rfl rfl (Does.static (y := (⟨"java/lang/Integer", "valueOf", "(I)Ljava/lang/Integer;"⟩ : MethodName)) (g := (mkF m 62 #[.val (.int p1), .val (.ref o1)] [(.int (3 : Int32)), (.ref o1)])) (rmVal3 l Z a0 hw ca y3 cc T2.heap (S_H.ext (own_ext K2)) (S_C.ext (own_ext K2)) (A_c.ext (own_ext K2)) hcc hy3) X2 hx hZ hown rfl (hw _ (List.mem_of_getElem? (i := 39) rfl)) (hw _ (List.mem_of_getElem? (i := 40) rfl)) (hw _ (List.mem_of_getElem? (i := 41) rfl)) (hw _ (List.mem_of_getElem? (i := 42) rfl)) (by decide) rfl (by rw [hml]; rfl) (argsL := [(.int (3 : Int32))]) (rest := [(.ref o1)]) (lenOf pd_28I29Ljava2flang2fInteger3b rfl) rfl (hb hby d_method_5_code_62) (W := 1) (by show 2 * 0 + _ ≤ _; exact Nat.le_of_eq rfl) (by decide) (by decide) (by decide) (by decide))
          refine Go.st st7 ?_
          show Go p e below _ T7 (mkF m 65 #[.val (.int p1), .val (.ref o1)] [(.ref y3), (.ref o1)])
          obtain ⟨_, T8, L8, X8, ⟨r8, kk8, vs8, rfl, Nc8, Kc8, lec8, hvs8, Vc8, Oc8, Fc8_0, Fc8_1, Fc8_2⟩, st8⟩ := Does.virtual (y := (⟨"java/util/ArrayList", "add", "(Ljava/lang/Object;)Z"⟩ : MethodName)) (g := (mkF m 65 #[.val (.int p1), .val (.ref o1)] [(.ref y3), (.ref o1)])) (a := o1) (rmAddA l Z a0 hw o1 d0 kd (0 : Int32) T2.heap n0 (Nat.le_trans Z0 K2.1) ne_d0_o1 (S_D.ext (own_ext K2)) (B_d0.keep K2 nin0) Fc2_0 Fc2_1 Fc2_2 E2_0 (Nat.le_trans Z0 le_o1) y3 (E_y3.keep K2)) X7 hx hZ hown e7 E2_0 (hw _ (List.mem_of_getElem? (i := 46) rfl)) (hw _ (List.mem_of_getElem? (i := 47) rfl)) (hw _ (List.mem_of_getElem? (i := 49) rfl)) (hw _ (List.mem_of_getElem? (i := 48) rfl)) (hw _ (List.mem_of_getElem? (i := 15) rfl)) (hw _ (List.mem_of_getElem? (i := 50) rfl)) (by decide) rfl (by rw [hml]; rfl) (argsL := [(.ref y3)]) (rest := []) (lenOf pd_28Ljava2flang2fObject3b29Z rfl) rfl (hb hby d_method_5_code_65) (W := 0) (by show 2 * 0 + _ ≤ _; exact Nat.le_of_eq rfl) (by decide) (by decide) (by decide) (by decide)
          have E8_0 := E2_0.keep Kc8
          have K8 := K2.trans Kc8 (allS (Or.inr le_o1) all0)
          have N8 := Fr.app N2 Nc8
          have le_r8 : h0.size ≤ r8 := Nat.le_trans K2.1 lec8
          have ne_d0_r8 : d0 ≠ r8 := Nat.ne_of_lt (Nat.lt_of_lt_of_le (B_d0.keep K2 nin0).lt lec8)
          have ne_o1_r8 : o1 ≠ r8 := Nat.ne_of_lt (Nat.lt_of_lt_of_le E2_0.lt lec8)
          have ne_y0_r8 : y0 ≠ r8 := Nat.ne_of_lt (Nat.lt_of_lt_of_le (E_y0.keep K2).lt lec8)
          have ne_y1_r8 : y1 ≠ r8 := Nat.ne_of_lt (Nat.lt_of_lt_of_le (E_y1.keep K2).lt lec8)
          have ne_y2_r8 : y2 ≠ r8 := Nat.ne_of_lt (Nat.lt_of_lt_of_le (E_y2.keep K2).lt lec8)
          have ne_y3_r8 : y3 ≠ r8 := Nat.ne_of_lt (Nat.lt_of_lt_of_le (E_y3.keep K2).lt lec8)
          refine Go.st st8 ?_
          show Go p e below _ T8 (mkF m 68 #[.val (.int p1), .val (.ref o1)] [(.int (1 : Int32))])
          refine Go.st (fun _ h => XT.pop X8.here hx rfl (hb hby d_method_5_code_68) rfl rfl h) ?_
          show Go p e below _ T8 (mkF m 69 #[.val (.int p1), .val (.ref o1)] [])
          refine Go.st (fun _ h => XS.aloadN X8.here hx rfl (hb hby d_method_5_code_69) rfl rfl h) ?_
          show Go p e below _ T8 (mkF m 70 #[.val (.int p1), .val (.ref o1)] [(.ref o1)])
          refine Go.retA X8 hx hlk hret rfl rfl rfl (hb hby d_method_5_code_70) (by decide) (by decide) ?_
          exact ⟨o1, rfl, N8, K8⟩
      · refine Go.st (fun _ h => XS.ifNo X2.here hx rfl (hb hby d_method_5_code_41) rfl ((if0 _ _).trans (feq hc5).1) h) ?_
        show Go p e below _ T2 (mkF m 44 #[.val (.int p1), .val (.ref o1)] [])
        refine Go.st (fun _ h => XS.aloadN X2.here hx rfl (hb hby d_method_5_code_44) rfl rfl h) ?_
        show Go p e below _ T2 (mkF m 45 #[.val (.int p1), .val (.ref o1)] [(.ref o1)])
        refine Go.st (fun _ h => XT.iconstV X2.here hx rfl (2 : Int32) (hb hby d_method_5_code_45) (by decide) h) ?_
        show Go p e below _ T2 (mkF m 46 #[.val (.int p1), .val (.ref o1)] [(.int (2 : Int32)), (.ref o1)])
        obtain ⟨T9, X9, e9, st9⟩ := own_still rfl rfl (Does.static (y := (⟨"java/lang/Integer", "valueOf", "(I)Ljava/lang/Integer;"⟩ : MethodName)) (g := (mkF m 46 #[.val (.int p1), .val (.ref o1)] [(.int (2 : Int32)), (.ref o1)])) (rmVal2 l Z a0 hw ca y2 cc T2.heap (S_H.ext (own_ext K2)) (S_C.ext (own_ext K2)) (A_c.ext (own_ext K2)) hcc hy2) X2 hx hZ hown rfl (hw _ (List.mem_of_getElem? (i := 39) rfl)) (hw _ (List.mem_of_getElem? (i := 40) rfl)) (hw _ (List.mem_of_getElem? (i := 41) rfl)) (hw _ (List.mem_of_getElem? (i := 42) rfl)) (by decide) rfl (by rw [hml]; rfl) (argsL := [(.int (2 : Int32))]) (rest := [(.ref o1)]) (lenOf pd_28I29Ljava2flang2fInteger3b rfl) rfl (hb hby d_method_5_code_46) (W := 1) (by show 2 * 0 + _ ≤ _; exact Nat.le_of_eq rfl) (by decide) (by decide) (by decide) (by decide))
        refine Go.st st9 ?_
        show Go p e below _ T9 (mkF m 49 #[.val (.int p1), .val (.ref o1)] [(.ref y2), (.ref o1)])
        obtain ⟨_, T10, L10, X10, ⟨r10, kk10, vs10, rfl, Nc10, Kc10, lec10, hvs10, Vc10, Oc10, Fc10_0, Fc10_1, Fc10_2⟩, st10⟩ := Does.virtual (y := (⟨"java/util/ArrayList", "add", "(Ljava/lang/Object;)Z"⟩ : MethodName)) (g := (mkF m 49 #[.val (.int p1), .val (.ref o1)] [(.ref y2), (.ref o1)])) (a := o1) (rmAddA l Z a0 hw o1 d0 kd (0 : Int32) T2.heap n0 (Nat.le_trans Z0 K2.1) ne_d0_o1 (S_D.ext (own_ext K2)) (B_d0.keep K2 nin0) Fc2_0 Fc2_1 Fc2_2 E2_0 (Nat.le_trans Z0 le_o1) y2 (E_y2.keep K2)) X9 hx hZ hown e9 E2_0 (hw _ (List.mem_of_getElem? (i := 46) rfl)) (hw _ (List.mem_of_getElem? (i := 47) rfl)) (hw _ (List.mem_of_getElem? (i := 49) rfl)) (hw _ (List.mem_of_getElem? (i := 48) rfl)) (hw _ (List.mem_of_getElem? (i := 15) rfl)) (hw _ (List.mem_of_getElem? (i := 50) rfl)) (by decide) rfl (by rw [hml]; rfl) (argsL := [(.ref y2)]) (rest := []) (lenOf pd_28Ljava2flang2fObject3b29Z rfl) rfl (hb hby d_method_5_code_49) (W := 0) (by show 2 * 0 + _ ≤ _; exact Nat.le_of_eq rfl) (by decide) (by decide) (by decide) (by decide)
        have E10_0 := E2_0.keep Kc10
        have K10 := K2.trans Kc10 (allS (Or.inr le_o1) all0)
        have N10 := Fr.app N2 Nc10
        have le_r10 : h0.size ≤ r10 := Nat.le_trans K2.1 lec10
        have ne_d0_r10 : d0 ≠ r10 := Nat.ne_of_lt (Nat.lt_of_lt_of_le (B_d0.keep K2 nin0).lt lec10)
        have ne_o1_r10 : o1 ≠ r10 := Nat.ne_of_lt (Nat.lt_of_lt_of_le E2_0.lt lec10)
        have ne_y0_r10 : y0 ≠ r10 := Nat.ne_of_lt (Nat.lt_of_lt_of_le (E_y0.keep K2).lt lec10)
        have ne_y1_r10 : y1 ≠ r10 := Nat.ne_of_lt (Nat.lt_of_lt_of_le (E_y1.keep K2).lt lec10)
        have ne_y2_r10 : y2 ≠ r10 := Nat.ne_of_lt (Nat.lt_of_lt_of_le (E_y2.keep K2).lt lec10)
        have ne_y3_r10 : y3 ≠ r10 := Nat.ne_of_lt (Nat.lt_of_lt_of_le (E_y3.keep K2).lt lec10)
        refine Go.st st10 ?_
        show Go p e below _ T10 (mkF m 52 #[.val (.int p1), .val (.ref o1)] [(.int (1 : Int32))])
        refine Go.st (fun _ h => XT.pop X10.here hx rfl (hb hby d_method_5_code_52) rfl rfl h) ?_
        show Go p e below _ T10 (mkF m 53 #[.val (.int p1), .val (.ref o1)] [])
        refine Go.st (fun _ h => XS.iloadN X10.here hx rfl (hb hby d_method_5_code_53) rfl h) ?_
        show Go p e below _ T10 (mkF m 54 #[.val (.int p1), .val (.ref o1)] [(.int p1)])
        refine Go.st (fun _ h => XT.bipushV X10.here hx rfl (8 : Int32) (hb hby d_method_5_code_54) (by decide) h) ?_
        show Go p e below _ T10 (mkF m 56 #[.val (.int p1), .val (.ref o1)] [(.int (8 : Int32)), (.int p1)])
        refine Go.st (fun _ h => XS.iand X10.here hx rfl (hb hby d_method_5_code_56) rfl h) ?_
        show Go p e below _ T10 (mkF m 57 #[.val (.int p1), .val (.ref o1)] [(.int (p1 &&& (8 : Int32)))])
        by_cases hc11 : (p1 &&& (8 : Int32)) = (0 : Int32)
        · refine Go.st (fun _ h => XS.ifYes X10.here hx rfl (pc0 := 57) (pc' := 69) rfl (hb hby d_method_5_code_57) rfl ((if0 _ _).trans (teq hc11).1) (by decide) (by decide) h) ?_
          show Go p e below _ T10 (mkF m 69 #[.val (.int p1), .val (.ref o1)] [])
          refine Go.st (fun _ h => XS.aloadN X10.here hx rfl (hb hby d_method_5_code_69) rfl rfl h) ?_
          show Go p e below _ T10 (mkF m 70 #[.val (.int p1), .val (.ref o1)] [(.ref o1)])
          refine Go.retA X10 hx hlk hret rfl rfl rfl (hb hby d_method_5_code_70) (by decide) (by decide) ?_
          exact ⟨o1, rfl, N10, K10⟩
        · refine Go.st (fun _ h => XS.ifNo X10.here hx rfl (hb hby d_method_5_code_57) rfl ((if0 _ _).trans (feq hc11).1) h) ?_
          show Go p e below _ T10 (mkF m 60 #[.val (.int p1), .val (.ref o1)] [])
          refine Go.st (fun _ h => XS.aloadN X10.here hx rfl (hb hby d_method_5_code_60) rfl rfl h) ?_
          show Go p e below _ T10 (mkF m 61 #[.val (.int p1), .val (.ref o1)] [(.ref o1)])
          refine Go.st (fun _ h => XT.iconstV X10.here hx rfl (3 : Int32) (hb hby d_method_5_code_61) (by decide) h) ?_
          show Go p e below _ T10 (mkF m 62 #[.val (.int p1), .val (.ref o1)] [(.int (3 : Int32)), (.ref o1)])
          obtain ⟨T12, X12, e12, st12⟩ := own_still rfl rfl (Does.static (y := (⟨"java/lang/Integer", "valueOf", "(I)Ljava/lang/Integer;"⟩ : MethodName)) (g := (mkF m 62 #[.val (.int p1), .val (.ref o1)] [(.int (3 : Int32)), (.ref o1)])) (rmVal3 l Z a0 hw ca y3 cc T10.heap (S_H.ext (own_ext K10)) (S_C.ext (own_ext K10)) (A_c.ext (own_ext K10)) hcc hy3) X10 hx hZ hown rfl (hw _ (List.mem_of_getElem? (i := 39) rfl)) (hw _ (List.mem_of_getElem? (i := 40) rfl)) (hw _ (List.mem_of_getElem? (i := 41) rfl)) (hw _ (List.mem_of_getElem? (i := 42) rfl)) (by decide) rfl (by rw [hml]; rfl) (argsL := [(.int (3 : Int32))]) (rest := [(.ref o1)]) (lenOf pd_28I29Ljava2flang2fInteger3b rfl) rfl (hb hby d_method_5_code_62) (W := 1) (by show 2 * 0 + _ ≤ _; exact Nat.le_of_eq rfl) (by decide) (by decide) (by decide) (by decide))
          refine Go.st st12 ?_
          show Go p e below _ T12 (mkF m 65 #[.val (.int p1), .val (.ref o1)] [(.ref y3), (.ref o1)])
          obtain ⟨_, T13, L13, X13, ⟨vs13, rfl, Nc13, Kc13, hvs13, Vc13, Fc13_0, Fc13_1, Fc13_2⟩, st13⟩ := Does.virtual (y := (⟨"java/util/ArrayList", "add", "(Ljava/lang/Object;)Z"⟩ : MethodName)) (g := (mkF m 65 #[.val (.int p1), .val (.ref o1)] [(.ref y3), (.ref o1)])) (a := o1) (rmAddB l Z a0 hw o1 r10 kk10 vs10 ((0 : Int32) + (1 : Int32)) ((0 : Int32) + (1 : Int32)) T10.heap n0 (Nat.le_trans Z0 K10.1) (Ne.symm ne_o1_r10) hvs10 (by decide) (by decide) Vc10 Oc10 (Nat.le_trans Z0 le_r10) Fc10_0 Fc10_1 Fc10_2 E10_0 (Nat.le_trans Z0 le_o1) y3 (E_y3.keep K10)) X12 hx hZ hown e12 E10_0 (hw _ (List.mem_of_getElem? (i := 46) rfl)) (hw _ (List.mem_of_getElem? (i := 47) rfl)) (hw _ (List.mem_of_getElem? (i := 49) rfl)) (hw _ (List.mem_of_getElem? (i := 48) rfl)) (hw _ (List.mem_of_getElem? (i := 15) rfl)) (hw _ (List.mem_of_getElem? (i := 50) rfl)) (by decide) rfl (by rw [hml]; rfl) (argsL := [(.ref y3)]) (rest := []) (lenOf pd_28Ljava2flang2fObject3b29Z rfl) rfl (hb hby d_method_5_code_65) (W := 0) (by show 2 * 0 + _ ≤ _; exact Nat.le_of_eq rfl) (by decide) (by decide) (by decide) (by decide)
          have E13_0 := E10_0.keep Kc13
          have K13 := K10.trans Kc13 (allS (Or.inr le_o1) (allS (Or.inr le_r10) all0))
          have N13 := Fr.app N10 Nc13
          refine Go.st st13 ?_
          show Go p e below _ T13 (mkF m 68 #[.val (.int p1), .val (.ref o1)] [(.int (1 : Int32))])
          refine Go.st (fun _ h => XT.pop X13.here hx rfl (hb hby d_method_5_code_68) rfl rfl h) ?_
          show Go p e below _ T13 (mkF m 69 #[.val (.int p1), .val (.ref o1)] [])
          refine Go.st (fun _ h => XS.aloadN X13.here hx rfl (hb hby d_method_5_code_69) rfl rfl h) ?_
          show Go p e below _ T13 (mkF m 70 #[.val (.int p1), .val (.ref o1)] [(.ref o1)])
          refine Go.retA X13 hx hlk hret rfl rfl rfl (hb hby d_method_5_code_70) (by decide) (by decide) ?_
          exact ⟨o1, rfl, N13, K13⟩
    · refine Go.st (fun _ h => XS.ifNo X2.here hx rfl (hb hby d_method_5_code_26) rfl ((if0 _ _).trans (feq hc4).1) h) ?_
      show Go p e below _ T2 (mkF m 29 #[.val (.int p1), .val (.ref o1)] [])
      refine Go.st (fun _ h => XS.aloadN X2.here hx rfl (hb hby d_method_5_code_29) rfl rfl h) ?_
      show Go p e below _ T2 (mkF m 30 #[.val (.int p1), .val (.ref o1)] [(.ref o1)])
      refine Go.st (fun _ h => XT.iconstV X2.here hx rfl (1 : Int32) (hb hby d_method_5_code_30) (by decide) h) ?_
      show Go p e below _ T2 (mkF m 31 #[.val (.int p1), .val (.ref o1)] [(.int (1 : Int32)), (.ref o1)])
      obtain ⟨T14, X14, e14, st14⟩ := own_still rfl rfl (Does.static (y := (⟨"java/lang/Integer", "valueOf", "(I)Ljava/lang/Integer;"⟩ : MethodName)) (g := (mkF m 31 #[.val (.int p1), .val (.ref o1)] [(.int (1 : Int32)), (.ref o1)])) (rmVal1 l Z a0 hw ca y1 cc T2.heap (S_H.ext (own_ext K2)) (S_C.ext (own_ext K2)) (A_c.ext (own_ext K2)) hcc hy1) X2 hx hZ hown rfl (hw _ (List.mem_of_getElem? (i := 39) rfl)) (hw _ (List.mem_of_getElem? (i := 40) rfl)) (hw _ (List.mem_of_getElem? (i := 41) rfl)) (hw _ (List.mem_of_getElem? (i := 42) rfl)) (by decide) rfl (by rw [hml]; rfl) (argsL := [(.int (1 : Int32))]) (rest := [(.ref o1)]) (lenOf pd_28I29Ljava2flang2fInteger3b rfl) rfl (hb hby d_method_5_code_31) (W := 1) (by show 2 * 0 + _ ≤ _; exact Nat.le_of_eq rfl) (by decide) (by decide) (by decide) (by decide))
      refine Go.st st14 ?_
      show Go p e below _ T14 (mkF m 34 #[.val (.int p1), .val (.ref o1)] [(.ref y1), (.ref o1)])
      obtain ⟨_, T15, L15, X15, ⟨r15, kk15, vs15, rfl, Nc15, Kc15, lec15, hvs15, Vc15, Oc15, Fc15_0, Fc15_1, Fc15_2⟩, st15⟩ := Does.virtual (y := (⟨"java/util/ArrayList", "add", "(Ljava/lang/Object;)Z"⟩ : MethodName)) (g := (mkF m 34 #[.val (.int p1), .val (.ref o1)] [(.ref y1), (.ref o1)])) (a := o1) (rmAddA l Z a0 hw o1 d0 kd (0 : Int32) T2.heap n0 (Nat.le_trans Z0 K2.1) ne_d0_o1 (S_D.ext (own_ext K2)) (B_d0.keep K2 nin0) Fc2_0 Fc2_1 Fc2_2 E2_0 (Nat.le_trans Z0 le_o1) y1 (E_y1.keep K2)) X14 hx hZ hown e14 E2_0 (hw _ (List.mem_of_getElem? (i := 46) rfl)) (hw _ (List.mem_of_getElem? (i := 47) rfl)) (hw _ (List.mem_of_getElem? (i := 49) rfl)) (hw _ (List.mem_of_getElem? (i := 48) rfl)) (hw _ (List.mem_of_getElem? (i := 15) rfl)) (hw _ (List.mem_of_getElem? (i := 50) rfl)) (by decide) rfl (by rw [hml]; rfl) (argsL := [(.ref y1)]) (rest := []) (lenOf pd_28Ljava2flang2fObject3b29Z rfl) rfl (hb hby d_method_5_code_34) (W := 0) (by show 2 * 0 + _ ≤ _; exact Nat.le_of_eq rfl) (by decide) (by decide) (by decide) (by decide)
      have E15_0 := E2_0.keep Kc15
      have K15 := K2.trans Kc15 (allS (Or.inr le_o1) all0)
      have N15 := Fr.app N2 Nc15
      have le_r15 : h0.size ≤ r15 := Nat.le_trans K2.1 lec15
      have ne_d0_r15 : d0 ≠ r15 := Nat.ne_of_lt (Nat.lt_of_lt_of_le (B_d0.keep K2 nin0).lt lec15)
      have ne_o1_r15 : o1 ≠ r15 := Nat.ne_of_lt (Nat.lt_of_lt_of_le E2_0.lt lec15)
      have ne_y0_r15 : y0 ≠ r15 := Nat.ne_of_lt (Nat.lt_of_lt_of_le (E_y0.keep K2).lt lec15)
      have ne_y1_r15 : y1 ≠ r15 := Nat.ne_of_lt (Nat.lt_of_lt_of_le (E_y1.keep K2).lt lec15)
      have ne_y2_r15 : y2 ≠ r15 := Nat.ne_of_lt (Nat.lt_of_lt_of_le (E_y2.keep K2).lt lec15)
      have ne_y3_r15 : y3 ≠ r15 := Nat.ne_of_lt (Nat.lt_of_lt_of_le (E_y3.keep K2).lt lec15)
      refine Go.st st15 ?_
      show Go p e below _ T15 (mkF m 37 #[.val (.int p1), .val (.ref o1)] [(.int (1 : Int32))])
      refine Go.st (fun _ h => XT.pop X15.here hx rfl (hb hby d_method_5_code_37) rfl rfl h) ?_
      show Go p e below _ T15 (mkF m 38 #[.val (.int p1), .val (.ref o1)] [])
      refine Go.st (fun _ h => XS.iloadN X15.here hx rfl (hb hby d_method_5_code_38) rfl h) ?_
      show Go p e below _ T15 (mkF m 39 #[.val (.int p1), .val (.ref o1)] [(.int p1)])
      refine Go.st (fun _ h => XT.iconstV X15.here hx rfl (4 : Int32) (hb hby d_method_5_code_39) (by decide) h) ?_
      show Go p e below _ T15 (mkF m 40 #[.val (.int p1), .val (.ref o1)] [(.int (4 : Int32)), (.int p1)])
      refine Go.st (fun _ h => XS.iand X15.here hx rfl (hb hby d_method_5_code_40) rfl h) ?_
      show Go p e below _ T15 (mkF m 41 #[.val (.int p1), .val (.ref o1)] [(.int (p1 &&& (4 : Int32)))])
      by_cases hc16 : (p1 &&& (4 : Int32)) = (0 : Int32)
      · refine Go.st (fun _ h => XS.ifYes X15.here hx rfl (pc0 := 41) (pc' := 53) rfl (hb hby d_method_5_code_41) rfl ((if0 _ _).trans (teq hc16).1) (by decide) (by decide) h) ?_
        show Go p e below _ T15 (mkF m 53 #[.val (.int p1), .val (.ref o1)] [])
        refine Go.st (fun _ h => XS.iloadN X15.here hx rfl (hb hby d_method_5_code_53) rfl h) ?_
        show Go p e below _ T15 (mkF m 54 #[.val (.int p1), .val (.ref o1)] [(.int p1)])
        refine Go.st (fun _ h => XT.bipushV X15.here hx rfl (8 : Int32) (hb hby d_method_5_code_54) (by decide) h) ?_
        show Go p e below _ T15 (mkF m 56 #[.val (.int p1), .val (.ref o1)] [(.int (8 : Int32)), (.int p1)])
        refine Go.st (fun _ h => XS.iand X15.here hx rfl (hb hby d_method_5_code_56) rfl h) ?_
        show Go p e below _ T15 (mkF m 57 #[.val (.int p1), .val (.ref o1)] [(.int (p1 &&& (8 : Int32)))])
        by_cases hc17 : (p1 &&& (8 : Int32)) = (0 : Int32)
        · refine Go.st (fun _ h => XS.ifYes X15.here hx rfl (pc0 := 57) (pc' := 69) rfl (hb hby d_method_5_code_57) rfl ((if0 _ _).trans (teq hc17).1) (by decide) (by decide) h) ?_
          show Go p e below _ T15 (mkF m 69 #[.val (.int p1), .val (.ref o1)] [])
          refine Go.st (fun _ h => XS.aloadN X15.here hx rfl (hb hby d_method_5_code_69) rfl rfl h) ?_
          show Go p e below _ T15 (mkF m 70 #[.val (.int p1), .val (.ref o1)] [(.ref o1)])
          refine Go.retA X15 hx hlk hret rfl rfl rfl (hb hby d_method_5_code_70) (by decide) (by decide) ?_
          exact ⟨o1, rfl, N15, K15⟩
        · refine Go.st (fun _ h => XS.ifNo X15.here hx rfl (hb hby d_method_5_code_57) rfl ((if0 _ _).trans (feq hc17).1) h) ?_
          show Go p e below _ T15 (mkF m 60 #[.val (.int p1), .val (.ref o1)] [])
          refine Go.st (fun _ h => XS.aloadN X15.here hx rfl (hb hby d_method_5_code_60) rfl rfl h) ?_
          show Go p e below _ T15 (mkF m 61 #[.val (.int p1), .val (.ref o1)] [(.ref o1)])
          refine Go.st (fun _ h => XT.iconstV X15.here hx rfl (3 : Int32) (hb hby d_method_5_code_61) (by decide) h) ?_
          show Go p e below _ T15 (mkF m 62 #[.val (.int p1), .val (.ref o1)] [(.int (3 : Int32)), (.ref o1)])
          obtain ⟨T18, X18, e18, st18⟩ := own_still rfl rfl (Does.static (y := (⟨"java/lang/Integer", "valueOf", "(I)Ljava/lang/Integer;"⟩ : MethodName)) (g := (mkF m 62 #[.val (.int p1), .val (.ref o1)] [(.int (3 : Int32)), (.ref o1)])) (rmVal3 l Z a0 hw ca y3 cc T15.heap (S_H.ext (own_ext K15)) (S_C.ext (own_ext K15)) (A_c.ext (own_ext K15)) hcc hy3) X15 hx hZ hown rfl (hw _ (List.mem_of_getElem? (i := 39) rfl)) (hw _ (List.mem_of_getElem? (i := 40) rfl)) (hw _ (List.mem_of_getElem? (i := 41) rfl)) (hw _ (List.mem_of_getElem? (i := 42) rfl)) (by decide) rfl (by rw [hml]; rfl) (argsL := [(.int (3 : Int32))]) (rest := [(.ref o1)]) (lenOf pd_28I29Ljava2flang2fInteger3b rfl) rfl (hb hby d_method_5_code_62) (W := 1) (by show 2 * 0 + _ ≤ _; exact Nat.le_of_eq rfl) (by decide) (by decide) (by decide) (by decide))
          refine Go.st st18 ?_
          show Go p e below _ T18 (mkF m 65 #[.val (.int p1), .val (.ref o1)] [(.ref y3), (.ref o1)])
          obtain ⟨_, T19, L19, X19, ⟨vs19, rfl, Nc19, Kc19, hvs19, Vc19, Fc19_0, Fc19_1, Fc19_2⟩, st19⟩ := Does.virtual (y := (⟨"java/util/ArrayList", "add", "(Ljava/lang/Object;)Z"⟩ : MethodName)) (g := (mkF m 65 #[.val (.int p1), .val (.ref o1)] [(.ref y3), (.ref o1)])) (a := o1) (rmAddB l Z a0 hw o1 r15 kk15 vs15 ((0 : Int32) + (1 : Int32)) ((0 : Int32) + (1 : Int32)) T15.heap n0 (Nat.le_trans Z0 K15.1) (Ne.symm ne_o1_r15) hvs15 (by decide) (by decide) Vc15 Oc15 (Nat.le_trans Z0 le_r15) Fc15_0 Fc15_1 Fc15_2 E15_0 (Nat.le_trans Z0 le_o1) y3 (E_y3.keep K15)) X18 hx hZ hown e18 E15_0 (hw _ (List.mem_of_getElem? (i := 46) rfl)) (hw _ (List.mem_of_getElem? (i := 47) rfl)) (hw _ (List.mem_of_getElem? (i := 49) rfl)) (hw _ (List.mem_of_getElem? (i := 48) rfl)) (hw _ (List.mem_of_getElem? (i := 15) rfl)) (hw _ (List.mem_of_getElem? (i := 50) rfl)) (by decide) rfl (by rw [hml]; rfl) (argsL := [(.ref y3)]) (rest := []) (lenOf pd_28Ljava2flang2fObject3b29Z rfl) rfl (hb hby d_method_5_code_65) (W := 0) (by show 2 * 0 + _ ≤ _; exact Nat.le_of_eq rfl) (by decide) (by decide) (by decide) (by decide)
          have E19_0 := E15_0.keep Kc19
          have K19 := K15.trans Kc19 (allS (Or.inr le_o1) (allS (Or.inr le_r15) all0))
          have N19 := Fr.app N15 Nc19
          refine Go.st st19 ?_
          show Go p e below _ T19 (mkF m 68 #[.val (.int p1), .val (.ref o1)] [(.int (1 : Int32))])
          refine Go.st (fun _ h => XT.pop X19.here hx rfl (hb hby d_method_5_code_68) rfl rfl h) ?_
          show Go p e below _ T19 (mkF m 69 #[.val (.int p1), .val (.ref o1)] [])
          refine Go.st (fun _ h => XS.aloadN X19.here hx rfl (hb hby d_method_5_code_69) rfl rfl h) ?_
          show Go p e below _ T19 (mkF m 70 #[.val (.int p1), .val (.ref o1)] [(.ref o1)])
          refine Go.retA X19 hx hlk hret rfl rfl rfl (hb hby d_method_5_code_70) (by decide) (by decide) ?_
          exact ⟨o1, rfl, N19, K19⟩
      · refine Go.st (fun _ h => XS.ifNo X15.here hx rfl (hb hby d_method_5_code_41) rfl ((if0 _ _).trans (feq hc16).1) h) ?_
        show Go p e below _ T15 (mkF m 44 #[.val (.int p1), .val (.ref o1)] [])
        refine Go.st (fun _ h => XS.aloadN X15.here hx rfl (hb hby d_method_5_code_44) rfl rfl h) ?_
        show Go p e below _ T15 (mkF m 45 #[.val (.int p1), .val (.ref o1)] [(.ref o1)])
        refine Go.st (fun _ h => XT.iconstV X15.here hx rfl (2 : Int32) (hb hby d_method_5_code_45) (by decide) h) ?_
        show Go p e below _ T15 (mkF m 46 #[.val (.int p1), .val (.ref o1)] [(.int (2 : Int32)), (.ref o1)])
        obtain ⟨T20, X20, e20, st20⟩ := own_still rfl rfl (Does.static (y := (⟨"java/lang/Integer", "valueOf", "(I)Ljava/lang/Integer;"⟩ : MethodName)) (g := (mkF m 46 #[.val (.int p1), .val (.ref o1)] [(.int (2 : Int32)), (.ref o1)])) (rmVal2 l Z a0 hw ca y2 cc T15.heap (S_H.ext (own_ext K15)) (S_C.ext (own_ext K15)) (A_c.ext (own_ext K15)) hcc hy2) X15 hx hZ hown rfl (hw _ (List.mem_of_getElem? (i := 39) rfl)) (hw _ (List.mem_of_getElem? (i := 40) rfl)) (hw _ (List.mem_of_getElem? (i := 41) rfl)) (hw _ (List.mem_of_getElem? (i := 42) rfl)) (by decide) rfl (by rw [hml]; rfl) (argsL := [(.int (2 : Int32))]) (rest := [(.ref o1)]) (lenOf pd_28I29Ljava2flang2fInteger3b rfl) rfl (hb hby d_method_5_code_46) (W := 1) (by show 2 * 0 + _ ≤ _; exact Nat.le_of_eq rfl) (by decide) (by decide) (by decide) (by decide))
        refine Go.st st20 ?_
        show Go p e below _ T20 (mkF m 49 #[.val (.int p1), .val (.ref o1)] [(.ref y2), (.ref o1)])
        obtain ⟨_, T21, L21, X21, ⟨vs21, rfl, Nc21, Kc21, hvs21, Vc21, Fc21_0, Fc21_1, Fc21_2⟩, st21⟩ := Does.virtual (y := (⟨"java/util/ArrayList", "add", "(Ljava/lang/Object;)Z"⟩ : MethodName)) (g := (mkF m 49 #[.val (.int p1), .val (.ref o1)] [(.ref y2), (.ref o1)])) (a := o1) (rmAddB l Z a0 hw o1 r15 kk15 vs15 ((0 : Int32) + (1 : Int32)) ((0 : Int32) + (1 : Int32)) T15.heap n0 (Nat.le_trans Z0 K15.1) (Ne.symm ne_o1_r15) hvs15 (by decide) (by decide) Vc15 Oc15 (Nat.le_trans Z0 le_r15) Fc15_0 Fc15_1 Fc15_2 E15_0 (Nat.le_trans Z0 le_o1) y2 (E_y2.keep K15)) X20 hx hZ hown e20 E15_0 (hw _ (List.mem_of_getElem? (i := 46) rfl)) (hw _ (List.mem_of_getElem? (i := 47) rfl)) (hw _ (List.mem_of_getElem? (i := 49) rfl)) (hw _ (List.mem_of_getElem? (i := 48) rfl)) (hw _ (List.mem_of_getElem? (i := 15) rfl)) (hw _ (List.mem_of_getElem? (i := 50) rfl)) (by decide) rfl (by rw [hml]; rfl) (argsL := [(.ref y2)]) (rest := []) (lenOf pd_28Ljava2flang2fObject3b29Z rfl) rfl (hb hby d_method_5_code_49) (W := 0) (by show 2 * 0 + _ ≤ _; exact Nat.le_of_eq rfl) (by decide) (by decide) (by decide) (by decide)
        have E21_0 := E15_0.keep Kc21
        have K21 := K15.trans Kc21 (allS (Or.inr le_o1) (allS (Or.inr le_r15) all0))
        have N21 := Fr.app N15 Nc21
        refine Go.st st21 ?_
        show Go p e below _ T21 (mkF m 52 #[.val (.int p1), .val (.ref o1)] [(.int (1 : Int32))])
        refine Go.st (fun _ h => XT.pop X21.here hx rfl (hb hby d_method_5_code_52) rfl rfl h) ?_
        show Go p e below _ T21 (mkF m 53 #[.val (.int p1), .val (.ref o1)] [])
        refine Go.st (fun _ h => XS.iloadN X21.here hx rfl (hb hby d_method_5_code_53) rfl h) ?_
        show Go p e below _ T21 (mkF m 54 #[.val (.int p1), .val (.ref o1)] [(.int p1)])
        refine Go.st (fun _ h => XT.bipushV X21.here hx rfl (8 : Int32) (hb hby d_method_5_code_54) (by decide) h) ?_
        show Go p e below _ T21 (mkF m 56 #[.val (.int p1), .val (.ref o1)] [(.int (8 : Int32)), (.int p1)])
        refine Go.st (fun _ h => XS.iand X21.here hx rfl (hb hby d_method_5_code_56) rfl h) ?_
        show Go p e below _ T21 (mkF m 57 #[.val (.int p1), .val (.ref o1)] [(.int (p1 &&& (8 : Int32)))])
        by_cases hc22 : (p1 &&& (8 : Int32)) = (0 : Int32)
        · refine Go.st (fun _ h => XS.ifYes X21.here hx rfl (pc0 := 57) (pc' := 69) rfl (hb hby d_method_5_code_57) rfl ((if0 _ _).trans (teq hc22).1) (by decide) (by decide) h) ?_
          show Go p e below _ T21 (mkF m 69 #[.val (.int p1), .val (.ref o1)] [])
          refine Go.st (fun _ h => XS.aloadN X21.here hx rfl (hb hby d_method_5_code_69) rfl rfl h) ?_
          show Go p e below _ T21 (mkF m 70 #[.val (.int p1), .val (.ref o1)] [(.ref o1)])
          refine Go.retA X21 hx hlk hret rfl rfl rfl (hb hby d_method_5_code_70) (by decide) (by decide) ?_
          exact ⟨o1, rfl, N21, K21⟩
        · refine Go.st (fun _ h => XS.ifNo X21.here hx rfl (hb hby d_method_5_code_57) rfl ((if0 _ _).trans (feq hc22).1) h) ?_
          show Go p e below _ T21 (mkF m 60 #[.val (.int p1), .val (.ref o1)] [])
          refine Go.st (fun _ h => XS.aloadN X21.here hx rfl (hb hby d_method_5_code_60) rfl rfl h) ?_
          show Go p e below _ T21 (mkF m 61 #[.val (.int p1), .val (.ref o1)] [(.ref o1)])
          refine Go.st (fun _ h => XT.iconstV X21.here hx rfl (3 : Int32) (hb hby d_method_5_code_61) (by decide) h) ?_
          show Go p e below _ T21 (mkF m 62 #[.val (.int p1), .val (.ref o1)] [(.int (3 : Int32)), (.ref o1)])
          obtain ⟨T23, X23, e23, st23⟩ := own_still rfl rfl (Does.static (y := (⟨"java/lang/Integer", "valueOf", "(I)Ljava/lang/Integer;"⟩ : MethodName)) (g := (mkF m 62 #[.val (.int p1), .val (.ref o1)] [(.int (3 : Int32)), (.ref o1)])) (rmVal3 l Z a0 hw ca y3 cc T21.heap (S_H.ext (own_ext K21)) (S_C.ext (own_ext K21)) (A_c.ext (own_ext K21)) hcc hy3) X21 hx hZ hown rfl (hw _ (List.mem_of_getElem? (i := 39) rfl)) (hw _ (List.mem_of_getElem? (i := 40) rfl)) (hw _ (List.mem_of_getElem? (i := 41) rfl)) (hw _ (List.mem_of_getElem? (i := 42) rfl)) (by decide) rfl (by rw [hml]; rfl) (argsL := [(.int (3 : Int32))]) (rest := [(.ref o1)]) (lenOf pd_28I29Ljava2flang2fInteger3b rfl) rfl (hb hby d_method_5_code_62) (W := 1) (by show 2 * 0 + _ ≤ _; exact Nat.le_of_eq rfl) (by decide) (by decide) (by decide) (by decide))
          refine Go.st st23 ?_
          show Go p e below _ T23 (mkF m 65 #[.val (.int p1), .val (.ref o1)] [(.ref y3), (.ref o1)])
          obtain ⟨_, T24, L24, X24, ⟨vs24, rfl, Nc24, Kc24, hvs24, Vc24, Fc24_0, Fc24_1, Fc24_2⟩, st24⟩ := Does.virtual (y := (⟨"java/util/ArrayList", "add", "(Ljava/lang/Object;)Z"⟩ : MethodName)) (g := (mkF m 65 #[.val (.int p1), .val (.ref o1)] [(.ref y3), (.ref o1)])) (a := o1) (rmAddB l Z a0 hw o1 r15 kk15 vs21 (((0 : Int32) + (1 : Int32)) + (1 : Int32)) (((0 : Int32) + (1 : Int32)) + (1 : Int32)) T21.heap n0 (Nat.le_trans Z0 K21.1) (Ne.symm ne_o1_r15) hvs21 (by decide) (by decide) Vc21 Oc15 (Nat.le_trans Z0 le_r15) Fc21_0 Fc21_1 Fc21_2 E21_0 (Nat.le_trans Z0 le_o1) y3 (E_y3.keep K21)) X23 hx hZ hown e23 E21_0 (hw _ (List.mem_of_getElem? (i := 46) rfl)) (hw _ (List.mem_of_getElem? (i := 47) rfl)) (hw _ (List.mem_of_getElem? (i := 49) rfl)) (hw _ (List.mem_of_getElem? (i := 48) rfl)) (hw _ (List.mem_of_getElem? (i := 15) rfl)) (hw _ (List.mem_of_getElem? (i := 50) rfl)) (by decide) rfl (by rw [hml]; rfl) (argsL := [(.ref y3)]) (rest := []) (lenOf pd_28Ljava2flang2fObject3b29Z rfl) rfl (hb hby d_method_5_code_65) (W := 0) (by show 2 * 0 + _ ≤ _; exact Nat.le_of_eq rfl) (by decide) (by decide) (by decide) (by decide)
          have E24_0 := E21_0.keep Kc24
          have K24 := K21.trans Kc24 (allS (Or.inr le_o1) (allS (Or.inr le_r15) all0))
          have N24 := Fr.app N21 Nc24
          refine Go.st st24 ?_
          show Go p e below _ T24 (mkF m 68 #[.val (.int p1), .val (.ref o1)] [(.int (1 : Int32))])
          refine Go.st (fun _ h => XT.pop X24.here hx rfl (hb hby d_method_5_code_68) rfl rfl h) ?_
          show Go p e below _ T24 (mkF m 69 #[.val (.int p1), .val (.ref o1)] [])
          refine Go.st (fun _ h => XS.aloadN X24.here hx rfl (hb hby d_method_5_code_69) rfl rfl h) ?_
          show Go p e below _ T24 (mkF m 70 #[.val (.int p1), .val (.ref o1)] [(.ref o1)])
          refine Go.retA X24 hx hlk hret rfl rfl rfl (hb hby d_method_5_code_70) (by decide) (by decide) ?_
          exact ⟨o1, rfl, N24, K24⟩
  · refine Go.st (fun _ h => XS.ifNo X2.here hx rfl (hb hby d_method_5_code_11) rfl ((if0 _ _).trans (feq hc3).1) h) ?_
    show Go p e below _ T2 (mkF m 14 #[.val (.int p1), .val (.ref o1)] [])
    refine Go.st (fun _ h => XS.aloadN X2.here hx rfl (hb hby d_method_5_code_14) rfl rfl h) ?_
    show Go p e below _ T2 (mkF m 15 #[.val (.int p1), .val (.ref o1)] [(.ref o1)])
    refine Go.st (fun _ h => XT.iconstV X2.here hx rfl (0 : Int32) (hb hby d_method_5_code_15) (by decide) h) ?_
    show Go p e below _ T2 (mkF m 16 #[.val (.int p1), .val (.ref o1)] [(.int (0 : Int32)), (.ref o1)])
    obtain ⟨T25, X25, e25, st25⟩ := own_still rfl rfl (Does.static (y := (⟨"java/lang/Integer", "valueOf", "(I)Ljava/lang/Integer;"⟩ : MethodName)) (g := (mkF m 16 #[.val (.int p1), .val (.ref o1)] [(.int (0 : Int32)), (.ref o1)])) (rmVal0 l Z a0 hw ca y0 cc T2.heap (S_H.ext (own_ext K2)) (S_C.ext (own_ext K2)) (A_c.ext (own_ext K2)) hcc hy0) X2 hx hZ hown rfl (hw _ (List.mem_of_getElem? (i := 39) rfl)) (hw _ (List.mem_of_getElem? (i := 40) rfl)) (hw _ (List.mem_of_getElem? (i := 41) rfl)) (hw _ (List.mem_of_getElem? (i := 42) rfl)) (by decide) rfl (by rw [hml]; rfl) (argsL := [(.int (0 : Int32))]) (rest := [(.ref o1)]) (lenOf pd_28I29Ljava2flang2fInteger3b rfl) rfl (hb hby d_method_5_code_16) (W := 1) (by show 2 * 0 + _ ≤ _; exact Nat.le_of_eq rfl) (by decide) (by decide) (by decide) (by decide))
    refine Go.st st25 ?_
    show Go p e below _ T25 (mkF m 19 #[.val (.int p1), .val (.ref o1)] [(.ref y0), (.ref o1)])
    obtain ⟨_, T26, L26, X26, ⟨r26, kk26, vs26, rfl, Nc26, Kc26, lec26, hvs26, Vc26, Oc26, Fc26_0, Fc26_1, Fc26_2⟩, st26⟩ := Does.virtual (y := (⟨"java/util/ArrayList", "add", "(Ljava/lang/Object;)Z"⟩ : MethodName)) (g := (mkF m 19 #[.val (.int p1), .val (.ref o1)] [(.ref y0), (.ref o1)])) (a := o1) (rmAddA l Z a0 hw o1 d0 kd (0 : Int32) T2.heap n0 (Nat.le_trans Z0 K2.1) ne_d0_o1 (S_D.ext (own_ext K2)) (B_d0.keep K2 nin0) Fc2_0 Fc2_1 Fc2_2 E2_0 (Nat.le_trans Z0 le_o1) y0 (E_y0.keep K2)) X25 hx hZ hown e25 E2_0 (hw _ (List.mem_of_getElem? (i := 46) rfl)) (hw _ (List.mem_of_getElem? (i := 47) rfl)) (hw _ (List.mem_of_getElem? (i := 49) rfl)) (hw _ (List.mem_of_getElem? (i := 48) rfl)) (hw _ (List.mem_of_getElem? (i := 15) rfl)) (hw _ (List.mem_of_getElem? (i := 50) rfl)) (by decide) rfl (by rw [hml]; rfl) (argsL := [(.ref y0)]) (rest := []) (lenOf pd_28Ljava2flang2fObject3b29Z rfl) rfl (hb hby d_method_5_code_19) (W := 0) (by show 2 * 0 + _ ≤ _; exact Nat.le_of_eq rfl) (by decide) (by decide) (by decide) (by decide)
    have E26_0 := E2_0.keep Kc26
    have K26 := K2.trans Kc26 (allS (Or.inr le_o1) all0)
    have N26 := Fr.app N2 Nc26
    have le_r26 : h0.size ≤ r26 := Nat.le_trans K2.1 lec26
    have ne_d0_r26 : d0 ≠ r26 := Nat.ne_of_lt (Nat.lt_of_lt_of_le (B_d0.keep K2 nin0).lt lec26)
    have ne_o1_r26 : o1 ≠ r26 := Nat.ne_of_lt (Nat.lt_of_lt_of_le E2_0.lt lec26)
    have ne_y0_r26 : y0 ≠ r26 := Nat.ne_of_lt (Nat.lt_of_lt_of_le (E_y0.keep K2).lt lec26)
    have ne_y1_r26 : y1 ≠ r26 := Nat.ne_of_lt (Nat.lt_of_lt_of_le (E_y1.keep K2).lt lec26)
    have ne_y2_r26 : y2 ≠ r26 := Nat.ne_of_lt (Nat.lt_of_lt_of_le (E_y2.keep K2).lt lec26)
    have ne_y3_r26 : y3 ≠ r26 := Nat.ne_of_lt (Nat.lt_of_lt_of_le (E_y3.keep K2).lt lec26)
    refine Go.st st26 ?_
    show Go p e below _ T26 (mkF m 22 #[.val (.int p1), .val (.ref o1)] [(.int (1 : Int32))])
    refine Go.st (fun _ h => XT.pop X26.here hx rfl (hb hby d_method_5_code_22) rfl rfl h) ?_
    show Go p e below _ T26 (mkF m 23 #[.val (.int p1), .val (.ref o1)] [])
    refine Go.st (fun _ h => XS.iloadN X26.here hx rfl (hb hby d_method_5_code_23) rfl h) ?_
    show Go p e below _ T26 (mkF m 24 #[.val (.int p1), .val (.ref o1)] [(.int p1)])
    refine Go.st (fun _ h => XT.iconstV X26.here hx rfl (2 : Int32) (hb hby d_method_5_code_24) (by decide) h) ?_
    show Go p e below _ T26 (mkF m 25 #[.val (.int p1), .val (.ref o1)] [(.int (2 : Int32)), (.int p1)])
    refine Go.st (fun _ h => XS.iand X26.here hx rfl (hb hby d_method_5_code_25) rfl h) ?_
    show Go p e below _ T26 (mkF m 26 #[.val (.int p1), .val (.ref o1)] [(.int (p1 &&& (2 : Int32)))])
    by_cases hc27 : (p1 &&& (2 : Int32)) = (0 : Int32)
    · refine Go.st (fun _ h => XS.ifYes X26.here hx rfl (pc0 := 26) (pc' := 38) rfl (hb hby d_method_5_code_26) rfl ((if0 _ _).trans (teq hc27).1) (by decide) (by decide) h) ?_
      show Go p e below _ T26 (mkF m 38 #[.val (.int p1), .val (.ref o1)] [])
      refine Go.st (fun _ h => XS.iloadN X26.here hx rfl (hb hby d_method_5_code_38) rfl h) ?_
      show Go p e below _ T26 (mkF m 39 #[.val (.int p1), .val (.ref o1)] [(.int p1)])
      refine Go.st (fun _ h => XT.iconstV X26.here hx rfl (4 : Int32) (hb hby d_method_5_code_39) (by decide) h) ?_
      show Go p e below _ T26 (mkF m 40 #[.val (.int p1), .val (.ref o1)] [(.int (4 : Int32)), (.int p1)])
      refine Go.st (fun _ h => XS.iand X26.here hx rfl (hb hby d_method_5_code_40) rfl h) ?_
      show Go p e below _ T26 (mkF m 41 #[.val (.int p1), .val (.ref o1)] [(.int (p1 &&& (4 : Int32)))])
      by_cases hc28 : (p1 &&& (4 : Int32)) = (0 : Int32)
      · refine Go.st (fun _ h => XS.ifYes X26.here hx rfl (pc0 := 41) (pc' := 53) rfl (hb hby d_method_5_code_41) rfl ((if0 _ _).trans (teq hc28).1) (by decide) (by decide) h) ?_
        show Go p e below _ T26 (mkF m 53 #[.val (.int p1), .val (.ref o1)] [])
        refine Go.st (fun _ h => XS.iloadN X26.here hx rfl (hb hby d_method_5_code_53) rfl h) ?_
        show Go p e below _ T26 (mkF m 54 #[.val (.int p1), .val (.ref o1)] [(.int p1)])
        refine Go.st (fun _ h => XT.bipushV X26.here hx rfl (8 : Int32) (hb hby d_method_5_code_54) (by decide) h) ?_
        show Go p e below _ T26 (mkF m 56 #[.val (.int p1), .val (.ref o1)] [(.int (8 : Int32)), (.int p1)])
        refine Go.st (fun _ h => XS.iand X26.here hx rfl (hb hby d_method_5_code_56) rfl h) ?_
        show Go p e below _ T26 (mkF m 57 #[.val (.int p1), .val (.ref o1)] [(.int (p1 &&& (8 : Int32)))])
        by_cases hc29 : (p1 &&& (8 : Int32)) = (0 : Int32)
        · refine Go.st (fun _ h => XS.ifYes X26.here hx rfl (pc0 := 57) (pc' := 69) rfl (hb hby d_method_5_code_57) rfl ((if0 _ _).trans (teq hc29).1) (by decide) (by decide) h) ?_
          show Go p e below _ T26 (mkF m 69 #[.val (.int p1), .val (.ref o1)] [])
          refine Go.st (fun _ h => XS.aloadN X26.here hx rfl (hb hby d_method_5_code_69) rfl rfl h) ?_
          show Go p e below _ T26 (mkF m 70 #[.val (.int p1), .val (.ref o1)] [(.ref o1)])
          refine Go.retA X26 hx hlk hret rfl rfl rfl (hb hby d_method_5_code_70) (by decide) (by decide) ?_
          exact ⟨o1, rfl, N26, K26⟩
        · refine Go.st (fun _ h => XS.ifNo X26.here hx rfl (hb hby d_method_5_code_57) rfl ((if0 _ _).trans (feq hc29).1) h) ?_
          show Go p e below _ T26 (mkF m 60 #[.val (.int p1), .val (.ref o1)] [])
          refine Go.st (fun _ h => XS.aloadN X26.here hx rfl (hb hby d_method_5_code_60) rfl rfl h) ?_
          show Go p e below _ T26 (mkF m 61 #[.val (.int p1), .val (.ref o1)] [(.ref o1)])
          refine Go.st (fun _ h => XT.iconstV X26.here hx rfl (3 : Int32) (hb hby d_method_5_code_61) (by decide) h) ?_
          show Go p e below _ T26 (mkF m 62 #[.val (.int p1), .val (.ref o1)] [(.int (3 : Int32)), (.ref o1)])
          obtain ⟨T30, X30, e30, st30⟩ := own_still rfl rfl (Does.static (y := (⟨"java/lang/Integer", "valueOf", "(I)Ljava/lang/Integer;"⟩ : MethodName)) (g := (mkF m 62 #[.val (.int p1), .val (.ref o1)] [(.int (3 : Int32)), (.ref o1)])) (rmVal3 l Z a0 hw ca y3 cc T26.heap (S_H.ext (own_ext K26)) (S_C.ext (own_ext K26)) (A_c.ext (own_ext K26)) hcc hy3) X26 hx hZ hown rfl (hw _ (List.mem_of_getElem? (i := 39) rfl)) (hw _ (List.mem_of_getElem? (i := 40) rfl)) (hw _ (List.mem_of_getElem? (i := 41) rfl)) (hw _ (List.mem_of_getElem? (i := 42) rfl)) (by decide) rfl (by rw [hml]; rfl) (argsL := [(.int (3 : Int32))]) (rest := [(.ref o1)]) (lenOf pd_28I29Ljava2flang2fInteger3b rfl) rfl (hb hby d_method_5_code_62) (W := 1) (by show 2 * 0 + _ ≤ _; exact Nat.le_of_eq rfl) (by decide) (by decide) (by decide) (by decide))
          refine Go.st st30 ?_
          show Go p e below _ T30 (mkF m 65 #[.val (.int p1), .val (.ref o1)] [(.ref y3), (.ref o1)])
          obtain ⟨_, T31, L31, X31, ⟨vs31, rfl, Nc31, Kc31, hvs31, Vc31, Fc31_0, Fc31_1, Fc31_2⟩, st31⟩ := Does.virtual (y := (⟨"java/util/ArrayList", "add", "(Ljava/lang/Object;)Z"⟩ : MethodName)) (g := (mkF m 65 #[.val (.int p1), .val (.ref o1)] [(.ref y3), (.ref o1)])) (a := o1) (rmAddB l Z a0 hw o1 r26 kk26 vs26 ((0 : Int32) + (1 : Int32)) ((0 : Int32) + (1 : Int32)) T26.heap n0 (Nat.le_trans Z0 K26.1) (Ne.symm ne_o1_r26) hvs26 (by decide) (by decide) Vc26 Oc26 (Nat.le_trans Z0 le_r26) Fc26_0 Fc26_1 Fc26_2 E26_0 (Nat.le_trans Z0 le_o1) y3 (E_y3.keep K26)) X30 hx hZ hown e30 E26_0 (hw _ (List.mem_of_getElem? (i := 46) rfl)) (hw _ (List.mem_of_getElem? (i := 47) rfl)) (hw _ (List.mem_of_getElem? (i := 49) rfl)) (hw _ (List.mem_of_getElem? (i := 48) rfl)) (hw _ (List.mem_of_getElem? (i := 15) rfl)) (hw _ (List.mem_of_getElem? (i := 50) rfl)) (by decide) rfl (by rw [hml]; rfl) (argsL := [(.ref y3)]) (rest := []) (lenOf pd_28Ljava2flang2fObject3b29Z rfl) rfl (hb hby d_method_5_code_65) (W := 0) (by show 2 * 0 + _ ≤ _; exact Nat.le_of_eq rfl) (by decide) (by decide) (by decide) (by decide)
          have E31_0 := E26_0.keep Kc31
          have K31 := K26.trans Kc31 (allS (Or.inr le_o1) (allS (Or.inr le_r26) all0))
          have N31 := Fr.app N26 Nc31
          refine Go.st st31 ?_
          show Go p e below _ T31 (mkF m 68 #[.val (.int p1), .val (.ref o1)] [(.int (1 : Int32))])
          refine Go.st (fun _ h => XT.pop X31.here hx rfl (hb hby d_method_5_code_68) rfl rfl h) ?_
          show Go p e below _ T31 (mkF m 69 #[.val (.int p1), .val (.ref o1)] [])
          refine Go.st (fun _ h => XS.aloadN X31.here hx rfl (hb hby d_method_5_code_69) rfl rfl h) ?_
          show Go p e below _ T31 (mkF m 70 #[.val (.int p1), .val (.ref o1)] [(.ref o1)])
          refine Go.retA X31 hx hlk hret rfl rfl rfl (hb hby d_method_5_code_70) (by decide) (by decide) ?_
          exact ⟨o1, rfl, N31, K31⟩
      · refine Go.st (fun _ h => XS.ifNo X26.here hx rfl (hb hby d_method_5_code_41) rfl ((if0 _ _).trans (feq hc28).1) h) ?_
        show Go p e below _ T26 (mkF m 44 #[.val (.int p1), .val (.ref o1)] [])
        refine Go.st (fun _ h => XS.aloadN X26.here hx rfl (hb hby d_method_5_code_44) rfl rfl h) ?_
        show Go p e below _ T26 (mkF m 45 #[.val (.int p1), .val (.ref o1)] [(.ref o1)])
        refine Go.st (fun _ h => XT.iconstV X26.here hx rfl (2 : Int32) (hb hby d_method_5_code_45) (by decide) h) ?_
        show Go p e below _ T26 (mkF m 46 #[.val (.int p1), .val (.ref o1)] [(.int (2 : Int32)), (.ref o1)])
        obtain ⟨T32, X32, e32, st32⟩ := own_still rfl rfl (Does.static (y := (⟨"java/lang/Integer", "valueOf", "(I)Ljava/lang/Integer;"⟩ : MethodName)) (g := (mkF m 46 #[.val (.int p1), .val (.ref o1)] [(.int (2 : Int32)), (.ref o1)])) (rmVal2 l Z a0 hw ca y2 cc T26.heap (S_H.ext (own_ext K26)) (S_C.ext (own_ext K26)) (A_c.ext (own_ext K26)) hcc hy2) X26 hx hZ hown rfl (hw _ (List.mem_of_getElem? (i := 39) rfl)) (hw _ (List.mem_of_getElem? (i := 40) rfl)) (hw _ (List.mem_of_getElem? (i := 41) rfl)) (hw _ (List.mem_of_getElem? (i := 42) rfl)) (by decide) rfl (by rw [hml]; rfl) (argsL := [(.int (2 : Int32))]) (rest := [(.ref o1)]) (lenOf pd_28I29Ljava2flang2fInteger3b rfl) rfl (hb hby d_method_5_code_46) (W := 1) (by show 2 * 0 + _ ≤ _; exact Nat.le_of_eq rfl) (by decide) (by decide) (by decide) (by decide))
        refine Go.st st32 ?_
        show Go p e below _ T32 (mkF m 49 #[.val (.int p1), .val (.ref o1)] [(.ref y2), (.ref o1)])
        obtain ⟨_, T33, L33, X33, ⟨vs33, rfl, Nc33, Kc33, hvs33, Vc33, Fc33_0, Fc33_1, Fc33_2⟩, st33⟩ := Does.virtual (y := (⟨"java/util/ArrayList", "add", "(Ljava/lang/Object;)Z"⟩ : MethodName)) (g := (mkF m 49 #[.val (.int p1), .val (.ref o1)] [(.ref y2), (.ref o1)])) (a := o1) (rmAddB l Z a0 hw o1 r26 kk26 vs26 ((0 : Int32) + (1 : Int32)) ((0 : Int32) + (1 : Int32)) T26.heap n0 (Nat.le_trans Z0 K26.1) (Ne.symm ne_o1_r26) hvs26 (by decide) (by decide) Vc26 Oc26 (Nat.le_trans Z0 le_r26) Fc26_0 Fc26_1 Fc26_2 E26_0 (Nat.le_trans Z0 le_o1) y2 (E_y2.keep K26)) X32 hx hZ hown e32 E26_0 (hw _ (List.mem_of_getElem? (i := 46) rfl)) (hw _ (List.mem_of_getElem? (i := 47) rfl)) (hw _ (List.mem_of_getElem? (i := 49) rfl)) (hw _ (List.mem_of_getElem? (i := 48) rfl)) (hw _ (List.mem_of_getElem? (i := 15) rfl)) (hw _ (List.mem_of_getElem? (i := 50) rfl)) (by decide) rfl (by rw [hml]; rfl) (argsL := [(.ref y2)]) (rest := []) (lenOf pd_28Ljava2flang2fObject3b29Z rfl) rfl (hb hby d_method_5_code_49) (W := 0) (by show 2 * 0 + _ ≤ _; exact Nat.le_of_eq rfl) (by decide) (by decide) (by decide) (by decide)
        have E33_0 := E26_0.keep Kc33
        have K33 := K26.trans Kc33 (allS (Or.inr le_o1) (allS (Or.inr le_r26) all0))
        have N33 := Fr.app N26 Nc33
        refine Go.st st33 ?_
        show Go p e below _ T33 (mkF m 52 #[.val (.int p1), .val (.ref o1)] [(.int (1 : Int32))])
        refine Go.st (fun _ h => XT.pop X33.here hx rfl (hb hby d_method_5_code_52) rfl rfl h) ?_
        show Go p e below _ T33 (mkF m 53 #[.val (.int p1), .val (.ref o1)] [])
        refine Go.st (fun _ h => XS.iloadN X33.here hx rfl (hb hby d_method_5_code_53) rfl h) ?_
        show Go p e below _ T33 (mkF m 54 #[.val (.int p1), .val (.ref o1)] [(.int p1)])
        refine Go.st (fun _ h => XT.bipushV X33.here hx rfl (8 : Int32) (hb hby d_method_5_code_54) (by decide) h) ?_
        show Go p e below _ T33 (mkF m 56 #[.val (.int p1), .val (.ref o1)] [(.int (8 : Int32)), (.int p1)])
        refine Go.st (fun _ h => XS.iand X33.here hx rfl (hb hby d_method_5_code_56) rfl h) ?_
        show Go p e below _ T33 (mkF m 57 #[.val (.int p1), .val (.ref o1)] [(.int (p1 &&& (8 : Int32)))])
        by_cases hc34 : (p1 &&& (8 : Int32)) = (0 : Int32)
        · refine Go.st (fun _ h => XS.ifYes X33.here hx rfl (pc0 := 57) (pc' := 69) rfl (hb hby d_method_5_code_57) rfl ((if0 _ _).trans (teq hc34).1) (by decide) (by decide) h) ?_
          show Go p e below _ T33 (mkF m 69 #[.val (.int p1), .val (.ref o1)] [])
          refine Go.st (fun _ h => XS.aloadN X33.here hx rfl (hb hby d_method_5_code_69) rfl rfl h) ?_
          show Go p e below _ T33 (mkF m 70 #[.val (.int p1), .val (.ref o1)] [(.ref o1)])
          refine Go.retA X33 hx hlk hret rfl rfl rfl (hb hby d_method_5_code_70) (by decide) (by decide) ?_
          exact ⟨o1, rfl, N33, K33⟩
        · refine Go.st (fun _ h => XS.ifNo X33.here hx rfl (hb hby d_method_5_code_57) rfl ((if0 _ _).trans (feq hc34).1) h) ?_
          show Go p e below _ T33 (mkF m 60 #[.val (.int p1), .val (.ref o1)] [])
          refine Go.st (fun _ h => XS.aloadN X33.here hx rfl (hb hby d_method_5_code_60) rfl rfl h) ?_
          show Go p e below _ T33 (mkF m 61 #[.val (.int p1), .val (.ref o1)] [(.ref o1)])
          refine Go.st (fun _ h => XT.iconstV X33.here hx rfl (3 : Int32) (hb hby d_method_5_code_61) (by decide) h) ?_
          show Go p e below _ T33 (mkF m 62 #[.val (.int p1), .val (.ref o1)] [(.int (3 : Int32)), (.ref o1)])
          obtain ⟨T35, X35, e35, st35⟩ := own_still rfl rfl (Does.static (y := (⟨"java/lang/Integer", "valueOf", "(I)Ljava/lang/Integer;"⟩ : MethodName)) (g := (mkF m 62 #[.val (.int p1), .val (.ref o1)] [(.int (3 : Int32)), (.ref o1)])) (rmVal3 l Z a0 hw ca y3 cc T33.heap (S_H.ext (own_ext K33)) (S_C.ext (own_ext K33)) (A_c.ext (own_ext K33)) hcc hy3) X33 hx hZ hown rfl (hw _ (List.mem_of_getElem? (i := 39) rfl)) (hw _ (List.mem_of_getElem? (i := 40) rfl)) (hw _ (List.mem_of_getElem? (i := 41) rfl)) (hw _ (List.mem_of_getElem? (i := 42) rfl)) (by decide) rfl (by rw [hml]; rfl) (argsL := [(.int (3 : Int32))]) (rest := [(.ref o1)]) (lenOf pd_28I29Ljava2flang2fInteger3b rfl) rfl (hb hby d_method_5_code_62) (W := 1) (by show 2 * 0 + _ ≤ _; exact Nat.le_of_eq rfl) (by decide) (by decide) (by decide) (by decide))
          refine Go.st st35 ?_
          show Go p e below _ T35 (mkF m 65 #[.val (.int p1), .val (.ref o1)] [(.ref y3), (.ref o1)])
          obtain ⟨_, T36, L36, X36, ⟨vs36, rfl, Nc36, Kc36, hvs36, Vc36, Fc36_0, Fc36_1, Fc36_2⟩, st36⟩ := Does.virtual (y := (⟨"java/util/ArrayList", "add", "(Ljava/lang/Object;)Z"⟩ : MethodName)) (g := (mkF m 65 #[.val (.int p1), .val (.ref o1)] [(.ref y3), (.ref o1)])) (a := o1) (rmAddB l Z a0 hw o1 r26 kk26 vs33 (((0 : Int32) + (1 : Int32)) + (1 : Int32)) (((0 : Int32) + (1 : Int32)) + (1 : Int32)) T33.heap n0 (Nat.le_trans Z0 K33.1) (Ne.symm ne_o1_r26) hvs33 (by decide) (by decide) Vc33 Oc26 (Nat.le_trans Z0 le_r26) Fc33_0 Fc33_1 Fc33_2 E33_0 (Nat.le_trans Z0 le_o1) y3 (E_y3.keep K33)) X35 hx hZ hown e35 E33_0 (hw _ (List.mem_of_getElem? (i := 46) rfl)) (hw _ (List.mem_of_getElem? (i := 47) rfl)) (hw _ (List.mem_of_getElem? (i := 49) rfl)) (hw _ (List.mem_of_getElem? (i := 48) rfl)) (hw _ (List.mem_of_getElem? (i := 15) rfl)) (hw _ (List.mem_of_getElem? (i := 50) rfl)) (by decide) rfl (by rw [hml]; rfl) (argsL := [(.ref y3)]) (rest := []) (lenOf pd_28Ljava2flang2fObject3b29Z rfl) rfl (hb hby d_method_5_code_65) (W := 0) (by show 2 * 0 + _ ≤ _; exact Nat.le_of_eq rfl) (by decide) (by decide) (by decide) (by decide)
          have E36_0 := E33_0.keep Kc36
          have K36 := K33.trans Kc36 (allS (Or.inr le_o1) (allS (Or.inr le_r26) all0))
          have N36 := Fr.app N33 Nc36
          refine Go.st st36 ?_
          show Go p e below _ T36 (mkF m 68 #[.val (.int p1), .val (.ref o1)] [(.int (1 : Int32))])
          refine Go.st (fun _ h => XT.pop X36.here hx rfl (hb hby d_method_5_code_68) rfl rfl h) ?_
          show Go p e below _ T36 (mkF m 69 #[.val (.int p1), .val (.ref o1)] [])
          refine Go.st (fun _ h => XS.aloadN X36.here hx rfl (hb hby d_method_5_code_69) rfl rfl h) ?_
          show Go p e below _ T36 (mkF m 70 #[.val (.int p1), .val (.ref o1)] [(.ref o1)])
          refine Go.retA X36 hx hlk hret rfl rfl rfl (hb hby d_method_5_code_70) (by decide) (by decide) ?_
          exact ⟨o1, rfl, N36, K36⟩
    · refine Go.st (fun _ h => XS.ifNo X26.here hx rfl (hb hby d_method_5_code_26) rfl ((if0 _ _).trans (feq hc27).1) h) ?_
      show Go p e below _ T26 (mkF m 29 #[.val (.int p1), .val (.ref o1)] [])
      refine Go.st (fun _ h => XS.aloadN X26.here hx rfl (hb hby d_method_5_code_29) rfl rfl h) ?_
      show Go p e below _ T26 (mkF m 30 #[.val (.int p1), .val (.ref o1)] [(.ref o1)])
      refine Go.st (fun _ h => XT.iconstV X26.here hx rfl (1 : Int32) (hb hby d_method_5_code_30) (by decide) h) ?_
      show Go p e below _ T26 (mkF m 31 #[.val (.int p1), .val (.ref o1)] [(.int (1 : Int32)), (.ref o1)])
      obtain ⟨T37, X37, e37, st37⟩ := own_still rfl rfl (Does.static (y := (⟨"java/lang/Integer", "valueOf", "(I)Ljava/lang/Integer;"⟩ : MethodName)) (g := (mkF m 31 #[.val (.int p1), .val (.ref o1)] [(.int (1 : Int32)), (.ref o1)])) (rmVal1 l Z a0 hw ca y1 cc T26.heap (S_H.ext (own_ext K26)) (S_C.ext (own_ext K26)) (A_c.ext (own_ext K26)) hcc hy1) X26 hx hZ hown rfl (hw _ (List.mem_of_getElem? (i := 39) rfl)) (hw _ (List.mem_of_getElem? (i := 40) rfl)) (hw _ (List.mem_of_getElem? (i := 41) rfl)) (hw _ (List.mem_of_getElem? (i := 42) rfl)) (by decide) rfl (by rw [hml]; rfl) (argsL := [(.int (1 : Int32))]) (rest := [(.ref o1)]) (lenOf pd_28I29Ljava2flang2fInteger3b rfl) rfl (hb hby d_method_5_code_31) (W := 1) (by show 2 * 0 + _ ≤ _; exact Nat.le_of_eq rfl) (by decide) (by decide) (by decide) (by decide))
      refine Go.st st37 ?_
      show Go p e below _ T37 (mkF m 34 #[.val (.int p1), .val (.ref o1)] [(.ref y1), (.ref o1)])
      obtain ⟨_, T38, L38, X38, ⟨vs38, rfl, Nc38, Kc38, hvs38, Vc38, Fc38_0, Fc38_1, Fc38_2⟩, st38⟩ := Does.virtual (y := (⟨"java/util/ArrayList", "add", "(Ljava/lang/Object;)Z"⟩ : MethodName)) (g := (mkF m 34 #[.val (.int p1), .val (.ref o1)] [(.ref y1), (.ref o1)])) (a := o1) (rmAddB l Z a0 hw o1 r26 kk26 vs26 ((0 : Int32) + (1 : Int32)) ((0 : Int32) + (1 : Int32)) T26.heap n0 (Nat.le_trans Z0 K26.1) (Ne.symm ne_o1_r26) hvs26 (by decide) (by decide) Vc26 Oc26 (Nat.le_trans Z0 le_r26) Fc26_0 Fc26_1 Fc26_2 E26_0 (Nat.le_trans Z0 le_o1) y1 (E_y1.keep K26)) X37 hx hZ hown e37 E26_0 (hw _ (List.mem_of_getElem? (i := 46) rfl)) (hw _ (List.mem_of_getElem? (i := 47) rfl)) (hw _ (List.mem_of_getElem? (i := 49) rfl)) (hw _ (List.mem_of_getElem? (i := 48) rfl)) (hw _ (List.mem_of_getElem? (i := 15) rfl)) (hw _ (List.mem_of_getElem? (i := 50) rfl)) (by decide) rfl (by rw [hml]; rfl) (argsL := [(.ref y1)]) (rest := []) (lenOf pd_28Ljava2flang2fObject3b29Z rfl) rfl (hb hby d_method_5_code_34) (W := 0) (by show 2 * 0 + _ ≤ _; exact Nat.le_of_eq rfl) (by decide) (by decide) (by decide) (by decide)
      have E38_0 := E26_0.keep Kc38
      have K38 := K26.trans Kc38 (allS (Or.inr le_o1) (allS (Or.inr le_r26) all0))
      have N38 := Fr.app N26 Nc38
      refine Go.st st38 ?_
      show Go p e below _ T38 (mkF m 37 #[.val (.int p1), .val (.ref o1)] [(.int (1 : Int32))])
      refine Go.st (fun _ h => XT.pop X38.here hx rfl (hb hby d_method_5_code_37) rfl rfl h) ?_
      show Go p e below _ T38 (mkF m 38 #[.val (.int p1), .val (.ref o1)] [])
      refine Go.st (fun _ h => XS.iloadN X38.here hx rfl (hb hby d_method_5_code_38) rfl h) ?_
      show Go p e below _ T38 (mkF m 39 #[.val (.int p1), .val (.ref o1)] [(.int p1)])
      refine Go.st (fun _ h => XT.iconstV X38.here hx rfl (4 : Int32) (hb hby d_method_5_code_39) (by decide) h) ?_
      show Go p e below _ T38 (mkF m 40 #[.val (.int p1), .val (.ref o1)] [(.int (4 : Int32)), (.int p1)])
      refine Go.st (fun _ h => XS.iand X38.here hx rfl (hb hby d_method_5_code_40) rfl h) ?_
      show Go p e below _ T38 (mkF m 41 #[.val (.int p1), .val (.ref o1)] [(.int (p1 &&& (4 : Int32)))])
      by_cases hc39 : (p1 &&& (4 : Int32)) = (0 : Int32)
      · refine Go.st (fun _ h => XS.ifYes X38.here hx rfl (pc0 := 41) (pc' := 53) rfl (hb hby d_method_5_code_41) rfl ((if0 _ _).trans (teq hc39).1) (by decide) (by decide) h) ?_
        show Go p e below _ T38 (mkF m 53 #[.val (.int p1), .val (.ref o1)] [])
        refine Go.st (fun _ h => XS.iloadN X38.here hx rfl (hb hby d_method_5_code_53) rfl h) ?_
        show Go p e below _ T38 (mkF m 54 #[.val (.int p1), .val (.ref o1)] [(.int p1)])
        refine Go.st (fun _ h => XT.bipushV X38.here hx rfl (8 : Int32) (hb hby d_method_5_code_54) (by decide) h) ?_
        show Go p e below _ T38 (mkF m 56 #[.val (.int p1), .val (.ref o1)] [(.int (8 : Int32)), (.int p1)])
        refine Go.st (fun _ h => XS.iand X38.here hx rfl (hb hby d_method_5_code_56) rfl h) ?_
        show Go p e below _ T38 (mkF m 57 #[.val (.int p1), .val (.ref o1)] [(.int (p1 &&& (8 : Int32)))])
        by_cases hc40 : (p1 &&& (8 : Int32)) = (0 : Int32)
        · refine Go.st (fun _ h => XS.ifYes X38.here hx rfl (pc0 := 57) (pc' := 69) rfl (hb hby d_method_5_code_57) rfl ((if0 _ _).trans (teq hc40).1) (by decide) (by decide) h) ?_
          show Go p e below _ T38 (mkF m 69 #[.val (.int p1), .val (.ref o1)] [])
          refine Go.st (fun _ h => XS.aloadN X38.here hx rfl (hb hby d_method_5_code_69) rfl rfl h) ?_
          show Go p e below _ T38 (mkF m 70 #[.val (.int p1), .val (.ref o1)] [(.ref o1)])
          refine Go.retA X38 hx hlk hret rfl rfl rfl (hb hby d_method_5_code_70) (by decide) (by decide) ?_
          exact ⟨o1, rfl, N38, K38⟩
        · refine Go.st (fun _ h => XS.ifNo X38.here hx rfl (hb hby d_method_5_code_57) rfl ((if0 _ _).trans (feq hc40).1) h) ?_
          show Go p e below _ T38 (mkF m 60 #[.val (.int p1), .val (.ref o1)] [])
          refine Go.st (fun _ h => XS.aloadN X38.here hx rfl (hb hby d_method_5_code_60) rfl rfl h) ?_
          show Go p e below _ T38 (mkF m 61 #[.val (.int p1), .val (.ref o1)] [(.ref o1)])
          refine Go.st (fun _ h => XT.iconstV X38.here hx rfl (3 : Int32) (hb hby d_method_5_code_61) (by decide) h) ?_
          show Go p e below _ T38 (mkF m 62 #[.val (.int p1), .val (.ref o1)] [(.int (3 : Int32)), (.ref o1)])
          obtain ⟨T41, X41, e41, st41⟩ := own_still rfl rfl (Does.static (y := (⟨"java/lang/Integer", "valueOf", "(I)Ljava/lang/Integer;"⟩ : MethodName)) (g := (mkF m 62 #[.val (.int p1), .val (.ref o1)] [(.int (3 : Int32)), (.ref o1)])) (rmVal3 l Z a0 hw ca y3 cc T38.heap (S_H.ext (own_ext K38)) (S_C.ext (own_ext K38)) (A_c.ext (own_ext K38)) hcc hy3) X38 hx hZ hown rfl (hw _ (List.mem_of_getElem? (i := 39) rfl)) (hw _ (List.mem_of_getElem? (i := 40) rfl)) (hw _ (List.mem_of_getElem? (i := 41) rfl)) (hw _ (List.mem_of_getElem? (i := 42) rfl)) (by decide) rfl (by rw [hml]; rfl) (argsL := [(.int (3 : Int32))]) (rest := [(.ref o1)]) (lenOf pd_28I29Ljava2flang2fInteger3b rfl) rfl (hb hby d_method_5_code_62) (W := 1) (by show 2 * 0 + _ ≤ _; exact Nat.le_of_eq rfl) (by decide) (by decide) (by decide) (by decide))
          refine Go.st st41 ?_
          show Go p e below _ T41 (mkF m 65 #[.val (.int p1), .val (.ref o1)] [(.ref y3), (.ref o1)])
          obtain ⟨_, T42, L42, X42, ⟨vs42, rfl, Nc42, Kc42, hvs42, Vc42, Fc42_0, Fc42_1, Fc42_2⟩, st42⟩ := Does.virtual (y := (⟨"java/util/ArrayList", "add", "(Ljava/lang/Object;)Z"⟩ : MethodName)) (g := (mkF m 65 #[.val (.int p1), .val (.ref o1)] [(.ref y3), (.ref o1)])) (a := o1) (rmAddB l Z a0 hw o1 r26 kk26 vs38 (((0 : Int32) + (1 : Int32)) + (1 : Int32)) (((0 : Int32) + (1 : Int32)) + (1 : Int32)) T38.heap n0 (Nat.le_trans Z0 K38.1) (Ne.symm ne_o1_r26) hvs38 (by decide) (by decide) Vc38 Oc26 (Nat.le_trans Z0 le_r26) Fc38_0 Fc38_1 Fc38_2 E38_0 (Nat.le_trans Z0 le_o1) y3 (E_y3.keep K38)) X41 hx hZ hown e41 E38_0 (hw _ (List.mem_of_getElem? (i := 46) rfl)) (hw _ (List.mem_of_getElem? (i := 47) rfl)) (hw _ (List.mem_of_getElem? (i := 49) rfl)) (hw _ (List.mem_of_getElem? (i := 48) rfl)) (hw _ (List.mem_of_getElem? (i := 15) rfl)) (hw _ (List.mem_of_getElem? (i := 50) rfl)) (by decide) rfl (by rw [hml]; rfl) (argsL := [(.ref y3)]) (rest := []) (lenOf pd_28Ljava2flang2fObject3b29Z rfl) rfl (hb hby d_method_5_code_65) (W := 0) (by show 2 * 0 + _ ≤ _; exact Nat.le_of_eq rfl) (by decide) (by decide) (by decide) (by decide)
          have E42_0 := E38_0.keep Kc42
          have K42 := K38.trans Kc42 (allS (Or.inr le_o1) (allS (Or.inr le_r26) all0))
          have N42 := Fr.app N38 Nc42
          refine Go.st st42 ?_
          show Go p e below _ T42 (mkF m 68 #[.val (.int p1), .val (.ref o1)] [(.int (1 : Int32))])
          refine Go.st (fun _ h => XT.pop X42.here hx rfl (hb hby d_method_5_code_68) rfl rfl h) ?_
          show Go p e below _ T42 (mkF m 69 #[.val (.int p1), .val (.ref o1)] [])
          refine Go.st (fun _ h => XS.aloadN X42.here hx rfl (hb hby d_method_5_code_69) rfl rfl h) ?_
          show Go p e below _ T42 (mkF m 70 #[.val (.int p1), .val (.ref o1)] [(.ref o1)])
          refine Go.retA X42 hx hlk hret rfl rfl rfl (hb hby d_method_5_code_70) (by decide) (by decide) ?_
          exact ⟨o1, rfl, N42, K42⟩
      · refine Go.st (fun _ h => XS.ifNo X38.here hx rfl (hb hby d_method_5_code_41) rfl ((if0 _ _).trans (feq hc39).1) h) ?_
        show Go p e below _ T38 (mkF m 44 #[.val (.int p1), .val (.ref o1)] [])
        refine Go.st (fun _ h => XS.aloadN X38.here hx rfl (hb hby d_method_5_code_44) rfl rfl h) ?_
        show Go p e below _ T38 (mkF m 45 #[.val (.int p1), .val (.ref o1)] [(.ref o1)])
        refine Go.st (fun _ h => XT.iconstV X38.here hx rfl (2 : Int32) (hb hby d_method_5_code_45) (by decide) h) ?_
        show Go p e below _ T38 (mkF m 46 #[.val (.int p1), .val (.ref o1)] [(.int (2 : Int32)), (.ref o1)])
        obtain ⟨T43, X43, e43, st43⟩ := own_still rfl rfl (Does.static (y := (⟨"java/lang/Integer", "valueOf", "(I)Ljava/lang/Integer;"⟩ : MethodName)) (g := (mkF m 46 #[.val (.int p1), .val (.ref o1)] [(.int (2 : Int32)), (.ref o1)])) (rmVal2 l Z a0 hw ca y2 cc T38.heap (S_H.ext (own_ext K38)) (S_C.ext (own_ext K38)) (A_c.ext (own_ext K38)) hcc hy2) X38 hx hZ hown rfl (hw _ (List.mem_of_getElem? (i := 39) rfl)) (hw _ (List.mem_of_getElem? (i := 40) rfl)) (hw _ (List.mem_of_getElem? (i := 41) rfl)) (hw _ (List.mem_of_getElem? (i := 42) rfl)) (by decide) rfl (by rw [hml]; rfl) (argsL := [(.int (2 : Int32))]) (rest := [(.ref o1)]) (lenOf pd_28I29Ljava2flang2fInteger3b rfl) rfl (hb hby d_method_5_code_46) (W := 1) (by show 2 * 0 + _ ≤ _; exact Nat.le_of_eq rfl) (by decide) (by decide) (by decide) (by decide))
        refine Go.st st43 ?_
        show Go p e below _ T43 (mkF m 49 #[.val (.int p1), .val (.ref o1)] [(.ref y2), (.ref o1)])
        obtain ⟨_, T44, L44, X44, ⟨vs44, rfl, Nc44, Kc44, hvs44, Vc44, Fc44_0, Fc44_1, Fc44_2⟩, st44⟩ := Does.virtual (y := (⟨"java/util/ArrayList", "add", "(Ljava/lang/Object;)Z"⟩ : MethodName)) (g := (mkF m 49 #[.val (.int p1), .val (.ref o1)] [(.ref y2), (.ref o1)])) (a := o1) (rmAddB l Z a0 hw o1 r26 kk26 vs38 (((0 : Int32) + (1 : Int32)) + (1 : Int32)) (((0 : Int32) + (1 : Int32)) + (1 : Int32)) T38.heap n0 (Nat.le_trans Z0 K38.1) (Ne.symm ne_o1_r26) hvs38 (by decide) (by decide) Vc38 Oc26 (Nat.le_trans Z0 le_r26) Fc38_0 Fc38_1 Fc38_2 E38_0 (Nat.le_trans Z0 le_o1) y2 (E_y2.keep K38)) X43 hx hZ hown e43 E38_0 (hw _ (List.mem_of_getElem? (i := 46) rfl)) (hw _ (List.mem_of_getElem? (i := 47) rfl)) (hw _ (List.mem_of_getElem? (i := 49) rfl)) (hw _ (List.mem_of_getElem? (i := 48) rfl)) (hw _ (List.mem_of_getElem? (i := 15) rfl)) (hw _ (List.mem_of_getElem? (i := 50) rfl)) (by decide) rfl (by rw [hml]; rfl) (argsL := [(.ref y2)]) (rest := []) (lenOf pd_28Ljava2flang2fObject3b29Z rfl) rfl (hb hby d_method_5_code_49) (W := 0) (by show 2 * 0 + _ ≤ _; exact Nat.le_of_eq rfl) (by decide) (by decide) (by decide) (by decide)
        have E44_0 := E38_0.keep Kc44
        have K44 := K38.trans Kc44 (allS (Or.inr le_o1) (allS (Or.inr le_r26) all0))
        have N44 := Fr.app N38 Nc44
        refine Go.st st44 ?_
        show Go p e below _ T44 (mkF m 52 #[.val (.int p1), .val (.ref o1)] [(.int (1 : Int32))])
        refine Go.st (fun _ h => XT.pop X44.here hx rfl (hb hby d_method_5_code_52) rfl rfl h) ?_
        show Go p e below _ T44 (mkF m 53 #[.val (.int p1), .val (.ref o1)] [])
        refine Go.st (fun _ h => XS.iloadN X44.here hx rfl (hb hby d_method_5_code_53) rfl h) ?_
        show Go p e below _ T44 (mkF m 54 #[.val (.int p1), .val (.ref o1)] [(.int p1)])
        refine Go.st (fun _ h => XT.bipushV X44.here hx rfl (8 : Int32) (hb hby d_method_5_code_54) (by decide) h) ?_
        show Go p e below _ T44 (mkF m 56 #[.val (.int p1), .val (.ref o1)] [(.int (8 : Int32)), (.int p1)])
        refine Go.st (fun _ h => XS.iand X44.here hx rfl (hb hby d_method_5_code_56) rfl h) ?_
        show Go p e below _ T44 (mkF m 57 #[.val (.int p1), .val (.ref o1)] [(.int (p1 &&& (8 : Int32)))])
        by_cases hc45 : (p1 &&& (8 : Int32)) = (0 : Int32)
        · refine Go.st (fun _ h => XS.ifYes X44.here hx rfl (pc0 := 57) (pc' := 69) rfl (hb hby d_method_5_code_57) rfl ((if0 _ _).trans (teq hc45).1) (by decide) (by decide) h) ?_
          show Go p e below _ T44 (mkF m 69 #[.val (.int p1), .val (.ref o1)] [])
          refine Go.st (fun _ h => XS.aloadN X44.here hx rfl (hb hby d_method_5_code_69) rfl rfl h) ?_
          show Go p e below _ T44 (mkF m 70 #[.val (.int p1), .val (.ref o1)] [(.ref o1)])
          refine Go.retA X44 hx hlk hret rfl rfl rfl (hb hby d_method_5_code_70) (by decide) (by decide) ?_
          exact ⟨o1, rfl, N44, K44⟩
        · refine Go.st (fun _ h => XS.ifNo X44.here hx rfl (hb hby d_method_5_code_57) rfl ((if0 _ _).trans (feq hc45).1) h) ?_
          show Go p e below _ T44 (mkF m 60 #[.val (.int p1), .val (.ref o1)] [])
          refine Go.st (fun _ h => XS.aloadN X44.here hx rfl (hb hby d_method_5_code_60) rfl rfl h) ?_
          show Go p e below _ T44 (mkF m 61 #[.val (.int p1), .val (.ref o1)] [(.ref o1)])
          refine Go.st (fun _ h => XT.iconstV X44.here hx rfl (3 : Int32) (hb hby d_method_5_code_61) (by decide) h) ?_
          show Go p e below _ T44 (mkF m 62 #[.val (.int p1), .val (.ref o1)] [(.int (3 : Int32)), (.ref o1)])
          obtain ⟨T46, X46, e46, st46⟩ := own_still rfl rfl (Does.static (y := (⟨"java/lang/Integer", "valueOf", "(I)Ljava/lang/Integer;"⟩ : MethodName)) (g := (mkF m 62 #[.val (.int p1), .val (.ref o1)] [(.int (3 : Int32)), (.ref o1)])) (rmVal3 l Z a0 hw ca y3 cc T44.heap (S_H.ext (own_ext K44)) (S_C.ext (own_ext K44)) (A_c.ext (own_ext K44)) hcc hy3) X44 hx hZ hown rfl (hw _ (List.mem_of_getElem? (i := 39) rfl)) (hw _ (List.mem_of_getElem? (i := 40) rfl)) (hw _ (List.mem_of_getElem? (i := 41) rfl)) (hw _ (List.mem_of_getElem? (i := 42) rfl)) (by decide) rfl (by rw [hml]; rfl) (argsL := [(.int (3 : Int32))]) (rest := [(.ref o1)]) (lenOf pd_28I29Ljava2flang2fInteger3b rfl) rfl (hb hby d_method_5_code_62) (W := 1) (by show 2 * 0 + _ ≤ _; exact Nat.le_of_eq rfl) (by decide) (by decide) (by decide) (by decide))
          refine Go.st st46 ?_
          show Go p e below _ T46 (mkF m 65 #[.val (.int p1), .val (.ref o1)] [(.ref y3), (.ref o1)])
          obtain ⟨_, T47, L47, X47, ⟨vs47, rfl, Nc47, Kc47, hvs47, Vc47, Fc47_0, Fc47_1, Fc47_2⟩, st47⟩ := Does.virtual (y := (⟨"java/util/ArrayList", "add", "(Ljava/lang/Object;)Z"⟩ : MethodName)) (g := (mkF m 65 #[.val (.int p1), .val (.ref o1)] [(.ref y3), (.ref o1)])) (a := o1) (rmAddB l Z a0 hw o1 r26 kk26 vs44 ((((0 : Int32) + (1 : Int32)) + (1 : Int32)) + (1 : Int32)) ((((0 : Int32) + (1 : Int32)) + (1 : Int32)) + (1 : Int32)) T44.heap n0 (Nat.le_trans Z0 K44.1) (Ne.symm ne_o1_r26) hvs44 (by decide) (by decide) Vc44 Oc26 (Nat.le_trans Z0 le_r26) Fc44_0 Fc44_1 Fc44_2 E44_0 (Nat.le_trans Z0 le_o1) y3 (E_y3.keep K44)) X46 hx hZ hown e46 E44_0 (hw _ (List.mem_of_getElem? (i := 46) rfl)) (hw _ (List.mem_of_getElem? (i := 47) rfl)) (hw _ (List.mem_of_getElem? (i := 49) rfl)) (hw _ (List.mem_of_getElem? (i := 48) rfl)) (hw _ (List.mem_of_getElem? (i := 15) rfl)) (hw _ (List.mem_of_getElem? (i := 50) rfl)) (by decide) rfl (by rw [hml]; rfl) (argsL := [(.ref y3)]) (rest := []) (lenOf pd_28Ljava2flang2fObject3b29Z rfl) rfl (hb hby d_method_5_code_65) (W := 0) (by show 2 * 0 + _ ≤ _; exact Nat.le_of_eq rfl) (by decide) (by decide) (by decide) (by decide)
          have E47_0 := E44_0.keep Kc47
          have K47 := K44.trans Kc47 (allS (Or.inr le_o1) (allS (Or.inr le_r26) all0))
          have N47 := Fr.app N44 Nc47
          refine Go.st st47 ?_
          show Go p e below _ T47 (mkF m 68 #[.val (.int p1), .val (.ref o1)] [(.int (1 : Int32))])
          refine Go.st (fun _ h => XT.pop X47.here hx rfl (hb hby d_method_5_code_68) rfl rfl h) ?_
          show Go p e below _ T47 (mkF m 69 #[.val (.int p1), .val (.ref o1)] [])
          refine Go.st (fun _ h => XS.aloadN X47.here hx rfl (hb hby d_method_5_code_69) rfl rfl h) ?_
          show Go p e below _ T47 (mkF m 70 #[.val (.int p1), .val (.ref o1)] [(.ref o1)])
          refine Go.retA X47 hx hlk hret rfl rfl rfl (hb hby d_method_5_code_70) (by decide) (by decide) ?_
          exact ⟨o1, rfl, N47, K47⟩
theorem ef_rmPc (x0 : Int32) (m : MethodId) : entryFrame m #[(.int x0)] 1 = mkF m 0 #[.val (.int x0)] [] := by first | (simp [entryFrame, mkF, argsToLocals, Value.category]; done) | rfl
set_option maxRecDepth 65536 in
set_option maxHeartbeats 40000000 in
theorem rmPc (l : Launch) (Z : State) (a0 : Array Value) (hw : ∀ d ∈ tables_1, d.before a0 Z = true) (p1 : Int32) (h0 : Heap) :
    Does l Z (⟨"com/example/bindwell/bindwell/collect/ListChangeMovesFromPinLaw", "pc", "(I)I"⟩ : MethodName) method_3_code 1 (some .int) [] ({ frames := 0, cells := 0, slots := 0, locals := 0 } : Room) #[(.int p1)] h0 (Val (some (.int (own_pc p1))) h0) := by
  refine Does.intro (plainFor_of_name pn_com_example_bindwell_bindwell_collect_ListChangeMovesFromPinLaw) (ef_rmPc p1) ?_
  intro p e s m below meth c s₁ hx hby hml hown hnm hret hlk hZ e0 X0
  show Go p e below _ s₁ (mkF m 0 #[.val (.int p1)] [])
  refine Go.st (fun _ h => XS.iloadN X0.here hx rfl (hb hby d_method_3_code_0) rfl h) ?_
  show Go p e below _ s₁ (mkF m 1 #[.val (.int p1)] [(.int p1)])
  refine Go.st (fun _ h => XT.iconstV X0.here hx rfl (1 : Int32) (hb hby d_method_3_code_1) (by decide) h) ?_
  show Go p e below _ s₁ (mkF m 2 #[.val (.int p1)] [(.int (1 : Int32)), (.int p1)])
  refine Go.st (fun _ h => XS.iand X0.here hx rfl (hb hby d_method_3_code_2) rfl h) ?_
  show Go p e below _ s₁ (mkF m 3 #[.val (.int p1)] [(.int (p1 &&& (1 : Int32)))])
  refine Go.st (fun _ h => XS.iloadN X0.here hx rfl (hb hby d_method_3_code_3) rfl h) ?_
  show Go p e below _ s₁ (mkF m 4 #[.val (.int p1)] [(.int p1), (.int (p1 &&& (1 : Int32)))])
  refine Go.st (fun _ h => XT.iconstV X0.here hx rfl (1 : Int32) (hb hby d_method_3_code_4) (by decide) h) ?_
  show Go p e below _ s₁ (mkF m 5 #[.val (.int p1)] [(.int (1 : Int32)), (.int p1), (.int (p1 &&& (1 : Int32)))])
  refine Go.st (fun _ h => XT.ishr X0.here hx rfl (hb hby d_method_3_code_5) rfl h) ?_
  show Go p e below _ s₁ (mkF m 6 #[.val (.int p1)] [(.int (p1 >>> ((1 : Int32) &&& 31))), (.int (p1 &&& (1 : Int32)))])
  refine Go.st (fun _ h => XT.iconstV X0.here hx rfl (1 : Int32) (hb hby d_method_3_code_6) (by decide) h) ?_
  show Go p e below _ s₁ (mkF m 7 #[.val (.int p1)] [(.int (1 : Int32)), (.int (p1 >>> ((1 : Int32) &&& 31))), (.int (p1 &&& (1 : Int32)))])
  refine Go.st (fun _ h => XS.iand X0.here hx rfl (hb hby d_method_3_code_7) rfl h) ?_
  show Go p e below _ s₁ (mkF m 8 #[.val (.int p1)] [(.int ((p1 >>> ((1 : Int32) &&& 31)) &&& (1 : Int32))), (.int (p1 &&& (1 : Int32)))])
  refine Go.st (fun _ h => XS.iadd X0.here hx rfl (hb hby d_method_3_code_8) rfl h) ?_
  show Go p e below _ s₁ (mkF m 9 #[.val (.int p1)] [(.int ((p1 &&& (1 : Int32)) + ((p1 >>> ((1 : Int32) &&& 31)) &&& (1 : Int32))))])
  refine Go.st (fun _ h => XS.iloadN X0.here hx rfl (hb hby d_method_3_code_9) rfl h) ?_
  show Go p e below _ s₁ (mkF m 10 #[.val (.int p1)] [(.int p1), (.int ((p1 &&& (1 : Int32)) + ((p1 >>> ((1 : Int32) &&& 31)) &&& (1 : Int32))))])
  refine Go.st (fun _ h => XT.iconstV X0.here hx rfl (2 : Int32) (hb hby d_method_3_code_10) (by decide) h) ?_
  show Go p e below _ s₁ (mkF m 11 #[.val (.int p1)] [(.int (2 : Int32)), (.int p1), (.int ((p1 &&& (1 : Int32)) + ((p1 >>> ((1 : Int32) &&& 31)) &&& (1 : Int32))))])
  refine Go.st (fun _ h => XT.ishr X0.here hx rfl (hb hby d_method_3_code_11) rfl h) ?_
  show Go p e below _ s₁ (mkF m 12 #[.val (.int p1)] [(.int (p1 >>> ((2 : Int32) &&& 31))), (.int ((p1 &&& (1 : Int32)) + ((p1 >>> ((1 : Int32) &&& 31)) &&& (1 : Int32))))])
  refine Go.st (fun _ h => XT.iconstV X0.here hx rfl (1 : Int32) (hb hby d_method_3_code_12) (by decide) h) ?_
  show Go p e below _ s₁ (mkF m 13 #[.val (.int p1)] [(.int (1 : Int32)), (.int (p1 >>> ((2 : Int32) &&& 31))), (.int ((p1 &&& (1 : Int32)) + ((p1 >>> ((1 : Int32) &&& 31)) &&& (1 : Int32))))])
  refine Go.st (fun _ h => XS.iand X0.here hx rfl (hb hby d_method_3_code_13) rfl h) ?_
  show Go p e below _ s₁ (mkF m 14 #[.val (.int p1)] [(.int ((p1 >>> ((2 : Int32) &&& 31)) &&& (1 : Int32))), (.int ((p1 &&& (1 : Int32)) + ((p1 >>> ((1 : Int32) &&& 31)) &&& (1 : Int32))))])
  refine Go.st (fun _ h => XS.iadd X0.here hx rfl (hb hby d_method_3_code_14) rfl h) ?_
  show Go p e below _ s₁ (mkF m 15 #[.val (.int p1)] [(.int (((p1 &&& (1 : Int32)) + ((p1 >>> ((1 : Int32) &&& 31)) &&& (1 : Int32))) + ((p1 >>> ((2 : Int32) &&& 31)) &&& (1 : Int32))))])
  refine Go.st (fun _ h => XS.iloadN X0.here hx rfl (hb hby d_method_3_code_15) rfl h) ?_
  show Go p e below _ s₁ (mkF m 16 #[.val (.int p1)] [(.int p1), (.int (((p1 &&& (1 : Int32)) + ((p1 >>> ((1 : Int32) &&& 31)) &&& (1 : Int32))) + ((p1 >>> ((2 : Int32) &&& 31)) &&& (1 : Int32))))])
  refine Go.st (fun _ h => XT.iconstV X0.here hx rfl (3 : Int32) (hb hby d_method_3_code_16) (by decide) h) ?_
  show Go p e below _ s₁ (mkF m 17 #[.val (.int p1)] [(.int (3 : Int32)), (.int p1), (.int (((p1 &&& (1 : Int32)) + ((p1 >>> ((1 : Int32) &&& 31)) &&& (1 : Int32))) + ((p1 >>> ((2 : Int32) &&& 31)) &&& (1 : Int32))))])
  refine Go.st (fun _ h => XT.ishr X0.here hx rfl (hb hby d_method_3_code_17) rfl h) ?_
  show Go p e below _ s₁ (mkF m 18 #[.val (.int p1)] [(.int (p1 >>> ((3 : Int32) &&& 31))), (.int (((p1 &&& (1 : Int32)) + ((p1 >>> ((1 : Int32) &&& 31)) &&& (1 : Int32))) + ((p1 >>> ((2 : Int32) &&& 31)) &&& (1 : Int32))))])
  refine Go.st (fun _ h => XT.iconstV X0.here hx rfl (1 : Int32) (hb hby d_method_3_code_18) (by decide) h) ?_
  show Go p e below _ s₁ (mkF m 19 #[.val (.int p1)] [(.int (1 : Int32)), (.int (p1 >>> ((3 : Int32) &&& 31))), (.int (((p1 &&& (1 : Int32)) + ((p1 >>> ((1 : Int32) &&& 31)) &&& (1 : Int32))) + ((p1 >>> ((2 : Int32) &&& 31)) &&& (1 : Int32))))])
  refine Go.st (fun _ h => XS.iand X0.here hx rfl (hb hby d_method_3_code_19) rfl h) ?_
  show Go p e below _ s₁ (mkF m 20 #[.val (.int p1)] [(.int ((p1 >>> ((3 : Int32) &&& 31)) &&& (1 : Int32))), (.int (((p1 &&& (1 : Int32)) + ((p1 >>> ((1 : Int32) &&& 31)) &&& (1 : Int32))) + ((p1 >>> ((2 : Int32) &&& 31)) &&& (1 : Int32))))])
  refine Go.st (fun _ h => XS.iadd X0.here hx rfl (hb hby d_method_3_code_20) rfl h) ?_
  show Go p e below _ s₁ (mkF m 21 #[.val (.int p1)] [(.int ((((p1 &&& (1 : Int32)) + ((p1 >>> ((1 : Int32) &&& 31)) &&& (1 : Int32))) + ((p1 >>> ((2 : Int32) &&& 31)) &&& (1 : Int32))) + ((p1 >>> ((3 : Int32) &&& 31)) &&& (1 : Int32))))])
  refine Go.st (fun _ h => XS.iloadN X0.here hx rfl (hb hby d_method_3_code_21) rfl h) ?_
  show Go p e below _ s₁ (mkF m 22 #[.val (.int p1)] [(.int p1), (.int ((((p1 &&& (1 : Int32)) + ((p1 >>> ((1 : Int32) &&& 31)) &&& (1 : Int32))) + ((p1 >>> ((2 : Int32) &&& 31)) &&& (1 : Int32))) + ((p1 >>> ((3 : Int32) &&& 31)) &&& (1 : Int32))))])
  refine Go.st (fun _ h => XT.iconstV X0.here hx rfl (4 : Int32) (hb hby d_method_3_code_22) (by decide) h) ?_
  show Go p e below _ s₁ (mkF m 23 #[.val (.int p1)] [(.int (4 : Int32)), (.int p1), (.int ((((p1 &&& (1 : Int32)) + ((p1 >>> ((1 : Int32) &&& 31)) &&& (1 : Int32))) + ((p1 >>> ((2 : Int32) &&& 31)) &&& (1 : Int32))) + ((p1 >>> ((3 : Int32) &&& 31)) &&& (1 : Int32))))])
  refine Go.st (fun _ h => XT.ishr X0.here hx rfl (hb hby d_method_3_code_23) rfl h) ?_
  show Go p e below _ s₁ (mkF m 24 #[.val (.int p1)] [(.int (p1 >>> ((4 : Int32) &&& 31))), (.int ((((p1 &&& (1 : Int32)) + ((p1 >>> ((1 : Int32) &&& 31)) &&& (1 : Int32))) + ((p1 >>> ((2 : Int32) &&& 31)) &&& (1 : Int32))) + ((p1 >>> ((3 : Int32) &&& 31)) &&& (1 : Int32))))])
  refine Go.st (fun _ h => XT.iconstV X0.here hx rfl (1 : Int32) (hb hby d_method_3_code_24) (by decide) h) ?_
  show Go p e below _ s₁ (mkF m 25 #[.val (.int p1)] [(.int (1 : Int32)), (.int (p1 >>> ((4 : Int32) &&& 31))), (.int ((((p1 &&& (1 : Int32)) + ((p1 >>> ((1 : Int32) &&& 31)) &&& (1 : Int32))) + ((p1 >>> ((2 : Int32) &&& 31)) &&& (1 : Int32))) + ((p1 >>> ((3 : Int32) &&& 31)) &&& (1 : Int32))))])
  refine Go.st (fun _ h => XS.iand X0.here hx rfl (hb hby d_method_3_code_25) rfl h) ?_
  show Go p e below _ s₁ (mkF m 26 #[.val (.int p1)] [(.int ((p1 >>> ((4 : Int32) &&& 31)) &&& (1 : Int32))), (.int ((((p1 &&& (1 : Int32)) + ((p1 >>> ((1 : Int32) &&& 31)) &&& (1 : Int32))) + ((p1 >>> ((2 : Int32) &&& 31)) &&& (1 : Int32))) + ((p1 >>> ((3 : Int32) &&& 31)) &&& (1 : Int32))))])
  refine Go.st (fun _ h => XS.iadd X0.here hx rfl (hb hby d_method_3_code_26) rfl h) ?_
  show Go p e below _ s₁ (mkF m 27 #[.val (.int p1)] [(.int (((((p1 &&& (1 : Int32)) + ((p1 >>> ((1 : Int32) &&& 31)) &&& (1 : Int32))) + ((p1 >>> ((2 : Int32) &&& 31)) &&& (1 : Int32))) + ((p1 >>> ((3 : Int32) &&& 31)) &&& (1 : Int32))) + ((p1 >>> ((4 : Int32) &&& 31)) &&& (1 : Int32))))])
  refine Go.st (fun _ h => XS.iloadN X0.here hx rfl (hb hby d_method_3_code_27) rfl h) ?_
  show Go p e below _ s₁ (mkF m 28 #[.val (.int p1)] [(.int p1), (.int (((((p1 &&& (1 : Int32)) + ((p1 >>> ((1 : Int32) &&& 31)) &&& (1 : Int32))) + ((p1 >>> ((2 : Int32) &&& 31)) &&& (1 : Int32))) + ((p1 >>> ((3 : Int32) &&& 31)) &&& (1 : Int32))) + ((p1 >>> ((4 : Int32) &&& 31)) &&& (1 : Int32))))])
  refine Go.st (fun _ h => XT.iconstV X0.here hx rfl (5 : Int32) (hb hby d_method_3_code_28) (by decide) h) ?_
  show Go p e below _ s₁ (mkF m 29 #[.val (.int p1)] [(.int (5 : Int32)), (.int p1), (.int (((((p1 &&& (1 : Int32)) + ((p1 >>> ((1 : Int32) &&& 31)) &&& (1 : Int32))) + ((p1 >>> ((2 : Int32) &&& 31)) &&& (1 : Int32))) + ((p1 >>> ((3 : Int32) &&& 31)) &&& (1 : Int32))) + ((p1 >>> ((4 : Int32) &&& 31)) &&& (1 : Int32))))])
  refine Go.st (fun _ h => XT.ishr X0.here hx rfl (hb hby d_method_3_code_29) rfl h) ?_
  show Go p e below _ s₁ (mkF m 30 #[.val (.int p1)] [(.int (p1 >>> ((5 : Int32) &&& 31))), (.int (((((p1 &&& (1 : Int32)) + ((p1 >>> ((1 : Int32) &&& 31)) &&& (1 : Int32))) + ((p1 >>> ((2 : Int32) &&& 31)) &&& (1 : Int32))) + ((p1 >>> ((3 : Int32) &&& 31)) &&& (1 : Int32))) + ((p1 >>> ((4 : Int32) &&& 31)) &&& (1 : Int32))))])
  refine Go.st (fun _ h => XT.iconstV X0.here hx rfl (1 : Int32) (hb hby d_method_3_code_30) (by decide) h) ?_
  show Go p e below _ s₁ (mkF m 31 #[.val (.int p1)] [(.int (1 : Int32)), (.int (p1 >>> ((5 : Int32) &&& 31))), (.int (((((p1 &&& (1 : Int32)) + ((p1 >>> ((1 : Int32) &&& 31)) &&& (1 : Int32))) + ((p1 >>> ((2 : Int32) &&& 31)) &&& (1 : Int32))) + ((p1 >>> ((3 : Int32) &&& 31)) &&& (1 : Int32))) + ((p1 >>> ((4 : Int32) &&& 31)) &&& (1 : Int32))))])
  refine Go.st (fun _ h => XS.iand X0.here hx rfl (hb hby d_method_3_code_31) rfl h) ?_
  show Go p e below _ s₁ (mkF m 32 #[.val (.int p1)] [(.int ((p1 >>> ((5 : Int32) &&& 31)) &&& (1 : Int32))), (.int (((((p1 &&& (1 : Int32)) + ((p1 >>> ((1 : Int32) &&& 31)) &&& (1 : Int32))) + ((p1 >>> ((2 : Int32) &&& 31)) &&& (1 : Int32))) + ((p1 >>> ((3 : Int32) &&& 31)) &&& (1 : Int32))) + ((p1 >>> ((4 : Int32) &&& 31)) &&& (1 : Int32))))])
  refine Go.st (fun _ h => XS.iadd X0.here hx rfl (hb hby d_method_3_code_32) rfl h) ?_
  show Go p e below _ s₁ (mkF m 33 #[.val (.int p1)] [(.int ((((((p1 &&& (1 : Int32)) + ((p1 >>> ((1 : Int32) &&& 31)) &&& (1 : Int32))) + ((p1 >>> ((2 : Int32) &&& 31)) &&& (1 : Int32))) + ((p1 >>> ((3 : Int32) &&& 31)) &&& (1 : Int32))) + ((p1 >>> ((4 : Int32) &&& 31)) &&& (1 : Int32))) + ((p1 >>> ((5 : Int32) &&& 31)) &&& (1 : Int32))))])
  refine Go.st (fun _ h => XS.iloadN X0.here hx rfl (hb hby d_method_3_code_33) rfl h) ?_
  show Go p e below _ s₁ (mkF m 34 #[.val (.int p1)] [(.int p1), (.int ((((((p1 &&& (1 : Int32)) + ((p1 >>> ((1 : Int32) &&& 31)) &&& (1 : Int32))) + ((p1 >>> ((2 : Int32) &&& 31)) &&& (1 : Int32))) + ((p1 >>> ((3 : Int32) &&& 31)) &&& (1 : Int32))) + ((p1 >>> ((4 : Int32) &&& 31)) &&& (1 : Int32))) + ((p1 >>> ((5 : Int32) &&& 31)) &&& (1 : Int32))))])
  refine Go.st (fun _ h => XT.bipushV X0.here hx rfl (6 : Int32) (hb hby d_method_3_code_34) (by decide) h) ?_
  show Go p e below _ s₁ (mkF m 36 #[.val (.int p1)] [(.int (6 : Int32)), (.int p1), (.int ((((((p1 &&& (1 : Int32)) + ((p1 >>> ((1 : Int32) &&& 31)) &&& (1 : Int32))) + ((p1 >>> ((2 : Int32) &&& 31)) &&& (1 : Int32))) + ((p1 >>> ((3 : Int32) &&& 31)) &&& (1 : Int32))) + ((p1 >>> ((4 : Int32) &&& 31)) &&& (1 : Int32))) + ((p1 >>> ((5 : Int32) &&& 31)) &&& (1 : Int32))))])
  refine Go.st (fun _ h => XT.ishr X0.here hx rfl (hb hby d_method_3_code_36) rfl h) ?_
  show Go p e below _ s₁ (mkF m 37 #[.val (.int p1)] [(.int (p1 >>> ((6 : Int32) &&& 31))), (.int ((((((p1 &&& (1 : Int32)) + ((p1 >>> ((1 : Int32) &&& 31)) &&& (1 : Int32))) + ((p1 >>> ((2 : Int32) &&& 31)) &&& (1 : Int32))) + ((p1 >>> ((3 : Int32) &&& 31)) &&& (1 : Int32))) + ((p1 >>> ((4 : Int32) &&& 31)) &&& (1 : Int32))) + ((p1 >>> ((5 : Int32) &&& 31)) &&& (1 : Int32))))])
  refine Go.st (fun _ h => XT.iconstV X0.here hx rfl (1 : Int32) (hb hby d_method_3_code_37) (by decide) h) ?_
  show Go p e below _ s₁ (mkF m 38 #[.val (.int p1)] [(.int (1 : Int32)), (.int (p1 >>> ((6 : Int32) &&& 31))), (.int ((((((p1 &&& (1 : Int32)) + ((p1 >>> ((1 : Int32) &&& 31)) &&& (1 : Int32))) + ((p1 >>> ((2 : Int32) &&& 31)) &&& (1 : Int32))) + ((p1 >>> ((3 : Int32) &&& 31)) &&& (1 : Int32))) + ((p1 >>> ((4 : Int32) &&& 31)) &&& (1 : Int32))) + ((p1 >>> ((5 : Int32) &&& 31)) &&& (1 : Int32))))])
  refine Go.st (fun _ h => XS.iand X0.here hx rfl (hb hby d_method_3_code_38) rfl h) ?_
  show Go p e below _ s₁ (mkF m 39 #[.val (.int p1)] [(.int ((p1 >>> ((6 : Int32) &&& 31)) &&& (1 : Int32))), (.int ((((((p1 &&& (1 : Int32)) + ((p1 >>> ((1 : Int32) &&& 31)) &&& (1 : Int32))) + ((p1 >>> ((2 : Int32) &&& 31)) &&& (1 : Int32))) + ((p1 >>> ((3 : Int32) &&& 31)) &&& (1 : Int32))) + ((p1 >>> ((4 : Int32) &&& 31)) &&& (1 : Int32))) + ((p1 >>> ((5 : Int32) &&& 31)) &&& (1 : Int32))))])
  refine Go.st (fun _ h => XS.iadd X0.here hx rfl (hb hby d_method_3_code_39) rfl h) ?_
  show Go p e below _ s₁ (mkF m 40 #[.val (.int p1)] [(.int (((((((p1 &&& (1 : Int32)) + ((p1 >>> ((1 : Int32) &&& 31)) &&& (1 : Int32))) + ((p1 >>> ((2 : Int32) &&& 31)) &&& (1 : Int32))) + ((p1 >>> ((3 : Int32) &&& 31)) &&& (1 : Int32))) + ((p1 >>> ((4 : Int32) &&& 31)) &&& (1 : Int32))) + ((p1 >>> ((5 : Int32) &&& 31)) &&& (1 : Int32))) + ((p1 >>> ((6 : Int32) &&& 31)) &&& (1 : Int32))))])
  refine Go.st (fun _ h => XS.iloadN X0.here hx rfl (hb hby d_method_3_code_40) rfl h) ?_
  show Go p e below _ s₁ (mkF m 41 #[.val (.int p1)] [(.int p1), (.int (((((((p1 &&& (1 : Int32)) + ((p1 >>> ((1 : Int32) &&& 31)) &&& (1 : Int32))) + ((p1 >>> ((2 : Int32) &&& 31)) &&& (1 : Int32))) + ((p1 >>> ((3 : Int32) &&& 31)) &&& (1 : Int32))) + ((p1 >>> ((4 : Int32) &&& 31)) &&& (1 : Int32))) + ((p1 >>> ((5 : Int32) &&& 31)) &&& (1 : Int32))) + ((p1 >>> ((6 : Int32) &&& 31)) &&& (1 : Int32))))])
  refine Go.st (fun _ h => XT.bipushV X0.here hx rfl (7 : Int32) (hb hby d_method_3_code_41) (by decide) h) ?_
  show Go p e below _ s₁ (mkF m 43 #[.val (.int p1)] [(.int (7 : Int32)), (.int p1), (.int (((((((p1 &&& (1 : Int32)) + ((p1 >>> ((1 : Int32) &&& 31)) &&& (1 : Int32))) + ((p1 >>> ((2 : Int32) &&& 31)) &&& (1 : Int32))) + ((p1 >>> ((3 : Int32) &&& 31)) &&& (1 : Int32))) + ((p1 >>> ((4 : Int32) &&& 31)) &&& (1 : Int32))) + ((p1 >>> ((5 : Int32) &&& 31)) &&& (1 : Int32))) + ((p1 >>> ((6 : Int32) &&& 31)) &&& (1 : Int32))))])
  refine Go.st (fun _ h => XT.ishr X0.here hx rfl (hb hby d_method_3_code_43) rfl h) ?_
  show Go p e below _ s₁ (mkF m 44 #[.val (.int p1)] [(.int (p1 >>> ((7 : Int32) &&& 31))), (.int (((((((p1 &&& (1 : Int32)) + ((p1 >>> ((1 : Int32) &&& 31)) &&& (1 : Int32))) + ((p1 >>> ((2 : Int32) &&& 31)) &&& (1 : Int32))) + ((p1 >>> ((3 : Int32) &&& 31)) &&& (1 : Int32))) + ((p1 >>> ((4 : Int32) &&& 31)) &&& (1 : Int32))) + ((p1 >>> ((5 : Int32) &&& 31)) &&& (1 : Int32))) + ((p1 >>> ((6 : Int32) &&& 31)) &&& (1 : Int32))))])
  refine Go.st (fun _ h => XT.iconstV X0.here hx rfl (1 : Int32) (hb hby d_method_3_code_44) (by decide) h) ?_
  show Go p e below _ s₁ (mkF m 45 #[.val (.int p1)] [(.int (1 : Int32)), (.int (p1 >>> ((7 : Int32) &&& 31))), (.int (((((((p1 &&& (1 : Int32)) + ((p1 >>> ((1 : Int32) &&& 31)) &&& (1 : Int32))) + ((p1 >>> ((2 : Int32) &&& 31)) &&& (1 : Int32))) + ((p1 >>> ((3 : Int32) &&& 31)) &&& (1 : Int32))) + ((p1 >>> ((4 : Int32) &&& 31)) &&& (1 : Int32))) + ((p1 >>> ((5 : Int32) &&& 31)) &&& (1 : Int32))) + ((p1 >>> ((6 : Int32) &&& 31)) &&& (1 : Int32))))])
  refine Go.st (fun _ h => XS.iand X0.here hx rfl (hb hby d_method_3_code_45) rfl h) ?_
  show Go p e below _ s₁ (mkF m 46 #[.val (.int p1)] [(.int ((p1 >>> ((7 : Int32) &&& 31)) &&& (1 : Int32))), (.int (((((((p1 &&& (1 : Int32)) + ((p1 >>> ((1 : Int32) &&& 31)) &&& (1 : Int32))) + ((p1 >>> ((2 : Int32) &&& 31)) &&& (1 : Int32))) + ((p1 >>> ((3 : Int32) &&& 31)) &&& (1 : Int32))) + ((p1 >>> ((4 : Int32) &&& 31)) &&& (1 : Int32))) + ((p1 >>> ((5 : Int32) &&& 31)) &&& (1 : Int32))) + ((p1 >>> ((6 : Int32) &&& 31)) &&& (1 : Int32))))])
  refine Go.st (fun _ h => XS.iadd X0.here hx rfl (hb hby d_method_3_code_46) rfl h) ?_
  show Go p e below _ s₁ (mkF m 47 #[.val (.int p1)] [(.int ((((((((p1 &&& (1 : Int32)) + ((p1 >>> ((1 : Int32) &&& 31)) &&& (1 : Int32))) + ((p1 >>> ((2 : Int32) &&& 31)) &&& (1 : Int32))) + ((p1 >>> ((3 : Int32) &&& 31)) &&& (1 : Int32))) + ((p1 >>> ((4 : Int32) &&& 31)) &&& (1 : Int32))) + ((p1 >>> ((5 : Int32) &&& 31)) &&& (1 : Int32))) + ((p1 >>> ((6 : Int32) &&& 31)) &&& (1 : Int32))) + ((p1 >>> ((7 : Int32) &&& 31)) &&& (1 : Int32))))])
  refine Go.retI X0 hx hlk hret (hb hby d_method_3_code_47) (by decide) (by decide) ?_
  exact ⟨rfl, rfl, e0⟩
theorem ef_rmFill0 (x0 : Addr) (x1 : Int32) (x2 : Int32) (m : MethodId) : entryFrame m #[(.ref x0), (.int x1), (.int x2)] 4 = mkF m 0 #[.val (.ref x0), .val (.int x1), .val (.int x2), .unset] [] := by first | (simp [entryFrame, mkF, argsToLocals, Value.category]; done) | rfl
set_option maxRecDepth 65536 in
set_option maxHeartbeats 40000000 in
theorem rmFill0 (l : Launch) (Z : State) (a0 : Array Value) (hw : ∀ d ∈ tables_1, d.before a0 Z = true) (b1 : Addr) (kb : ClassId) (p3 : Int32) (h0 : Heap) (n0 : Nat) (Z0 : n0 ≤ h0.size) (B_1 : Arv Z h0 b1 kb .int (0 : Int32) [] (.int (0 : Int32))) (g_b1 : n0 ≤ b1) :
    Does l Z (⟨"com/example/bindwell/bindwell/collect/ListChangeMovesFromPinLaw", "fill", "([III)V"⟩ : MethodName) method_4_code 4 none [] ({ frames := 0, cells := 0, slots := 0, locals := 0 } : Room) #[(.ref b1), (.int (0 : Int32)), (.int p3)] h0 (fun v h L => v = none ∧ Fr n0 L ∧ Keep h0 h [b1] ∧ Arv Z h b1 kb .int (Int32.ofNat (own_cnt 0)) ((own_bits 0).map (own_pos p3)) (.int (0 : Int32))) := by
  refine Does.intro (plainFor_of_name pn_com_example_bindwell_bindwell_collect_ListChangeMovesFromPinLaw) (ef_rmFill0 b1 (0 : Int32) p3) ?_
  intro p e s m below meth c s₁ hx hby hml hown hnm hret hlk hZ e0 X0
  show Go p e below _ s₁ (mkF m 0 #[.val (.ref b1), .val (.int (0 : Int32)), .val (.int p3), .unset] [])
  have N0 := Fr.nil n0
  refine Go.st (fun _ h => XT.iconstV X0.here hx rfl (0 : Int32) (hb hby d_method_4_code_0) (by decide) h) ?_
  show Go p e below _ s₁ (mkF m 1 #[.val (.ref b1), .val (.int (0 : Int32)), .val (.int p3), .unset] [(.int (0 : Int32))])
  refine Go.st (fun _ h => XS.istoreN X0.here hx rfl (hb hby d_method_4_code_1) rfl (l' := #[.val (.ref b1), .val (.int (0 : Int32)), .val (.int p3), .val (.int (0 : Int32))]) rfl h) ?_
  show Go p e below _ s₁ (mkF m 2 #[.val (.ref b1), .val (.int (0 : Int32)), .val (.int p3), .val (.int (0 : Int32))] [])
  refine Go.st (fun _ h => XS.iloadN X0.here hx rfl (hb hby d_method_4_code_2) rfl h) ?_
  show Go p e below _ s₁ (mkF m 3 #[.val (.ref b1), .val (.int (0 : Int32)), .val (.int p3), .val (.int (0 : Int32))] [(.int (0 : Int32))])
  refine Go.st (fun _ h => XT.iconstV X0.here hx rfl (1 : Int32) (hb hby d_method_4_code_3) (by decide) h) ?_
  show Go p e below _ s₁ (mkF m 4 #[.val (.ref b1), .val (.int (0 : Int32)), .val (.int p3), .val (.int (0 : Int32))] [(.int (1 : Int32)), (.int (0 : Int32))])
  refine Go.st (fun _ h => XS.iand X0.here hx rfl (hb hby d_method_4_code_4) rfl h) ?_
  show Go p e below _ s₁ (mkF m 5 #[.val (.ref b1), .val (.int (0 : Int32)), .val (.int p3), .val (.int (0 : Int32))] [(.int ((0 : Int32) &&& (1 : Int32)))])
  refine Go.st (fun _ h => XS.ifYes X0.here hx rfl (pc0 := 5) (pc' := 15) rfl (hb hby d_method_4_code_5) rfl (by decide) (by decide) (by decide) h) ?_
  show Go p e below _ s₁ (mkF m 15 #[.val (.ref b1), .val (.int (0 : Int32)), .val (.int p3), .val (.int (0 : Int32))] [])
  refine Go.st (fun _ h => XS.iloadN X0.here hx rfl (hb hby d_method_4_code_15) rfl h) ?_
  show Go p e below _ s₁ (mkF m 16 #[.val (.ref b1), .val (.int (0 : Int32)), .val (.int p3), .val (.int (0 : Int32))] [(.int (0 : Int32))])
  refine Go.st (fun _ h => XT.iconstV X0.here hx rfl (2 : Int32) (hb hby d_method_4_code_16) (by decide) h) ?_
  show Go p e below _ s₁ (mkF m 17 #[.val (.ref b1), .val (.int (0 : Int32)), .val (.int p3), .val (.int (0 : Int32))] [(.int (2 : Int32)), (.int (0 : Int32))])
  refine Go.st (fun _ h => XS.iand X0.here hx rfl (hb hby d_method_4_code_17) rfl h) ?_
  show Go p e below _ s₁ (mkF m 18 #[.val (.ref b1), .val (.int (0 : Int32)), .val (.int p3), .val (.int (0 : Int32))] [(.int ((0 : Int32) &&& (2 : Int32)))])
  refine Go.st (fun _ h => XS.ifYes X0.here hx rfl (pc0 := 18) (pc' := 30) rfl (hb hby d_method_4_code_18) rfl (by decide) (by decide) (by decide) h) ?_
  show Go p e below _ s₁ (mkF m 30 #[.val (.ref b1), .val (.int (0 : Int32)), .val (.int p3), .val (.int (0 : Int32))] [])
  refine Go.st (fun _ h => XS.iloadN X0.here hx rfl (hb hby d_method_4_code_30) rfl h) ?_
  show Go p e below _ s₁ (mkF m 31 #[.val (.ref b1), .val (.int (0 : Int32)), .val (.int p3), .val (.int (0 : Int32))] [(.int (0 : Int32))])
  refine Go.st (fun _ h => XT.iconstV X0.here hx rfl (4 : Int32) (hb hby d_method_4_code_31) (by decide) h) ?_
  show Go p e below _ s₁ (mkF m 32 #[.val (.ref b1), .val (.int (0 : Int32)), .val (.int p3), .val (.int (0 : Int32))] [(.int (4 : Int32)), (.int (0 : Int32))])
  refine Go.st (fun _ h => XS.iand X0.here hx rfl (hb hby d_method_4_code_32) rfl h) ?_
  show Go p e below _ s₁ (mkF m 33 #[.val (.ref b1), .val (.int (0 : Int32)), .val (.int p3), .val (.int (0 : Int32))] [(.int ((0 : Int32) &&& (4 : Int32)))])
  refine Go.st (fun _ h => XS.ifYes X0.here hx rfl (pc0 := 33) (pc' := 45) rfl (hb hby d_method_4_code_33) rfl (by decide) (by decide) (by decide) h) ?_
  show Go p e below _ s₁ (mkF m 45 #[.val (.ref b1), .val (.int (0 : Int32)), .val (.int p3), .val (.int (0 : Int32))] [])
  refine Go.st (fun _ h => XS.iloadN X0.here hx rfl (hb hby d_method_4_code_45) rfl h) ?_
  show Go p e below _ s₁ (mkF m 46 #[.val (.ref b1), .val (.int (0 : Int32)), .val (.int p3), .val (.int (0 : Int32))] [(.int (0 : Int32))])
  refine Go.st (fun _ h => XT.bipushV X0.here hx rfl (8 : Int32) (hb hby d_method_4_code_46) (by decide) h) ?_
  show Go p e below _ s₁ (mkF m 48 #[.val (.ref b1), .val (.int (0 : Int32)), .val (.int p3), .val (.int (0 : Int32))] [(.int (8 : Int32)), (.int (0 : Int32))])
  refine Go.st (fun _ h => XS.iand X0.here hx rfl (hb hby d_method_4_code_48) rfl h) ?_
  show Go p e below _ s₁ (mkF m 49 #[.val (.ref b1), .val (.int (0 : Int32)), .val (.int p3), .val (.int (0 : Int32))] [(.int ((0 : Int32) &&& (8 : Int32)))])
  refine Go.st (fun _ h => XS.ifYes X0.here hx rfl (pc0 := 49) (pc' := 61) rfl (hb hby d_method_4_code_49) rfl (by decide) (by decide) (by decide) h) ?_
  show Go p e below _ s₁ (mkF m 61 #[.val (.ref b1), .val (.int (0 : Int32)), .val (.int p3), .val (.int (0 : Int32))] [])
  refine Go.retV X0 hx hlk hret (hb hby d_method_4_code_61) (by decide) (by decide) ?_
  rw [e0]
  refine ⟨rfl, N0, (Keep.refl _ [b1]), ?_⟩
  show Arv Z _ b1 kb .int (0 : Int32) [] (.int (0 : Int32))
  exact B_1
theorem ef_rmFill1 (x0 : Addr) (x1 : Int32) (x2 : Int32) (m : MethodId) : entryFrame m #[(.ref x0), (.int x1), (.int x2)] 4 = mkF m 0 #[.val (.ref x0), .val (.int x1), .val (.int x2), .unset] [] := by first | (simp [entryFrame, mkF, argsToLocals, Value.category]; done) | rfl
set_option maxRecDepth 65536 in
set_option maxHeartbeats 40000000 in
theorem rmFill1 (l : Launch) (Z : State) (a0 : Array Value) (hw : ∀ d ∈ tables_1, d.before a0 Z = true) (b1 : Addr) (kb : ClassId) (p3 : Int32) (h0 : Heap) (n0 : Nat) (Z0 : n0 ≤ h0.size) (B_1 : Arv Z h0 b1 kb .int (1 : Int32) [(.int (0 : Int32))] (.int (0 : Int32))) (g_b1 : n0 ≤ b1) :
    Does l Z (⟨"com/example/bindwell/bindwell/collect/ListChangeMovesFromPinLaw", "fill", "([III)V"⟩ : MethodName) method_4_code 4 none [] ({ frames := 0, cells := 0, slots := 0, locals := 0 } : Room) #[(.ref b1), (.int (1 : Int32)), (.int p3)] h0 (fun v h L => v = none ∧ Fr n0 L ∧ Keep h0 h [b1] ∧ Arv Z h b1 kb .int (Int32.ofNat (own_cnt 1)) ((own_bits 1).map (own_pos p3)) (.int (0 : Int32))) := by
  refine Does.intro (plainFor_of_name pn_com_example_bindwell_bindwell_collect_ListChangeMovesFromPinLaw) (ef_rmFill1 b1 (1 : Int32) p3) ?_
  intro p e s m below meth c s₁ hx hby hml hown hnm hret hlk hZ e0 X0
  show Go p e below _ s₁ (mkF m 0 #[.val (.ref b1), .val (.int (1 : Int32)), .val (.int p3), .unset] [])
  have N0 := Fr.nil n0
  refine Go.st (fun _ h => XT.iconstV X0.here hx rfl (0 : Int32) (hb hby d_method_4_code_0) (by decide) h) ?_
  show Go p e below _ s₁ (mkF m 1 #[.val (.ref b1), .val (.int (1 : Int32)), .val (.int p3), .unset] [(.int (0 : Int32))])
  refine Go.st (fun _ h => XS.istoreN X0.here hx rfl (hb hby d_method_4_code_1) rfl (l' := #[.val (.ref b1), .val (.int (1 : Int32)), .val (.int p3), .val (.int (0 : Int32))]) rfl h) ?_
  show Go p e below _ s₁ (mkF m 2 #[.val (.ref b1), .val (.int (1 : Int32)), .val (.int p3), .val (.int (0 : Int32))] [])
  refine Go.st (fun _ h => XS.iloadN X0.here hx rfl (hb hby d_method_4_code_2) rfl h) ?_
  show Go p e below _ s₁ (mkF m 3 #[.val (.ref b1), .val (.int (1 : Int32)), .val (.int p3), .val (.int (0 : Int32))] [(.int (1 : Int32))])
  refine Go.st (fun _ h => XT.iconstV X0.here hx rfl (1 : Int32) (hb hby d_method_4_code_3) (by decide) h) ?_
  show Go p e below _ s₁ (mkF m 4 #[.val (.ref b1), .val (.int (1 : Int32)), .val (.int p3), .val (.int (0 : Int32))] [(.int (1 : Int32)), (.int (1 : Int32))])
  refine Go.st (fun _ h => XS.iand X0.here hx rfl (hb hby d_method_4_code_4) rfl h) ?_
  show Go p e below _ s₁ (mkF m 5 #[.val (.ref b1), .val (.int (1 : Int32)), .val (.int p3), .val (.int (0 : Int32))] [(.int ((1 : Int32) &&& (1 : Int32)))])
  refine Go.st (fun _ h => XS.ifNo X0.here hx rfl (hb hby d_method_4_code_5) rfl (by decide) h) ?_
  show Go p e below _ s₁ (mkF m 8 #[.val (.ref b1), .val (.int (1 : Int32)), .val (.int p3), .val (.int (0 : Int32))] [])
  refine Go.st (fun _ h => XS.aloadN X0.here hx rfl (hb hby d_method_4_code_8) rfl rfl h) ?_
  show Go p e below _ s₁ (mkF m 9 #[.val (.ref b1), .val (.int (1 : Int32)), .val (.int p3), .val (.int (0 : Int32))] [(.ref b1)])
  refine Go.st (fun _ h => XS.iloadN X0.here hx rfl (hb hby d_method_4_code_9) rfl h) ?_
  show Go p e below _ s₁ (mkF m 10 #[.val (.ref b1), .val (.int (1 : Int32)), .val (.int p3), .val (.int (0 : Int32))] [(.int (0 : Int32)), (.ref b1)])
  refine Go.st (fun _ h => XS.iloadN X0.here hx rfl (hb hby d_method_4_code_10) rfl h) ?_
  show Go p e below _ s₁ (mkF m 11 #[.val (.ref b1), .val (.int (1 : Int32)), .val (.int p3), .val (.int (0 : Int32))] [(.int p3), (.int (0 : Int32)), (.ref b1)])
  obtain ⟨T1, h1, X1, e1, W1, V1, st1⟩ := own_stI X0 hx hZ e0 (j := (0 : Int32)) B_1 (by decide) (by decide) 0 (by decide) (by simp) (g := (mkF m 11 #[.val (.ref b1), .val (.int (1 : Int32)), .val (.int p3), .val (.int (0 : Int32))] [(.int p3), (.int (0 : Int32)), (.ref b1)])) rfl rfl (hb hby d_method_4_code_11)
  have N1 := Fr.snoc X1 N0 g_b1
  have K1 := (Keep.refl _ [b1]).wr W1 (Or.inl (List.mem_of_getElem? (i := 0) rfl))
  have V1' : Arv Z h1 b1 kb .int (1 : Int32) [(.int p3)] (.int (0 : Int32)) := V1
  refine Go.st st1 ?_
  show Go p e below _ T1 (mkF m 12 #[.val (.ref b1), .val (.int (1 : Int32)), .val (.int p3), .val (.int (0 : Int32))] [])
  refine Go.st (fun _ h => XT.iincV X1.here hx rfl (1 : Int32) (hb hby d_method_4_code_12) (by decide) rfl (l' := #[.val (.ref b1), .val (.int (1 : Int32)), .val (.int p3), .val (.int ((0 : Int32) + (1 : Int32)))]) rfl h) ?_
  show Go p e below _ T1 (mkF m 15 #[.val (.ref b1), .val (.int (1 : Int32)), .val (.int p3), .val (.int ((0 : Int32) + (1 : Int32)))] [])
  refine Go.st (fun _ h => XS.iloadN X1.here hx rfl (hb hby d_method_4_code_15) rfl h) ?_
  show Go p e below _ T1 (mkF m 16 #[.val (.ref b1), .val (.int (1 : Int32)), .val (.int p3), .val (.int ((0 : Int32) + (1 : Int32)))] [(.int (1 : Int32))])
  refine Go.st (fun _ h => XT.iconstV X1.here hx rfl (2 : Int32) (hb hby d_method_4_code_16) (by decide) h) ?_
  show Go p e below _ T1 (mkF m 17 #[.val (.ref b1), .val (.int (1 : Int32)), .val (.int p3), .val (.int ((0 : Int32) + (1 : Int32)))] [(.int (2 : Int32)), (.int (1 : Int32))])
  refine Go.st (fun _ h => XS.iand X1.here hx rfl (hb hby d_method_4_code_17) rfl h) ?_
  show Go p e below _ T1 (mkF m 18 #[.val (.ref b1), .val (.int (1 : Int32)), .val (.int p3), .val (.int ((0 : Int32) + (1 : Int32)))] [(.int ((1 : Int32) &&& (2 : Int32)))])
  refine Go.st (fun _ h => XS.ifYes X1.here hx rfl (pc0 := 18) (pc' := 30) rfl (hb hby d_method_4_code_18) rfl (by decide) (by decide) (by decide) h) ?_
  show Go p e below _ T1 (mkF m 30 #[.val (.ref b1), .val (.int (1 : Int32)), .val (.int p3), .val (.int ((0 : Int32) + (1 : Int32)))] [])
  refine Go.st (fun _ h => XS.iloadN X1.here hx rfl (hb hby d_method_4_code_30) rfl h) ?_
  show Go p e below _ T1 (mkF m 31 #[.val (.ref b1), .val (.int (1 : Int32)), .val (.int p3), .val (.int ((0 : Int32) + (1 : Int32)))] [(.int (1 : Int32))])
  refine Go.st (fun _ h => XT.iconstV X1.here hx rfl (4 : Int32) (hb hby d_method_4_code_31) (by decide) h) ?_
  show Go p e below _ T1 (mkF m 32 #[.val (.ref b1), .val (.int (1 : Int32)), .val (.int p3), .val (.int ((0 : Int32) + (1 : Int32)))] [(.int (4 : Int32)), (.int (1 : Int32))])
  refine Go.st (fun _ h => XS.iand X1.here hx rfl (hb hby d_method_4_code_32) rfl h) ?_
  show Go p e below _ T1 (mkF m 33 #[.val (.ref b1), .val (.int (1 : Int32)), .val (.int p3), .val (.int ((0 : Int32) + (1 : Int32)))] [(.int ((1 : Int32) &&& (4 : Int32)))])
  refine Go.st (fun _ h => XS.ifYes X1.here hx rfl (pc0 := 33) (pc' := 45) rfl (hb hby d_method_4_code_33) rfl (by decide) (by decide) (by decide) h) ?_
  show Go p e below _ T1 (mkF m 45 #[.val (.ref b1), .val (.int (1 : Int32)), .val (.int p3), .val (.int ((0 : Int32) + (1 : Int32)))] [])
  refine Go.st (fun _ h => XS.iloadN X1.here hx rfl (hb hby d_method_4_code_45) rfl h) ?_
  show Go p e below _ T1 (mkF m 46 #[.val (.ref b1), .val (.int (1 : Int32)), .val (.int p3), .val (.int ((0 : Int32) + (1 : Int32)))] [(.int (1 : Int32))])
  refine Go.st (fun _ h => XT.bipushV X1.here hx rfl (8 : Int32) (hb hby d_method_4_code_46) (by decide) h) ?_
  show Go p e below _ T1 (mkF m 48 #[.val (.ref b1), .val (.int (1 : Int32)), .val (.int p3), .val (.int ((0 : Int32) + (1 : Int32)))] [(.int (8 : Int32)), (.int (1 : Int32))])
  refine Go.st (fun _ h => XS.iand X1.here hx rfl (hb hby d_method_4_code_48) rfl h) ?_
  show Go p e below _ T1 (mkF m 49 #[.val (.ref b1), .val (.int (1 : Int32)), .val (.int p3), .val (.int ((0 : Int32) + (1 : Int32)))] [(.int ((1 : Int32) &&& (8 : Int32)))])
  refine Go.st (fun _ h => XS.ifYes X1.here hx rfl (pc0 := 49) (pc' := 61) rfl (hb hby d_method_4_code_49) rfl (by decide) (by decide) (by decide) h) ?_
  show Go p e below _ T1 (mkF m 61 #[.val (.ref b1), .val (.int (1 : Int32)), .val (.int p3), .val (.int ((0 : Int32) + (1 : Int32)))] [])
  refine Go.retV X1 hx hlk hret (hb hby d_method_4_code_61) (by decide) (by decide) ?_
  rw [e1]
  refine ⟨rfl, N1, K1, ?_⟩
  show Arv Z _ b1 kb .int (1 : Int32) [own_pos p3 0] (.int (0 : Int32))
  rw [own_pos0]
  exact V1'
theorem ef_rmFill2 (x0 : Addr) (x1 : Int32) (x2 : Int32) (m : MethodId) : entryFrame m #[(.ref x0), (.int x1), (.int x2)] 4 = mkF m 0 #[.val (.ref x0), .val (.int x1), .val (.int x2), .unset] [] := by first | (simp [entryFrame, mkF, argsToLocals, Value.category]; done) | rfl
set_option maxRecDepth 65536 in
set_option maxHeartbeats 40000000 in
theorem rmFill2 (l : Launch) (Z : State) (a0 : Array Value) (hw : ∀ d ∈ tables_1, d.before a0 Z = true) (b1 : Addr) (kb : ClassId) (p3 : Int32) (h0 : Heap) (n0 : Nat) (Z0 : n0 ≤ h0.size) (B_1 : Arv Z h0 b1 kb .int (1 : Int32) [(.int (0 : Int32))] (.int (0 : Int32))) (g_b1 : n0 ≤ b1) :
    Does l Z (⟨"com/example/bindwell/bindwell/collect/ListChangeMovesFromPinLaw", "fill", "([III)V"⟩ : MethodName) method_4_code 4 none [] ({ frames := 0, cells := 0, slots := 0, locals := 0 } : Room) #[(.ref b1), (.int (2 : Int32)), (.int p3)] h0 (fun v h L => v = none ∧ Fr n0 L ∧ Keep h0 h [b1] ∧ Arv Z h b1 kb .int (Int32.ofNat (own_cnt 2)) ((own_bits 2).map (own_pos p3)) (.int (0 : Int32))) := by
  refine Does.intro (plainFor_of_name pn_com_example_bindwell_bindwell_collect_ListChangeMovesFromPinLaw) (ef_rmFill2 b1 (2 : Int32) p3) ?_
  intro p e s m below meth c s₁ hx hby hml hown hnm hret hlk hZ e0 X0
  show Go p e below _ s₁ (mkF m 0 #[.val (.ref b1), .val (.int (2 : Int32)), .val (.int p3), .unset] [])
  have N0 := Fr.nil n0
  refine Go.st (fun _ h => XT.iconstV X0.here hx rfl (0 : Int32) (hb hby d_method_4_code_0) (by decide) h) ?_
  show Go p e below _ s₁ (mkF m 1 #[.val (.ref b1), .val (.int (2 : Int32)), .val (.int p3), .unset] [(.int (0 : Int32))])
  refine Go.st (fun _ h => XS.istoreN X0.here hx rfl (hb hby d_method_4_code_1) rfl (l' := #[.val (.ref b1), .val (.int (2 : Int32)), .val (.int p3), .val (.int (0 : Int32))]) rfl h) ?_
  show Go p e below _ s₁ (mkF m 2 #[.val (.ref b1), .val (.int (2 : Int32)), .val (.int p3), .val (.int (0 : Int32))] [])
  refine Go.st (fun _ h => XS.iloadN X0.here hx rfl (hb hby d_method_4_code_2) rfl h) ?_
  show Go p e below _ s₁ (mkF m 3 #[.val (.ref b1), .val (.int (2 : Int32)), .val (.int p3), .val (.int (0 : Int32))] [(.int (2 : Int32))])
  refine Go.st (fun _ h => XT.iconstV X0.here hx rfl (1 : Int32) (hb hby d_method_4_code_3) (by decide) h) ?_
  show Go p e below _ s₁ (mkF m 4 #[.val (.ref b1), .val (.int (2 : Int32)), .val (.int p3), .val (.int (0 : Int32))] [(.int (1 : Int32)), (.int (2 : Int32))])
  refine Go.st (fun _ h => XS.iand X0.here hx rfl (hb hby d_method_4_code_4) rfl h) ?_
  show Go p e below _ s₁ (mkF m 5 #[.val (.ref b1), .val (.int (2 : Int32)), .val (.int p3), .val (.int (0 : Int32))] [(.int ((2 : Int32) &&& (1 : Int32)))])
  refine Go.st (fun _ h => XS.ifYes X0.here hx rfl (pc0 := 5) (pc' := 15) rfl (hb hby d_method_4_code_5) rfl (by decide) (by decide) (by decide) h) ?_
  show Go p e below _ s₁ (mkF m 15 #[.val (.ref b1), .val (.int (2 : Int32)), .val (.int p3), .val (.int (0 : Int32))] [])
  refine Go.st (fun _ h => XS.iloadN X0.here hx rfl (hb hby d_method_4_code_15) rfl h) ?_
  show Go p e below _ s₁ (mkF m 16 #[.val (.ref b1), .val (.int (2 : Int32)), .val (.int p3), .val (.int (0 : Int32))] [(.int (2 : Int32))])
  refine Go.st (fun _ h => XT.iconstV X0.here hx rfl (2 : Int32) (hb hby d_method_4_code_16) (by decide) h) ?_
  show Go p e below _ s₁ (mkF m 17 #[.val (.ref b1), .val (.int (2 : Int32)), .val (.int p3), .val (.int (0 : Int32))] [(.int (2 : Int32)), (.int (2 : Int32))])
  refine Go.st (fun _ h => XS.iand X0.here hx rfl (hb hby d_method_4_code_17) rfl h) ?_
  show Go p e below _ s₁ (mkF m 18 #[.val (.ref b1), .val (.int (2 : Int32)), .val (.int p3), .val (.int (0 : Int32))] [(.int ((2 : Int32) &&& (2 : Int32)))])
  refine Go.st (fun _ h => XS.ifNo X0.here hx rfl (hb hby d_method_4_code_18) rfl (by decide) h) ?_
  show Go p e below _ s₁ (mkF m 21 #[.val (.ref b1), .val (.int (2 : Int32)), .val (.int p3), .val (.int (0 : Int32))] [])
  refine Go.st (fun _ h => XS.aloadN X0.here hx rfl (hb hby d_method_4_code_21) rfl rfl h) ?_
  show Go p e below _ s₁ (mkF m 22 #[.val (.ref b1), .val (.int (2 : Int32)), .val (.int p3), .val (.int (0 : Int32))] [(.ref b1)])
  refine Go.st (fun _ h => XS.iloadN X0.here hx rfl (hb hby d_method_4_code_22) rfl h) ?_
  show Go p e below _ s₁ (mkF m 23 #[.val (.ref b1), .val (.int (2 : Int32)), .val (.int p3), .val (.int (0 : Int32))] [(.int (0 : Int32)), (.ref b1)])
  refine Go.st (fun _ h => XS.iloadN X0.here hx rfl (hb hby d_method_4_code_23) rfl h) ?_
  show Go p e below _ s₁ (mkF m 24 #[.val (.ref b1), .val (.int (2 : Int32)), .val (.int p3), .val (.int (0 : Int32))] [(.int p3), (.int (0 : Int32)), (.ref b1)])
  refine Go.st (fun _ h => XT.iconstV X0.here hx rfl (1 : Int32) (hb hby d_method_4_code_24) (by decide) h) ?_
  show Go p e below _ s₁ (mkF m 25 #[.val (.ref b1), .val (.int (2 : Int32)), .val (.int p3), .val (.int (0 : Int32))] [(.int (1 : Int32)), (.int p3), (.int (0 : Int32)), (.ref b1)])
  refine Go.st (fun _ h => XS.iadd X0.here hx rfl (hb hby d_method_4_code_25) rfl h) ?_
  show Go p e below _ s₁ (mkF m 26 #[.val (.ref b1), .val (.int (2 : Int32)), .val (.int p3), .val (.int (0 : Int32))] [(.int (p3 + (1 : Int32))), (.int (0 : Int32)), (.ref b1)])
  obtain ⟨T1, h1, X1, e1, W1, V1, st1⟩ := own_stI X0 hx hZ e0 (j := (0 : Int32)) B_1 (by decide) (by decide) 0 (by decide) (by simp) (g := (mkF m 26 #[.val (.ref b1), .val (.int (2 : Int32)), .val (.int p3), .val (.int (0 : Int32))] [(.int (p3 + (1 : Int32))), (.int (0 : Int32)), (.ref b1)])) rfl rfl (hb hby d_method_4_code_26)
  have N1 := Fr.snoc X1 N0 g_b1
  have K1 := (Keep.refl _ [b1]).wr W1 (Or.inl (List.mem_of_getElem? (i := 0) rfl))
  have V1' : Arv Z h1 b1 kb .int (1 : Int32) [(.int (p3 + (1 : Int32)))] (.int (0 : Int32)) := V1
  refine Go.st st1 ?_
  show Go p e below _ T1 (mkF m 27 #[.val (.ref b1), .val (.int (2 : Int32)), .val (.int p3), .val (.int (0 : Int32))] [])
  refine Go.st (fun _ h => XT.iincV X1.here hx rfl (1 : Int32) (hb hby d_method_4_code_27) (by decide) rfl (l' := #[.val (.ref b1), .val (.int (2 : Int32)), .val (.int p3), .val (.int ((0 : Int32) + (1 : Int32)))]) rfl h) ?_
  show Go p e below _ T1 (mkF m 30 #[.val (.ref b1), .val (.int (2 : Int32)), .val (.int p3), .val (.int ((0 : Int32) + (1 : Int32)))] [])
  refine Go.st (fun _ h => XS.iloadN X1.here hx rfl (hb hby d_method_4_code_30) rfl h) ?_
  show Go p e below _ T1 (mkF m 31 #[.val (.ref b1), .val (.int (2 : Int32)), .val (.int p3), .val (.int ((0 : Int32) + (1 : Int32)))] [(.int (2 : Int32))])
  refine Go.st (fun _ h => XT.iconstV X1.here hx rfl (4 : Int32) (hb hby d_method_4_code_31) (by decide) h) ?_
  show Go p e below _ T1 (mkF m 32 #[.val (.ref b1), .val (.int (2 : Int32)), .val (.int p3), .val (.int ((0 : Int32) + (1 : Int32)))] [(.int (4 : Int32)), (.int (2 : Int32))])
  refine Go.st (fun _ h => XS.iand X1.here hx rfl (hb hby d_method_4_code_32) rfl h) ?_
  show Go p e below _ T1 (mkF m 33 #[.val (.ref b1), .val (.int (2 : Int32)), .val (.int p3), .val (.int ((0 : Int32) + (1 : Int32)))] [(.int ((2 : Int32) &&& (4 : Int32)))])
  refine Go.st (fun _ h => XS.ifYes X1.here hx rfl (pc0 := 33) (pc' := 45) rfl (hb hby d_method_4_code_33) rfl (by decide) (by decide) (by decide) h) ?_
  show Go p e below _ T1 (mkF m 45 #[.val (.ref b1), .val (.int (2 : Int32)), .val (.int p3), .val (.int ((0 : Int32) + (1 : Int32)))] [])
  refine Go.st (fun _ h => XS.iloadN X1.here hx rfl (hb hby d_method_4_code_45) rfl h) ?_
  show Go p e below _ T1 (mkF m 46 #[.val (.ref b1), .val (.int (2 : Int32)), .val (.int p3), .val (.int ((0 : Int32) + (1 : Int32)))] [(.int (2 : Int32))])
  refine Go.st (fun _ h => XT.bipushV X1.here hx rfl (8 : Int32) (hb hby d_method_4_code_46) (by decide) h) ?_
  show Go p e below _ T1 (mkF m 48 #[.val (.ref b1), .val (.int (2 : Int32)), .val (.int p3), .val (.int ((0 : Int32) + (1 : Int32)))] [(.int (8 : Int32)), (.int (2 : Int32))])
  refine Go.st (fun _ h => XS.iand X1.here hx rfl (hb hby d_method_4_code_48) rfl h) ?_
  show Go p e below _ T1 (mkF m 49 #[.val (.ref b1), .val (.int (2 : Int32)), .val (.int p3), .val (.int ((0 : Int32) + (1 : Int32)))] [(.int ((2 : Int32) &&& (8 : Int32)))])
  refine Go.st (fun _ h => XS.ifYes X1.here hx rfl (pc0 := 49) (pc' := 61) rfl (hb hby d_method_4_code_49) rfl (by decide) (by decide) (by decide) h) ?_
  show Go p e below _ T1 (mkF m 61 #[.val (.ref b1), .val (.int (2 : Int32)), .val (.int p3), .val (.int ((0 : Int32) + (1 : Int32)))] [])
  refine Go.retV X1 hx hlk hret (hb hby d_method_4_code_61) (by decide) (by decide) ?_
  rw [e1]
  refine ⟨rfl, N1, K1, ?_⟩
  show Arv Z _ b1 kb .int (1 : Int32) [own_pos p3 1] (.int (0 : Int32))
  exact V1'
theorem ef_rmFill3 (x0 : Addr) (x1 : Int32) (x2 : Int32) (m : MethodId) : entryFrame m #[(.ref x0), (.int x1), (.int x2)] 4 = mkF m 0 #[.val (.ref x0), .val (.int x1), .val (.int x2), .unset] [] := by first | (simp [entryFrame, mkF, argsToLocals, Value.category]; done) | rfl
set_option maxRecDepth 65536 in
set_option maxHeartbeats 40000000 in
theorem rmFill3 (l : Launch) (Z : State) (a0 : Array Value) (hw : ∀ d ∈ tables_1, d.before a0 Z = true) (b1 : Addr) (kb : ClassId) (p3 : Int32) (h0 : Heap) (n0 : Nat) (Z0 : n0 ≤ h0.size) (B_1 : Arv Z h0 b1 kb .int (2 : Int32) [(.int (0 : Int32)), (.int (0 : Int32))] (.int (0 : Int32))) (g_b1 : n0 ≤ b1) :
    Does l Z (⟨"com/example/bindwell/bindwell/collect/ListChangeMovesFromPinLaw", "fill", "([III)V"⟩ : MethodName) method_4_code 4 none [] ({ frames := 0, cells := 0, slots := 0, locals := 0 } : Room) #[(.ref b1), (.int (3 : Int32)), (.int p3)] h0 (fun v h L => v = none ∧ Fr n0 L ∧ Keep h0 h [b1] ∧ Arv Z h b1 kb .int (Int32.ofNat (own_cnt 3)) ((own_bits 3).map (own_pos p3)) (.int (0 : Int32))) := by
  refine Does.intro (plainFor_of_name pn_com_example_bindwell_bindwell_collect_ListChangeMovesFromPinLaw) (ef_rmFill3 b1 (3 : Int32) p3) ?_
  intro p e s m below meth c s₁ hx hby hml hown hnm hret hlk hZ e0 X0
  show Go p e below _ s₁ (mkF m 0 #[.val (.ref b1), .val (.int (3 : Int32)), .val (.int p3), .unset] [])
  have N0 := Fr.nil n0
  refine Go.st (fun _ h => XT.iconstV X0.here hx rfl (0 : Int32) (hb hby d_method_4_code_0) (by decide) h) ?_
  show Go p e below _ s₁ (mkF m 1 #[.val (.ref b1), .val (.int (3 : Int32)), .val (.int p3), .unset] [(.int (0 : Int32))])
  refine Go.st (fun _ h => XS.istoreN X0.here hx rfl (hb hby d_method_4_code_1) rfl (l' := #[.val (.ref b1), .val (.int (3 : Int32)), .val (.int p3), .val (.int (0 : Int32))]) rfl h) ?_
  show Go p e below _ s₁ (mkF m 2 #[.val (.ref b1), .val (.int (3 : Int32)), .val (.int p3), .val (.int (0 : Int32))] [])
  refine Go.st (fun _ h => XS.iloadN X0.here hx rfl (hb hby d_method_4_code_2) rfl h) ?_
  show Go p e below _ s₁ (mkF m 3 #[.val (.ref b1), .val (.int (3 : Int32)), .val (.int p3), .val (.int (0 : Int32))] [(.int (3 : Int32))])
  refine Go.st (fun _ h => XT.iconstV X0.here hx rfl (1 : Int32) (hb hby d_method_4_code_3) (by decide) h) ?_
  show Go p e below _ s₁ (mkF m 4 #[.val (.ref b1), .val (.int (3 : Int32)), .val (.int p3), .val (.int (0 : Int32))] [(.int (1 : Int32)), (.int (3 : Int32))])
  refine Go.st (fun _ h => XS.iand X0.here hx rfl (hb hby d_method_4_code_4) rfl h) ?_
  show Go p e below _ s₁ (mkF m 5 #[.val (.ref b1), .val (.int (3 : Int32)), .val (.int p3), .val (.int (0 : Int32))] [(.int ((3 : Int32) &&& (1 : Int32)))])
  refine Go.st (fun _ h => XS.ifNo X0.here hx rfl (hb hby d_method_4_code_5) rfl (by decide) h) ?_
  show Go p e below _ s₁ (mkF m 8 #[.val (.ref b1), .val (.int (3 : Int32)), .val (.int p3), .val (.int (0 : Int32))] [])
  refine Go.st (fun _ h => XS.aloadN X0.here hx rfl (hb hby d_method_4_code_8) rfl rfl h) ?_
  show Go p e below _ s₁ (mkF m 9 #[.val (.ref b1), .val (.int (3 : Int32)), .val (.int p3), .val (.int (0 : Int32))] [(.ref b1)])
  refine Go.st (fun _ h => XS.iloadN X0.here hx rfl (hb hby d_method_4_code_9) rfl h) ?_
  show Go p e below _ s₁ (mkF m 10 #[.val (.ref b1), .val (.int (3 : Int32)), .val (.int p3), .val (.int (0 : Int32))] [(.int (0 : Int32)), (.ref b1)])
  refine Go.st (fun _ h => XS.iloadN X0.here hx rfl (hb hby d_method_4_code_10) rfl h) ?_
  show Go p e below _ s₁ (mkF m 11 #[.val (.ref b1), .val (.int (3 : Int32)), .val (.int p3), .val (.int (0 : Int32))] [(.int p3), (.int (0 : Int32)), (.ref b1)])
  obtain ⟨T1, h1, X1, e1, W1, V1, st1⟩ := own_stI X0 hx hZ e0 (j := (0 : Int32)) B_1 (by decide) (by decide) 0 (by decide) (by simp) (g := (mkF m 11 #[.val (.ref b1), .val (.int (3 : Int32)), .val (.int p3), .val (.int (0 : Int32))] [(.int p3), (.int (0 : Int32)), (.ref b1)])) rfl rfl (hb hby d_method_4_code_11)
  have N1 := Fr.snoc X1 N0 g_b1
  have K1 := (Keep.refl _ [b1]).wr W1 (Or.inl (List.mem_of_getElem? (i := 0) rfl))
  have V1' : Arv Z h1 b1 kb .int (2 : Int32) [(.int p3), (.int (0 : Int32))] (.int (0 : Int32)) := V1
  refine Go.st st1 ?_
  show Go p e below _ T1 (mkF m 12 #[.val (.ref b1), .val (.int (3 : Int32)), .val (.int p3), .val (.int (0 : Int32))] [])
  refine Go.st (fun _ h => XT.iincV X1.here hx rfl (1 : Int32) (hb hby d_method_4_code_12) (by decide) rfl (l' := #[.val (.ref b1), .val (.int (3 : Int32)), .val (.int p3), .val (.int ((0 : Int32) + (1 : Int32)))]) rfl h) ?_
  show Go p e below _ T1 (mkF m 15 #[.val (.ref b1), .val (.int (3 : Int32)), .val (.int p3), .val (.int ((0 : Int32) + (1 : Int32)))] [])
  refine Go.st (fun _ h => XS.iloadN X1.here hx rfl (hb hby d_method_4_code_15) rfl h) ?_
  show Go p e below _ T1 (mkF m 16 #[.val (.ref b1), .val (.int (3 : Int32)), .val (.int p3), .val (.int ((0 : Int32) + (1 : Int32)))] [(.int (3 : Int32))])
  refine Go.st (fun _ h => XT.iconstV X1.here hx rfl (2 : Int32) (hb hby d_method_4_code_16) (by decide) h) ?_
  show Go p e below _ T1 (mkF m 17 #[.val (.ref b1), .val (.int (3 : Int32)), .val (.int p3), .val (.int ((0 : Int32) + (1 : Int32)))] [(.int (2 : Int32)), (.int (3 : Int32))])
  refine Go.st (fun _ h => XS.iand X1.here hx rfl (hb hby d_method_4_code_17) rfl h) ?_
  show Go p e below _ T1 (mkF m 18 #[.val (.ref b1), .val (.int (3 : Int32)), .val (.int p3), .val (.int ((0 : Int32) + (1 : Int32)))] [(.int ((3 : Int32) &&& (2 : Int32)))])
  refine Go.st (fun _ h => XS.ifNo X1.here hx rfl (hb hby d_method_4_code_18) rfl (by decide) h) ?_
  show Go p e below _ T1 (mkF m 21 #[.val (.ref b1), .val (.int (3 : Int32)), .val (.int p3), .val (.int ((0 : Int32) + (1 : Int32)))] [])
  refine Go.st (fun _ h => XS.aloadN X1.here hx rfl (hb hby d_method_4_code_21) rfl rfl h) ?_
  show Go p e below _ T1 (mkF m 22 #[.val (.ref b1), .val (.int (3 : Int32)), .val (.int p3), .val (.int ((0 : Int32) + (1 : Int32)))] [(.ref b1)])
  refine Go.st (fun _ h => XS.iloadN X1.here hx rfl (hb hby d_method_4_code_22) rfl h) ?_
  show Go p e below _ T1 (mkF m 23 #[.val (.ref b1), .val (.int (3 : Int32)), .val (.int p3), .val (.int ((0 : Int32) + (1 : Int32)))] [(.int ((0 : Int32) + (1 : Int32))), (.ref b1)])
  refine Go.st (fun _ h => XS.iloadN X1.here hx rfl (hb hby d_method_4_code_23) rfl h) ?_
  show Go p e below _ T1 (mkF m 24 #[.val (.ref b1), .val (.int (3 : Int32)), .val (.int p3), .val (.int ((0 : Int32) + (1 : Int32)))] [(.int p3), (.int ((0 : Int32) + (1 : Int32))), (.ref b1)])
  refine Go.st (fun _ h => XT.iconstV X1.here hx rfl (1 : Int32) (hb hby d_method_4_code_24) (by decide) h) ?_
  show Go p e below _ T1 (mkF m 25 #[.val (.ref b1), .val (.int (3 : Int32)), .val (.int p3), .val (.int ((0 : Int32) + (1 : Int32)))] [(.int (1 : Int32)), (.int p3), (.int ((0 : Int32) + (1 : Int32))), (.ref b1)])
  refine Go.st (fun _ h => XS.iadd X1.here hx rfl (hb hby d_method_4_code_25) rfl h) ?_
  show Go p e below _ T1 (mkF m 26 #[.val (.ref b1), .val (.int (3 : Int32)), .val (.int p3), .val (.int ((0 : Int32) + (1 : Int32)))] [(.int (p3 + (1 : Int32))), (.int ((0 : Int32) + (1 : Int32))), (.ref b1)])
  obtain ⟨T2, h2, X2, e2, W2, V2, st2⟩ := own_stI X1 hx hZ e1 (j := ((0 : Int32) + (1 : Int32))) V1' (by decide) (by decide) 1 (by decide) (by simp) (g := (mkF m 26 #[.val (.ref b1), .val (.int (3 : Int32)), .val (.int p3), .val (.int ((0 : Int32) + (1 : Int32)))] [(.int (p3 + (1 : Int32))), (.int ((0 : Int32) + (1 : Int32))), (.ref b1)])) rfl rfl (hb hby d_method_4_code_26)
  have N2 := Fr.snoc X2 N1 g_b1
  have K2 := K1.wr W2 (Or.inl (List.mem_of_getElem? (i := 0) rfl))
  have V2' : Arv Z h2 b1 kb .int (2 : Int32) [(.int p3), (.int (p3 + (1 : Int32)))] (.int (0 : Int32)) := V2
  refine Go.st st2 ?_
  show Go p e below _ T2 (mkF m 27 #[.val (.ref b1), .val (.int (3 : Int32)), .val (.int p3), .val (.int ((0 : Int32) + (1 : Int32)))] [])
  refine Go.st (fun _ h => XT.iincV X2.here hx rfl (1 : Int32) (hb hby d_method_4_code_27) (by decide) rfl (l' := #[.val (.ref b1), .val (.int (3 : Int32)), .val (.int p3), .val (.int (((0 : Int32) + (1 : Int32)) + (1 : Int32)))]) rfl h) ?_
  show Go p e below _ T2 (mkF m 30 #[.val (.ref b1), .val (.int (3 : Int32)), .val (.int p3), .val (.int (((0 : Int32) + (1 : Int32)) + (1 : Int32)))] [])
  refine Go.st (fun _ h => XS.iloadN X2.here hx rfl (hb hby d_method_4_code_30) rfl h) ?_
  show Go p e below _ T2 (mkF m 31 #[.val (.ref b1), .val (.int (3 : Int32)), .val (.int p3), .val (.int (((0 : Int32) + (1 : Int32)) + (1 : Int32)))] [(.int (3 : Int32))])
  refine Go.st (fun _ h => XT.iconstV X2.here hx rfl (4 : Int32) (hb hby d_method_4_code_31) (by decide) h) ?_
  show Go p e below _ T2 (mkF m 32 #[.val (.ref b1), .val (.int (3 : Int32)), .val (.int p3), .val (.int (((0 : Int32) + (1 : Int32)) + (1 : Int32)))] [(.int (4 : Int32)), (.int (3 : Int32))])
  refine Go.st (fun _ h => XS.iand X2.here hx rfl (hb hby d_method_4_code_32) rfl h) ?_
  show Go p e below _ T2 (mkF m 33 #[.val (.ref b1), .val (.int (3 : Int32)), .val (.int p3), .val (.int (((0 : Int32) + (1 : Int32)) + (1 : Int32)))] [(.int ((3 : Int32) &&& (4 : Int32)))])
  refine Go.st (fun _ h => XS.ifYes X2.here hx rfl (pc0 := 33) (pc' := 45) rfl (hb hby d_method_4_code_33) rfl (by decide) (by decide) (by decide) h) ?_
  show Go p e below _ T2 (mkF m 45 #[.val (.ref b1), .val (.int (3 : Int32)), .val (.int p3), .val (.int (((0 : Int32) + (1 : Int32)) + (1 : Int32)))] [])
  refine Go.st (fun _ h => XS.iloadN X2.here hx rfl (hb hby d_method_4_code_45) rfl h) ?_
  show Go p e below _ T2 (mkF m 46 #[.val (.ref b1), .val (.int (3 : Int32)), .val (.int p3), .val (.int (((0 : Int32) + (1 : Int32)) + (1 : Int32)))] [(.int (3 : Int32))])
  refine Go.st (fun _ h => XT.bipushV X2.here hx rfl (8 : Int32) (hb hby d_method_4_code_46) (by decide) h) ?_
  show Go p e below _ T2 (mkF m 48 #[.val (.ref b1), .val (.int (3 : Int32)), .val (.int p3), .val (.int (((0 : Int32) + (1 : Int32)) + (1 : Int32)))] [(.int (8 : Int32)), (.int (3 : Int32))])
  refine Go.st (fun _ h => XS.iand X2.here hx rfl (hb hby d_method_4_code_48) rfl h) ?_
  show Go p e below _ T2 (mkF m 49 #[.val (.ref b1), .val (.int (3 : Int32)), .val (.int p3), .val (.int (((0 : Int32) + (1 : Int32)) + (1 : Int32)))] [(.int ((3 : Int32) &&& (8 : Int32)))])
  refine Go.st (fun _ h => XS.ifYes X2.here hx rfl (pc0 := 49) (pc' := 61) rfl (hb hby d_method_4_code_49) rfl (by decide) (by decide) (by decide) h) ?_
  show Go p e below _ T2 (mkF m 61 #[.val (.ref b1), .val (.int (3 : Int32)), .val (.int p3), .val (.int (((0 : Int32) + (1 : Int32)) + (1 : Int32)))] [])
  refine Go.retV X2 hx hlk hret (hb hby d_method_4_code_61) (by decide) (by decide) ?_
  rw [e2]
  refine ⟨rfl, N2, K2, ?_⟩
  show Arv Z _ b1 kb .int (2 : Int32) [own_pos p3 0, own_pos p3 1] (.int (0 : Int32))
  rw [own_pos0]
  exact V2'
theorem ef_rmFill4 (x0 : Addr) (x1 : Int32) (x2 : Int32) (m : MethodId) : entryFrame m #[(.ref x0), (.int x1), (.int x2)] 4 = mkF m 0 #[.val (.ref x0), .val (.int x1), .val (.int x2), .unset] [] := by first | (simp [entryFrame, mkF, argsToLocals, Value.category]; done) | rfl
set_option maxRecDepth 65536 in
set_option maxHeartbeats 40000000 in
theorem rmFill4 (l : Launch) (Z : State) (a0 : Array Value) (hw : ∀ d ∈ tables_1, d.before a0 Z = true) (b1 : Addr) (kb : ClassId) (p3 : Int32) (h0 : Heap) (n0 : Nat) (Z0 : n0 ≤ h0.size) (B_1 : Arv Z h0 b1 kb .int (1 : Int32) [(.int (0 : Int32))] (.int (0 : Int32))) (g_b1 : n0 ≤ b1) :
    Does l Z (⟨"com/example/bindwell/bindwell/collect/ListChangeMovesFromPinLaw", "fill", "([III)V"⟩ : MethodName) method_4_code 4 none [] ({ frames := 0, cells := 0, slots := 0, locals := 0 } : Room) #[(.ref b1), (.int (4 : Int32)), (.int p3)] h0 (fun v h L => v = none ∧ Fr n0 L ∧ Keep h0 h [b1] ∧ Arv Z h b1 kb .int (Int32.ofNat (own_cnt 4)) ((own_bits 4).map (own_pos p3)) (.int (0 : Int32))) := by
  refine Does.intro (plainFor_of_name pn_com_example_bindwell_bindwell_collect_ListChangeMovesFromPinLaw) (ef_rmFill4 b1 (4 : Int32) p3) ?_
  intro p e s m below meth c s₁ hx hby hml hown hnm hret hlk hZ e0 X0
  show Go p e below _ s₁ (mkF m 0 #[.val (.ref b1), .val (.int (4 : Int32)), .val (.int p3), .unset] [])
  have N0 := Fr.nil n0
  refine Go.st (fun _ h => XT.iconstV X0.here hx rfl (0 : Int32) (hb hby d_method_4_code_0) (by decide) h) ?_
  show Go p e below _ s₁ (mkF m 1 #[.val (.ref b1), .val (.int (4 : Int32)), .val (.int p3), .unset] [(.int (0 : Int32))])
  refine Go.st (fun _ h => XS.istoreN X0.here hx rfl (hb hby d_method_4_code_1) rfl (l' := #[.val (.ref b1), .val (.int (4 : Int32)), .val (.int p3), .val (.int (0 : Int32))]) rfl h) ?_
  show Go p e below _ s₁ (mkF m 2 #[.val (.ref b1), .val (.int (4 : Int32)), .val (.int p3), .val (.int (0 : Int32))] [])
  refine Go.st (fun _ h => XS.iloadN X0.here hx rfl (hb hby d_method_4_code_2) rfl h) ?_
  show Go p e below _ s₁ (mkF m 3 #[.val (.ref b1), .val (.int (4 : Int32)), .val (.int p3), .val (.int (0 : Int32))] [(.int (4 : Int32))])
  refine Go.st (fun _ h => XT.iconstV X0.here hx rfl (1 : Int32) (hb hby d_method_4_code_3) (by decide) h) ?_
  show Go p e below _ s₁ (mkF m 4 #[.val (.ref b1), .val (.int (4 : Int32)), .val (.int p3), .val (.int (0 : Int32))] [(.int (1 : Int32)), (.int (4 : Int32))])
  refine Go.st (fun _ h => XS.iand X0.here hx rfl (hb hby d_method_4_code_4) rfl h) ?_
  show Go p e below _ s₁ (mkF m 5 #[.val (.ref b1), .val (.int (4 : Int32)), .val (.int p3), .val (.int (0 : Int32))] [(.int ((4 : Int32) &&& (1 : Int32)))])
  refine Go.st (fun _ h => XS.ifYes X0.here hx rfl (pc0 := 5) (pc' := 15) rfl (hb hby d_method_4_code_5) rfl (by decide) (by decide) (by decide) h) ?_
  show Go p e below _ s₁ (mkF m 15 #[.val (.ref b1), .val (.int (4 : Int32)), .val (.int p3), .val (.int (0 : Int32))] [])
  refine Go.st (fun _ h => XS.iloadN X0.here hx rfl (hb hby d_method_4_code_15) rfl h) ?_
  show Go p e below _ s₁ (mkF m 16 #[.val (.ref b1), .val (.int (4 : Int32)), .val (.int p3), .val (.int (0 : Int32))] [(.int (4 : Int32))])
  refine Go.st (fun _ h => XT.iconstV X0.here hx rfl (2 : Int32) (hb hby d_method_4_code_16) (by decide) h) ?_
  show Go p e below _ s₁ (mkF m 17 #[.val (.ref b1), .val (.int (4 : Int32)), .val (.int p3), .val (.int (0 : Int32))] [(.int (2 : Int32)), (.int (4 : Int32))])
  refine Go.st (fun _ h => XS.iand X0.here hx rfl (hb hby d_method_4_code_17) rfl h) ?_
  show Go p e below _ s₁ (mkF m 18 #[.val (.ref b1), .val (.int (4 : Int32)), .val (.int p3), .val (.int (0 : Int32))] [(.int ((4 : Int32) &&& (2 : Int32)))])
  refine Go.st (fun _ h => XS.ifYes X0.here hx rfl (pc0 := 18) (pc' := 30) rfl (hb hby d_method_4_code_18) rfl (by decide) (by decide) (by decide) h) ?_
  show Go p e below _ s₁ (mkF m 30 #[.val (.ref b1), .val (.int (4 : Int32)), .val (.int p3), .val (.int (0 : Int32))] [])
  refine Go.st (fun _ h => XS.iloadN X0.here hx rfl (hb hby d_method_4_code_30) rfl h) ?_
  show Go p e below _ s₁ (mkF m 31 #[.val (.ref b1), .val (.int (4 : Int32)), .val (.int p3), .val (.int (0 : Int32))] [(.int (4 : Int32))])
  refine Go.st (fun _ h => XT.iconstV X0.here hx rfl (4 : Int32) (hb hby d_method_4_code_31) (by decide) h) ?_
  show Go p e below _ s₁ (mkF m 32 #[.val (.ref b1), .val (.int (4 : Int32)), .val (.int p3), .val (.int (0 : Int32))] [(.int (4 : Int32)), (.int (4 : Int32))])
  refine Go.st (fun _ h => XS.iand X0.here hx rfl (hb hby d_method_4_code_32) rfl h) ?_
  show Go p e below _ s₁ (mkF m 33 #[.val (.ref b1), .val (.int (4 : Int32)), .val (.int p3), .val (.int (0 : Int32))] [(.int ((4 : Int32) &&& (4 : Int32)))])
  refine Go.st (fun _ h => XS.ifNo X0.here hx rfl (hb hby d_method_4_code_33) rfl (by decide) h) ?_
  show Go p e below _ s₁ (mkF m 36 #[.val (.ref b1), .val (.int (4 : Int32)), .val (.int p3), .val (.int (0 : Int32))] [])
  refine Go.st (fun _ h => XS.aloadN X0.here hx rfl (hb hby d_method_4_code_36) rfl rfl h) ?_
  show Go p e below _ s₁ (mkF m 37 #[.val (.ref b1), .val (.int (4 : Int32)), .val (.int p3), .val (.int (0 : Int32))] [(.ref b1)])
  refine Go.st (fun _ h => XS.iloadN X0.here hx rfl (hb hby d_method_4_code_37) rfl h) ?_
  show Go p e below _ s₁ (mkF m 38 #[.val (.ref b1), .val (.int (4 : Int32)), .val (.int p3), .val (.int (0 : Int32))] [(.int (0 : Int32)), (.ref b1)])
  refine Go.st (fun _ h => XS.iloadN X0.here hx rfl (hb hby d_method_4_code_38) rfl h) ?_
  show Go p e below _ s₁ (mkF m 39 #[.val (.ref b1), .val (.int (4 : Int32)), .val (.int p3), .val (.int (0 : Int32))] [(.int p3), (.int (0 : Int32)), (.ref b1)])
  refine Go.st (fun _ h => XT.iconstV X0.here hx rfl (2 : Int32) (hb hby d_method_4_code_39) (by decide) h) ?_
  show Go p e below _ s₁ (mkF m 40 #[.val (.ref b1), .val (.int (4 : Int32)), .val (.int p3), .val (.int (0 : Int32))] [(.int (2 : Int32)), (.int p3), (.int (0 : Int32)), (.ref b1)])
  refine Go.st (fun _ h => XS.iadd X0.here hx rfl (hb hby d_method_4_code_40) rfl h) ?_
  show Go p e below _ s₁ (mkF m 41 #[.val (.ref b1), .val (.int (4 : Int32)), .val (.int p3), .val (.int (0 : Int32))] [(.int (p3 + (2 : Int32))), (.int (0 : Int32)), (.ref b1)])
  obtain ⟨T1, h1, X1, e1, W1, V1, st1⟩ := own_stI X0 hx hZ e0 (j := (0 : Int32)) B_1 (by decide) (by decide) 0 (by decide) (by simp) (g := (mkF m 41 #[.val (.ref b1), .val (.int (4 : Int32)), .val (.int p3), .val (.int (0 : Int32))] [(.int (p3 + (2 : Int32))), (.int (0 : Int32)), (.ref b1)])) rfl rfl (hb hby d_method_4_code_41)
  have N1 := Fr.snoc X1 N0 g_b1
  have K1 := (Keep.refl _ [b1]).wr W1 (Or.inl (List.mem_of_getElem? (i := 0) rfl))
  have V1' : Arv Z h1 b1 kb .int (1 : Int32) [(.int (p3 + (2 : Int32)))] (.int (0 : Int32)) := V1
  refine Go.st st1 ?_
  show Go p e below _ T1 (mkF m 42 #[.val (.ref b1), .val (.int (4 : Int32)), .val (.int p3), .val (.int (0 : Int32))] [])
  refine Go.st (fun _ h => XT.iincV X1.here hx rfl (1 : Int32) (hb hby d_method_4_code_42) (by decide) rfl (l' := #[.val (.ref b1), .val (.int (4 : Int32)), .val (.int p3), .val (.int ((0 : Int32) + (1 : Int32)))]) rfl h) ?_
  show Go p e below _ T1 (mkF m 45 #[.val (.ref b1), .val (.int (4 : Int32)), .val (.int p3), .val (.int ((0 : Int32) + (1 : Int32)))] [])
  refine Go.st (fun _ h => XS.iloadN X1.here hx rfl (hb hby d_method_4_code_45) rfl h) ?_
  show Go p e below _ T1 (mkF m 46 #[.val (.ref b1), .val (.int (4 : Int32)), .val (.int p3), .val (.int ((0 : Int32) + (1 : Int32)))] [(.int (4 : Int32))])
  refine Go.st (fun _ h => XT.bipushV X1.here hx rfl (8 : Int32) (hb hby d_method_4_code_46) (by decide) h) ?_
  show Go p e below _ T1 (mkF m 48 #[.val (.ref b1), .val (.int (4 : Int32)), .val (.int p3), .val (.int ((0 : Int32) + (1 : Int32)))] [(.int (8 : Int32)), (.int (4 : Int32))])
  refine Go.st (fun _ h => XS.iand X1.here hx rfl (hb hby d_method_4_code_48) rfl h) ?_
  show Go p e below _ T1 (mkF m 49 #[.val (.ref b1), .val (.int (4 : Int32)), .val (.int p3), .val (.int ((0 : Int32) + (1 : Int32)))] [(.int ((4 : Int32) &&& (8 : Int32)))])
  refine Go.st (fun _ h => XS.ifYes X1.here hx rfl (pc0 := 49) (pc' := 61) rfl (hb hby d_method_4_code_49) rfl (by decide) (by decide) (by decide) h) ?_
  show Go p e below _ T1 (mkF m 61 #[.val (.ref b1), .val (.int (4 : Int32)), .val (.int p3), .val (.int ((0 : Int32) + (1 : Int32)))] [])
  refine Go.retV X1 hx hlk hret (hb hby d_method_4_code_61) (by decide) (by decide) ?_
  rw [e1]
  refine ⟨rfl, N1, K1, ?_⟩
  show Arv Z _ b1 kb .int (1 : Int32) [own_pos p3 2] (.int (0 : Int32))
  exact V1'
theorem ef_rmFill5 (x0 : Addr) (x1 : Int32) (x2 : Int32) (m : MethodId) : entryFrame m #[(.ref x0), (.int x1), (.int x2)] 4 = mkF m 0 #[.val (.ref x0), .val (.int x1), .val (.int x2), .unset] [] := by first | (simp [entryFrame, mkF, argsToLocals, Value.category]; done) | rfl
set_option maxRecDepth 65536 in
set_option maxHeartbeats 40000000 in
theorem rmFill5 (l : Launch) (Z : State) (a0 : Array Value) (hw : ∀ d ∈ tables_1, d.before a0 Z = true) (b1 : Addr) (kb : ClassId) (p3 : Int32) (h0 : Heap) (n0 : Nat) (Z0 : n0 ≤ h0.size) (B_1 : Arv Z h0 b1 kb .int (2 : Int32) [(.int (0 : Int32)), (.int (0 : Int32))] (.int (0 : Int32))) (g_b1 : n0 ≤ b1) :
    Does l Z (⟨"com/example/bindwell/bindwell/collect/ListChangeMovesFromPinLaw", "fill", "([III)V"⟩ : MethodName) method_4_code 4 none [] ({ frames := 0, cells := 0, slots := 0, locals := 0 } : Room) #[(.ref b1), (.int (5 : Int32)), (.int p3)] h0 (fun v h L => v = none ∧ Fr n0 L ∧ Keep h0 h [b1] ∧ Arv Z h b1 kb .int (Int32.ofNat (own_cnt 5)) ((own_bits 5).map (own_pos p3)) (.int (0 : Int32))) := by
  refine Does.intro (plainFor_of_name pn_com_example_bindwell_bindwell_collect_ListChangeMovesFromPinLaw) (ef_rmFill5 b1 (5 : Int32) p3) ?_
  intro p e s m below meth c s₁ hx hby hml hown hnm hret hlk hZ e0 X0
  show Go p e below _ s₁ (mkF m 0 #[.val (.ref b1), .val (.int (5 : Int32)), .val (.int p3), .unset] [])
  have N0 := Fr.nil n0
  refine Go.st (fun _ h => XT.iconstV X0.here hx rfl (0 : Int32) (hb hby d_method_4_code_0) (by decide) h) ?_
  show Go p e below _ s₁ (mkF m 1 #[.val (.ref b1), .val (.int (5 : Int32)), .val (.int p3), .unset] [(.int (0 : Int32))])
  refine Go.st (fun _ h => XS.istoreN X0.here hx rfl (hb hby d_method_4_code_1) rfl (l' := #[.val (.ref b1), .val (.int (5 : Int32)), .val (.int p3), .val (.int (0 : Int32))]) rfl h) ?_
  show Go p e below _ s₁ (mkF m 2 #[.val (.ref b1), .val (.int (5 : Int32)), .val (.int p3), .val (.int (0 : Int32))] [])
  refine Go.st (fun _ h => XS.iloadN X0.here hx rfl (hb hby d_method_4_code_2) rfl h) ?_
  show Go p e below _ s₁ (mkF m 3 #[.val (.ref b1), .val (.int (5 : Int32)), .val (.int p3), .val (.int (0 : Int32))] [(.int (5 : Int32))])
  refine Go.st (fun _ h => XT.iconstV X0.here hx rfl (1 : Int32) (hb hby d_method_4_code_3) (by decide) h) ?_
  show Go p e below _ s₁ (mkF m 4 #[.val (.ref b1), .val (.int (5 : Int32)), .val (.int p3), .val (.int (0 : Int32))] [(.int (1 : Int32)), (.int (5 : Int32))])
  refine Go.st (fun _ h => XS.iand X0.here hx rfl (hb hby d_method_4_code_4) rfl h) ?_
  show Go p e below _ s₁ (mkF m 5 #[.val (.ref b1), .val (.int (5 : Int32)), .val (.int p3), .val (.int (0 : Int32))] [(.int ((5 : Int32) &&& (1 : Int32)))])
  refine Go.st (fun _ h => XS.ifNo X0.here hx rfl (hb hby d_method_4_code_5) rfl (by decide) h) ?_
  show Go p e below _ s₁ (mkF m 8 #[.val (.ref b1), .val (.int (5 : Int32)), .val (.int p3), .val (.int (0 : Int32))] [])
  refine Go.st (fun _ h => XS.aloadN X0.here hx rfl (hb hby d_method_4_code_8) rfl rfl h) ?_
  show Go p e below _ s₁ (mkF m 9 #[.val (.ref b1), .val (.int (5 : Int32)), .val (.int p3), .val (.int (0 : Int32))] [(.ref b1)])
  refine Go.st (fun _ h => XS.iloadN X0.here hx rfl (hb hby d_method_4_code_9) rfl h) ?_
  show Go p e below _ s₁ (mkF m 10 #[.val (.ref b1), .val (.int (5 : Int32)), .val (.int p3), .val (.int (0 : Int32))] [(.int (0 : Int32)), (.ref b1)])
  refine Go.st (fun _ h => XS.iloadN X0.here hx rfl (hb hby d_method_4_code_10) rfl h) ?_
  show Go p e below _ s₁ (mkF m 11 #[.val (.ref b1), .val (.int (5 : Int32)), .val (.int p3), .val (.int (0 : Int32))] [(.int p3), (.int (0 : Int32)), (.ref b1)])
  obtain ⟨T1, h1, X1, e1, W1, V1, st1⟩ := own_stI X0 hx hZ e0 (j := (0 : Int32)) B_1 (by decide) (by decide) 0 (by decide) (by simp) (g := (mkF m 11 #[.val (.ref b1), .val (.int (5 : Int32)), .val (.int p3), .val (.int (0 : Int32))] [(.int p3), (.int (0 : Int32)), (.ref b1)])) rfl rfl (hb hby d_method_4_code_11)
  have N1 := Fr.snoc X1 N0 g_b1
  have K1 := (Keep.refl _ [b1]).wr W1 (Or.inl (List.mem_of_getElem? (i := 0) rfl))
  have V1' : Arv Z h1 b1 kb .int (2 : Int32) [(.int p3), (.int (0 : Int32))] (.int (0 : Int32)) := V1
  refine Go.st st1 ?_
  show Go p e below _ T1 (mkF m 12 #[.val (.ref b1), .val (.int (5 : Int32)), .val (.int p3), .val (.int (0 : Int32))] [])
  refine Go.st (fun _ h => XT.iincV X1.here hx rfl (1 : Int32) (hb hby d_method_4_code_12) (by decide) rfl (l' := #[.val (.ref b1), .val (.int (5 : Int32)), .val (.int p3), .val (.int ((0 : Int32) + (1 : Int32)))]) rfl h) ?_
  show Go p e below _ T1 (mkF m 15 #[.val (.ref b1), .val (.int (5 : Int32)), .val (.int p3), .val (.int ((0 : Int32) + (1 : Int32)))] [])
  refine Go.st (fun _ h => XS.iloadN X1.here hx rfl (hb hby d_method_4_code_15) rfl h) ?_
  show Go p e below _ T1 (mkF m 16 #[.val (.ref b1), .val (.int (5 : Int32)), .val (.int p3), .val (.int ((0 : Int32) + (1 : Int32)))] [(.int (5 : Int32))])
  refine Go.st (fun _ h => XT.iconstV X1.here hx rfl (2 : Int32) (hb hby d_method_4_code_16) (by decide) h) ?_
  show Go p e below _ T1 (mkF m 17 #[.val (.ref b1), .val (.int (5 : Int32)), .val (.int p3), .val (.int ((0 : Int32) + (1 : Int32)))] [(.int (2 : Int32)), (.int (5 : Int32))])
  refine Go.st (fun _ h => XS.iand X1.here hx rfl (hb hby d_method_4_code_17) rfl h) ?_
  show Go p e below _ T1 (mkF m 18 #[.val (.ref b1), .val (.int (5 : Int32)), .val (.int p3), .val (.int ((0 : Int32) + (1 : Int32)))] [(.int ((5 : Int32) &&& (2 : Int32)))])
  refine Go.st (fun _ h => XS.ifYes X1.here hx rfl (pc0 := 18) (pc' := 30) rfl (hb hby d_method_4_code_18) rfl (by decide) (by decide) (by decide) h) ?_
  show Go p e below _ T1 (mkF m 30 #[.val (.ref b1), .val (.int (5 : Int32)), .val (.int p3), .val (.int ((0 : Int32) + (1 : Int32)))] [])
  refine Go.st (fun _ h => XS.iloadN X1.here hx rfl (hb hby d_method_4_code_30) rfl h) ?_
  show Go p e below _ T1 (mkF m 31 #[.val (.ref b1), .val (.int (5 : Int32)), .val (.int p3), .val (.int ((0 : Int32) + (1 : Int32)))] [(.int (5 : Int32))])
  refine Go.st (fun _ h => XT.iconstV X1.here hx rfl (4 : Int32) (hb hby d_method_4_code_31) (by decide) h) ?_
  show Go p e below _ T1 (mkF m 32 #[.val (.ref b1), .val (.int (5 : Int32)), .val (.int p3), .val (.int ((0 : Int32) + (1 : Int32)))] [(.int (4 : Int32)), (.int (5 : Int32))])
  refine Go.st (fun _ h => XS.iand X1.here hx rfl (hb hby d_method_4_code_32) rfl h) ?_
  show Go p e below _ T1 (mkF m 33 #[.val (.ref b1), .val (.int (5 : Int32)), .val (.int p3), .val (.int ((0 : Int32) + (1 : Int32)))] [(.int ((5 : Int32) &&& (4 : Int32)))])
  refine Go.st (fun _ h => XS.ifNo X1.here hx rfl (hb hby d_method_4_code_33) rfl (by decide) h) ?_
  show Go p e below _ T1 (mkF m 36 #[.val (.ref b1), .val (.int (5 : Int32)), .val (.int p3), .val (.int ((0 : Int32) + (1 : Int32)))] [])
  refine Go.st (fun _ h => XS.aloadN X1.here hx rfl (hb hby d_method_4_code_36) rfl rfl h) ?_
  show Go p e below _ T1 (mkF m 37 #[.val (.ref b1), .val (.int (5 : Int32)), .val (.int p3), .val (.int ((0 : Int32) + (1 : Int32)))] [(.ref b1)])
  refine Go.st (fun _ h => XS.iloadN X1.here hx rfl (hb hby d_method_4_code_37) rfl h) ?_
  show Go p e below _ T1 (mkF m 38 #[.val (.ref b1), .val (.int (5 : Int32)), .val (.int p3), .val (.int ((0 : Int32) + (1 : Int32)))] [(.int ((0 : Int32) + (1 : Int32))), (.ref b1)])
  refine Go.st (fun _ h => XS.iloadN X1.here hx rfl (hb hby d_method_4_code_38) rfl h) ?_
  show Go p e below _ T1 (mkF m 39 #[.val (.ref b1), .val (.int (5 : Int32)), .val (.int p3), .val (.int ((0 : Int32) + (1 : Int32)))] [(.int p3), (.int ((0 : Int32) + (1 : Int32))), (.ref b1)])
  refine Go.st (fun _ h => XT.iconstV X1.here hx rfl (2 : Int32) (hb hby d_method_4_code_39) (by decide) h) ?_
  show Go p e below _ T1 (mkF m 40 #[.val (.ref b1), .val (.int (5 : Int32)), .val (.int p3), .val (.int ((0 : Int32) + (1 : Int32)))] [(.int (2 : Int32)), (.int p3), (.int ((0 : Int32) + (1 : Int32))), (.ref b1)])
  refine Go.st (fun _ h => XS.iadd X1.here hx rfl (hb hby d_method_4_code_40) rfl h) ?_
  show Go p e below _ T1 (mkF m 41 #[.val (.ref b1), .val (.int (5 : Int32)), .val (.int p3), .val (.int ((0 : Int32) + (1 : Int32)))] [(.int (p3 + (2 : Int32))), (.int ((0 : Int32) + (1 : Int32))), (.ref b1)])
  obtain ⟨T2, h2, X2, e2, W2, V2, st2⟩ := own_stI X1 hx hZ e1 (j := ((0 : Int32) + (1 : Int32))) V1' (by decide) (by decide) 1 (by decide) (by simp) (g := (mkF m 41 #[.val (.ref b1), .val (.int (5 : Int32)), .val (.int p3), .val (.int ((0 : Int32) + (1 : Int32)))] [(.int (p3 + (2 : Int32))), (.int ((0 : Int32) + (1 : Int32))), (.ref b1)])) rfl rfl (hb hby d_method_4_code_41)
  have N2 := Fr.snoc X2 N1 g_b1
  have K2 := K1.wr W2 (Or.inl (List.mem_of_getElem? (i := 0) rfl))
  have V2' : Arv Z h2 b1 kb .int (2 : Int32) [(.int p3), (.int (p3 + (2 : Int32)))] (.int (0 : Int32)) := V2
  refine Go.st st2 ?_
  show Go p e below _ T2 (mkF m 42 #[.val (.ref b1), .val (.int (5 : Int32)), .val (.int p3), .val (.int ((0 : Int32) + (1 : Int32)))] [])
  refine Go.st (fun _ h => XT.iincV X2.here hx rfl (1 : Int32) (hb hby d_method_4_code_42) (by decide) rfl (l' := #[.val (.ref b1), .val (.int (5 : Int32)), .val (.int p3), .val (.int (((0 : Int32) + (1 : Int32)) + (1 : Int32)))]) rfl h) ?_
  show Go p e below _ T2 (mkF m 45 #[.val (.ref b1), .val (.int (5 : Int32)), .val (.int p3), .val (.int (((0 : Int32) + (1 : Int32)) + (1 : Int32)))] [])
  refine Go.st (fun _ h => XS.iloadN X2.here hx rfl (hb hby d_method_4_code_45) rfl h) ?_
  show Go p e below _ T2 (mkF m 46 #[.val (.ref b1), .val (.int (5 : Int32)), .val (.int p3), .val (.int (((0 : Int32) + (1 : Int32)) + (1 : Int32)))] [(.int (5 : Int32))])
  refine Go.st (fun _ h => XT.bipushV X2.here hx rfl (8 : Int32) (hb hby d_method_4_code_46) (by decide) h) ?_
  show Go p e below _ T2 (mkF m 48 #[.val (.ref b1), .val (.int (5 : Int32)), .val (.int p3), .val (.int (((0 : Int32) + (1 : Int32)) + (1 : Int32)))] [(.int (8 : Int32)), (.int (5 : Int32))])
  refine Go.st (fun _ h => XS.iand X2.here hx rfl (hb hby d_method_4_code_48) rfl h) ?_
  show Go p e below _ T2 (mkF m 49 #[.val (.ref b1), .val (.int (5 : Int32)), .val (.int p3), .val (.int (((0 : Int32) + (1 : Int32)) + (1 : Int32)))] [(.int ((5 : Int32) &&& (8 : Int32)))])
  refine Go.st (fun _ h => XS.ifYes X2.here hx rfl (pc0 := 49) (pc' := 61) rfl (hb hby d_method_4_code_49) rfl (by decide) (by decide) (by decide) h) ?_
  show Go p e below _ T2 (mkF m 61 #[.val (.ref b1), .val (.int (5 : Int32)), .val (.int p3), .val (.int (((0 : Int32) + (1 : Int32)) + (1 : Int32)))] [])
  refine Go.retV X2 hx hlk hret (hb hby d_method_4_code_61) (by decide) (by decide) ?_
  rw [e2]
  refine ⟨rfl, N2, K2, ?_⟩
  show Arv Z _ b1 kb .int (2 : Int32) [own_pos p3 0, own_pos p3 2] (.int (0 : Int32))
  rw [own_pos0]
  exact V2'
theorem ef_rmFill6 (x0 : Addr) (x1 : Int32) (x2 : Int32) (m : MethodId) : entryFrame m #[(.ref x0), (.int x1), (.int x2)] 4 = mkF m 0 #[.val (.ref x0), .val (.int x1), .val (.int x2), .unset] [] := by first | (simp [entryFrame, mkF, argsToLocals, Value.category]; done) | rfl
set_option maxRecDepth 65536 in
set_option maxHeartbeats 40000000 in
theorem rmFill6 (l : Launch) (Z : State) (a0 : Array Value) (hw : ∀ d ∈ tables_1, d.before a0 Z = true) (b1 : Addr) (kb : ClassId) (p3 : Int32) (h0 : Heap) (n0 : Nat) (Z0 : n0 ≤ h0.size) (B_1 : Arv Z h0 b1 kb .int (2 : Int32) [(.int (0 : Int32)), (.int (0 : Int32))] (.int (0 : Int32))) (g_b1 : n0 ≤ b1) :
    Does l Z (⟨"com/example/bindwell/bindwell/collect/ListChangeMovesFromPinLaw", "fill", "([III)V"⟩ : MethodName) method_4_code 4 none [] ({ frames := 0, cells := 0, slots := 0, locals := 0 } : Room) #[(.ref b1), (.int (6 : Int32)), (.int p3)] h0 (fun v h L => v = none ∧ Fr n0 L ∧ Keep h0 h [b1] ∧ Arv Z h b1 kb .int (Int32.ofNat (own_cnt 6)) ((own_bits 6).map (own_pos p3)) (.int (0 : Int32))) := by
  refine Does.intro (plainFor_of_name pn_com_example_bindwell_bindwell_collect_ListChangeMovesFromPinLaw) (ef_rmFill6 b1 (6 : Int32) p3) ?_
  intro p e s m below meth c s₁ hx hby hml hown hnm hret hlk hZ e0 X0
  show Go p e below _ s₁ (mkF m 0 #[.val (.ref b1), .val (.int (6 : Int32)), .val (.int p3), .unset] [])
  have N0 := Fr.nil n0
  refine Go.st (fun _ h => XT.iconstV X0.here hx rfl (0 : Int32) (hb hby d_method_4_code_0) (by decide) h) ?_
  show Go p e below _ s₁ (mkF m 1 #[.val (.ref b1), .val (.int (6 : Int32)), .val (.int p3), .unset] [(.int (0 : Int32))])
  refine Go.st (fun _ h => XS.istoreN X0.here hx rfl (hb hby d_method_4_code_1) rfl (l' := #[.val (.ref b1), .val (.int (6 : Int32)), .val (.int p3), .val (.int (0 : Int32))]) rfl h) ?_
  show Go p e below _ s₁ (mkF m 2 #[.val (.ref b1), .val (.int (6 : Int32)), .val (.int p3), .val (.int (0 : Int32))] [])
  refine Go.st (fun _ h => XS.iloadN X0.here hx rfl (hb hby d_method_4_code_2) rfl h) ?_
  show Go p e below _ s₁ (mkF m 3 #[.val (.ref b1), .val (.int (6 : Int32)), .val (.int p3), .val (.int (0 : Int32))] [(.int (6 : Int32))])
  refine Go.st (fun _ h => XT.iconstV X0.here hx rfl (1 : Int32) (hb hby d_method_4_code_3) (by decide) h) ?_
  show Go p e below _ s₁ (mkF m 4 #[.val (.ref b1), .val (.int (6 : Int32)), .val (.int p3), .val (.int (0 : Int32))] [(.int (1 : Int32)), (.int (6 : Int32))])
  refine Go.st (fun _ h => XS.iand X0.here hx rfl (hb hby d_method_4_code_4) rfl h) ?_
  show Go p e below _ s₁ (mkF m 5 #[.val (.ref b1), .val (.int (6 : Int32)), .val (.int p3), .val (.int (0 : Int32))] [(.int ((6 : Int32) &&& (1 : Int32)))])
  refine Go.st (fun _ h => XS.ifYes X0.here hx rfl (pc0 := 5) (pc' := 15) rfl (hb hby d_method_4_code_5) rfl (by decide) (by decide) (by decide) h) ?_
  show Go p e below _ s₁ (mkF m 15 #[.val (.ref b1), .val (.int (6 : Int32)), .val (.int p3), .val (.int (0 : Int32))] [])
  refine Go.st (fun _ h => XS.iloadN X0.here hx rfl (hb hby d_method_4_code_15) rfl h) ?_
  show Go p e below _ s₁ (mkF m 16 #[.val (.ref b1), .val (.int (6 : Int32)), .val (.int p3), .val (.int (0 : Int32))] [(.int (6 : Int32))])
  refine Go.st (fun _ h => XT.iconstV X0.here hx rfl (2 : Int32) (hb hby d_method_4_code_16) (by decide) h) ?_
  show Go p e below _ s₁ (mkF m 17 #[.val (.ref b1), .val (.int (6 : Int32)), .val (.int p3), .val (.int (0 : Int32))] [(.int (2 : Int32)), (.int (6 : Int32))])
  refine Go.st (fun _ h => XS.iand X0.here hx rfl (hb hby d_method_4_code_17) rfl h) ?_
  show Go p e below _ s₁ (mkF m 18 #[.val (.ref b1), .val (.int (6 : Int32)), .val (.int p3), .val (.int (0 : Int32))] [(.int ((6 : Int32) &&& (2 : Int32)))])
  refine Go.st (fun _ h => XS.ifNo X0.here hx rfl (hb hby d_method_4_code_18) rfl (by decide) h) ?_
  show Go p e below _ s₁ (mkF m 21 #[.val (.ref b1), .val (.int (6 : Int32)), .val (.int p3), .val (.int (0 : Int32))] [])
  refine Go.st (fun _ h => XS.aloadN X0.here hx rfl (hb hby d_method_4_code_21) rfl rfl h) ?_
  show Go p e below _ s₁ (mkF m 22 #[.val (.ref b1), .val (.int (6 : Int32)), .val (.int p3), .val (.int (0 : Int32))] [(.ref b1)])
  refine Go.st (fun _ h => XS.iloadN X0.here hx rfl (hb hby d_method_4_code_22) rfl h) ?_
  show Go p e below _ s₁ (mkF m 23 #[.val (.ref b1), .val (.int (6 : Int32)), .val (.int p3), .val (.int (0 : Int32))] [(.int (0 : Int32)), (.ref b1)])
  refine Go.st (fun _ h => XS.iloadN X0.here hx rfl (hb hby d_method_4_code_23) rfl h) ?_
  show Go p e below _ s₁ (mkF m 24 #[.val (.ref b1), .val (.int (6 : Int32)), .val (.int p3), .val (.int (0 : Int32))] [(.int p3), (.int (0 : Int32)), (.ref b1)])
  refine Go.st (fun _ h => XT.iconstV X0.here hx rfl (1 : Int32) (hb hby d_method_4_code_24) (by decide) h) ?_
  show Go p e below _ s₁ (mkF m 25 #[.val (.ref b1), .val (.int (6 : Int32)), .val (.int p3), .val (.int (0 : Int32))] [(.int (1 : Int32)), (.int p3), (.int (0 : Int32)), (.ref b1)])
  refine Go.st (fun _ h => XS.iadd X0.here hx rfl (hb hby d_method_4_code_25) rfl h) ?_
  show Go p e below _ s₁ (mkF m 26 #[.val (.ref b1), .val (.int (6 : Int32)), .val (.int p3), .val (.int (0 : Int32))] [(.int (p3 + (1 : Int32))), (.int (0 : Int32)), (.ref b1)])
  obtain ⟨T1, h1, X1, e1, W1, V1, st1⟩ := own_stI X0 hx hZ e0 (j := (0 : Int32)) B_1 (by decide) (by decide) 0 (by decide) (by simp) (g := (mkF m 26 #[.val (.ref b1), .val (.int (6 : Int32)), .val (.int p3), .val (.int (0 : Int32))] [(.int (p3 + (1 : Int32))), (.int (0 : Int32)), (.ref b1)])) rfl rfl (hb hby d_method_4_code_26)
  have N1 := Fr.snoc X1 N0 g_b1
  have K1 := (Keep.refl _ [b1]).wr W1 (Or.inl (List.mem_of_getElem? (i := 0) rfl))
  have V1' : Arv Z h1 b1 kb .int (2 : Int32) [(.int (p3 + (1 : Int32))), (.int (0 : Int32))] (.int (0 : Int32)) := V1
  refine Go.st st1 ?_
  show Go p e below _ T1 (mkF m 27 #[.val (.ref b1), .val (.int (6 : Int32)), .val (.int p3), .val (.int (0 : Int32))] [])
  refine Go.st (fun _ h => XT.iincV X1.here hx rfl (1 : Int32) (hb hby d_method_4_code_27) (by decide) rfl (l' := #[.val (.ref b1), .val (.int (6 : Int32)), .val (.int p3), .val (.int ((0 : Int32) + (1 : Int32)))]) rfl h) ?_
  show Go p e below _ T1 (mkF m 30 #[.val (.ref b1), .val (.int (6 : Int32)), .val (.int p3), .val (.int ((0 : Int32) + (1 : Int32)))] [])
  refine Go.st (fun _ h => XS.iloadN X1.here hx rfl (hb hby d_method_4_code_30) rfl h) ?_
  show Go p e below _ T1 (mkF m 31 #[.val (.ref b1), .val (.int (6 : Int32)), .val (.int p3), .val (.int ((0 : Int32) + (1 : Int32)))] [(.int (6 : Int32))])
  refine Go.st (fun _ h => XT.iconstV X1.here hx rfl (4 : Int32) (hb hby d_method_4_code_31) (by decide) h) ?_
  show Go p e below _ T1 (mkF m 32 #[.val (.ref b1), .val (.int (6 : Int32)), .val (.int p3), .val (.int ((0 : Int32) + (1 : Int32)))] [(.int (4 : Int32)), (.int (6 : Int32))])
  refine Go.st (fun _ h => XS.iand X1.here hx rfl (hb hby d_method_4_code_32) rfl h) ?_
  show Go p e below _ T1 (mkF m 33 #[.val (.ref b1), .val (.int (6 : Int32)), .val (.int p3), .val (.int ((0 : Int32) + (1 : Int32)))] [(.int ((6 : Int32) &&& (4 : Int32)))])
  refine Go.st (fun _ h => XS.ifNo X1.here hx rfl (hb hby d_method_4_code_33) rfl (by decide) h) ?_
  show Go p e below _ T1 (mkF m 36 #[.val (.ref b1), .val (.int (6 : Int32)), .val (.int p3), .val (.int ((0 : Int32) + (1 : Int32)))] [])
  refine Go.st (fun _ h => XS.aloadN X1.here hx rfl (hb hby d_method_4_code_36) rfl rfl h) ?_
  show Go p e below _ T1 (mkF m 37 #[.val (.ref b1), .val (.int (6 : Int32)), .val (.int p3), .val (.int ((0 : Int32) + (1 : Int32)))] [(.ref b1)])
  refine Go.st (fun _ h => XS.iloadN X1.here hx rfl (hb hby d_method_4_code_37) rfl h) ?_
  show Go p e below _ T1 (mkF m 38 #[.val (.ref b1), .val (.int (6 : Int32)), .val (.int p3), .val (.int ((0 : Int32) + (1 : Int32)))] [(.int ((0 : Int32) + (1 : Int32))), (.ref b1)])
  refine Go.st (fun _ h => XS.iloadN X1.here hx rfl (hb hby d_method_4_code_38) rfl h) ?_
  show Go p e below _ T1 (mkF m 39 #[.val (.ref b1), .val (.int (6 : Int32)), .val (.int p3), .val (.int ((0 : Int32) + (1 : Int32)))] [(.int p3), (.int ((0 : Int32) + (1 : Int32))), (.ref b1)])
  refine Go.st (fun _ h => XT.iconstV X1.here hx rfl (2 : Int32) (hb hby d_method_4_code_39) (by decide) h) ?_
  show Go p e below _ T1 (mkF m 40 #[.val (.ref b1), .val (.int (6 : Int32)), .val (.int p3), .val (.int ((0 : Int32) + (1 : Int32)))] [(.int (2 : Int32)), (.int p3), (.int ((0 : Int32) + (1 : Int32))), (.ref b1)])
  refine Go.st (fun _ h => XS.iadd X1.here hx rfl (hb hby d_method_4_code_40) rfl h) ?_
  show Go p e below _ T1 (mkF m 41 #[.val (.ref b1), .val (.int (6 : Int32)), .val (.int p3), .val (.int ((0 : Int32) + (1 : Int32)))] [(.int (p3 + (2 : Int32))), (.int ((0 : Int32) + (1 : Int32))), (.ref b1)])
  obtain ⟨T2, h2, X2, e2, W2, V2, st2⟩ := own_stI X1 hx hZ e1 (j := ((0 : Int32) + (1 : Int32))) V1' (by decide) (by decide) 1 (by decide) (by simp) (g := (mkF m 41 #[.val (.ref b1), .val (.int (6 : Int32)), .val (.int p3), .val (.int ((0 : Int32) + (1 : Int32)))] [(.int (p3 + (2 : Int32))), (.int ((0 : Int32) + (1 : Int32))), (.ref b1)])) rfl rfl (hb hby d_method_4_code_41)
  have N2 := Fr.snoc X2 N1 g_b1
  have K2 := K1.wr W2 (Or.inl (List.mem_of_getElem? (i := 0) rfl))
  have V2' : Arv Z h2 b1 kb .int (2 : Int32) [(.int (p3 + (1 : Int32))), (.int (p3 + (2 : Int32)))] (.int (0 : Int32)) := V2
  refine Go.st st2 ?_
  show Go p e below _ T2 (mkF m 42 #[.val (.ref b1), .val (.int (6 : Int32)), .val (.int p3), .val (.int ((0 : Int32) + (1 : Int32)))] [])
  refine Go.st (fun _ h => XT.iincV X2.here hx rfl (1 : Int32) (hb hby d_method_4_code_42) (by decide) rfl (l' := #[.val (.ref b1), .val (.int (6 : Int32)), .val (.int p3), .val (.int (((0 : Int32) + (1 : Int32)) + (1 : Int32)))]) rfl h) ?_
  show Go p e below _ T2 (mkF m 45 #[.val (.ref b1), .val (.int (6 : Int32)), .val (.int p3), .val (.int (((0 : Int32) + (1 : Int32)) + (1 : Int32)))] [])
  refine Go.st (fun _ h => XS.iloadN X2.here hx rfl (hb hby d_method_4_code_45) rfl h) ?_
  show Go p e below _ T2 (mkF m 46 #[.val (.ref b1), .val (.int (6 : Int32)), .val (.int p3), .val (.int (((0 : Int32) + (1 : Int32)) + (1 : Int32)))] [(.int (6 : Int32))])
  refine Go.st (fun _ h => XT.bipushV X2.here hx rfl (8 : Int32) (hb hby d_method_4_code_46) (by decide) h) ?_
  show Go p e below _ T2 (mkF m 48 #[.val (.ref b1), .val (.int (6 : Int32)), .val (.int p3), .val (.int (((0 : Int32) + (1 : Int32)) + (1 : Int32)))] [(.int (8 : Int32)), (.int (6 : Int32))])
  refine Go.st (fun _ h => XS.iand X2.here hx rfl (hb hby d_method_4_code_48) rfl h) ?_
  show Go p e below _ T2 (mkF m 49 #[.val (.ref b1), .val (.int (6 : Int32)), .val (.int p3), .val (.int (((0 : Int32) + (1 : Int32)) + (1 : Int32)))] [(.int ((6 : Int32) &&& (8 : Int32)))])
  refine Go.st (fun _ h => XS.ifYes X2.here hx rfl (pc0 := 49) (pc' := 61) rfl (hb hby d_method_4_code_49) rfl (by decide) (by decide) (by decide) h) ?_
  show Go p e below _ T2 (mkF m 61 #[.val (.ref b1), .val (.int (6 : Int32)), .val (.int p3), .val (.int (((0 : Int32) + (1 : Int32)) + (1 : Int32)))] [])
  refine Go.retV X2 hx hlk hret (hb hby d_method_4_code_61) (by decide) (by decide) ?_
  rw [e2]
  refine ⟨rfl, N2, K2, ?_⟩
  show Arv Z _ b1 kb .int (2 : Int32) [own_pos p3 1, own_pos p3 2] (.int (0 : Int32))
  exact V2'
theorem ef_rmFill7 (x0 : Addr) (x1 : Int32) (x2 : Int32) (m : MethodId) : entryFrame m #[(.ref x0), (.int x1), (.int x2)] 4 = mkF m 0 #[.val (.ref x0), .val (.int x1), .val (.int x2), .unset] [] := by first | (simp [entryFrame, mkF, argsToLocals, Value.category]; done) | rfl
set_option maxRecDepth 65536 in
set_option maxHeartbeats 40000000 in
theorem rmFill7 (l : Launch) (Z : State) (a0 : Array Value) (hw : ∀ d ∈ tables_1, d.before a0 Z = true) (b1 : Addr) (kb : ClassId) (p3 : Int32) (h0 : Heap) (n0 : Nat) (Z0 : n0 ≤ h0.size) (B_1 : Arv Z h0 b1 kb .int (3 : Int32) [(.int (0 : Int32)), (.int (0 : Int32)), (.int (0 : Int32))] (.int (0 : Int32))) (g_b1 : n0 ≤ b1) :
    Does l Z (⟨"com/example/bindwell/bindwell/collect/ListChangeMovesFromPinLaw", "fill", "([III)V"⟩ : MethodName) method_4_code 4 none [] ({ frames := 0, cells := 0, slots := 0, locals := 0 } : Room) #[(.ref b1), (.int (7 : Int32)), (.int p3)] h0 (fun v h L => v = none ∧ Fr n0 L ∧ Keep h0 h [b1] ∧ Arv Z h b1 kb .int (Int32.ofNat (own_cnt 7)) ((own_bits 7).map (own_pos p3)) (.int (0 : Int32))) := by
  refine Does.intro (plainFor_of_name pn_com_example_bindwell_bindwell_collect_ListChangeMovesFromPinLaw) (ef_rmFill7 b1 (7 : Int32) p3) ?_
  intro p e s m below meth c s₁ hx hby hml hown hnm hret hlk hZ e0 X0
  show Go p e below _ s₁ (mkF m 0 #[.val (.ref b1), .val (.int (7 : Int32)), .val (.int p3), .unset] [])
  have N0 := Fr.nil n0
  refine Go.st (fun _ h => XT.iconstV X0.here hx rfl (0 : Int32) (hb hby d_method_4_code_0) (by decide) h) ?_
  show Go p e below _ s₁ (mkF m 1 #[.val (.ref b1), .val (.int (7 : Int32)), .val (.int p3), .unset] [(.int (0 : Int32))])
  refine Go.st (fun _ h => XS.istoreN X0.here hx rfl (hb hby d_method_4_code_1) rfl (l' := #[.val (.ref b1), .val (.int (7 : Int32)), .val (.int p3), .val (.int (0 : Int32))]) rfl h) ?_
  show Go p e below _ s₁ (mkF m 2 #[.val (.ref b1), .val (.int (7 : Int32)), .val (.int p3), .val (.int (0 : Int32))] [])
  refine Go.st (fun _ h => XS.iloadN X0.here hx rfl (hb hby d_method_4_code_2) rfl h) ?_
  show Go p e below _ s₁ (mkF m 3 #[.val (.ref b1), .val (.int (7 : Int32)), .val (.int p3), .val (.int (0 : Int32))] [(.int (7 : Int32))])
  refine Go.st (fun _ h => XT.iconstV X0.here hx rfl (1 : Int32) (hb hby d_method_4_code_3) (by decide) h) ?_
  show Go p e below _ s₁ (mkF m 4 #[.val (.ref b1), .val (.int (7 : Int32)), .val (.int p3), .val (.int (0 : Int32))] [(.int (1 : Int32)), (.int (7 : Int32))])
  refine Go.st (fun _ h => XS.iand X0.here hx rfl (hb hby d_method_4_code_4) rfl h) ?_
  show Go p e below _ s₁ (mkF m 5 #[.val (.ref b1), .val (.int (7 : Int32)), .val (.int p3), .val (.int (0 : Int32))] [(.int ((7 : Int32) &&& (1 : Int32)))])
  refine Go.st (fun _ h => XS.ifNo X0.here hx rfl (hb hby d_method_4_code_5) rfl (by decide) h) ?_
  show Go p e below _ s₁ (mkF m 8 #[.val (.ref b1), .val (.int (7 : Int32)), .val (.int p3), .val (.int (0 : Int32))] [])
  refine Go.st (fun _ h => XS.aloadN X0.here hx rfl (hb hby d_method_4_code_8) rfl rfl h) ?_
  show Go p e below _ s₁ (mkF m 9 #[.val (.ref b1), .val (.int (7 : Int32)), .val (.int p3), .val (.int (0 : Int32))] [(.ref b1)])
  refine Go.st (fun _ h => XS.iloadN X0.here hx rfl (hb hby d_method_4_code_9) rfl h) ?_
  show Go p e below _ s₁ (mkF m 10 #[.val (.ref b1), .val (.int (7 : Int32)), .val (.int p3), .val (.int (0 : Int32))] [(.int (0 : Int32)), (.ref b1)])
  refine Go.st (fun _ h => XS.iloadN X0.here hx rfl (hb hby d_method_4_code_10) rfl h) ?_
  show Go p e below _ s₁ (mkF m 11 #[.val (.ref b1), .val (.int (7 : Int32)), .val (.int p3), .val (.int (0 : Int32))] [(.int p3), (.int (0 : Int32)), (.ref b1)])
  obtain ⟨T1, h1, X1, e1, W1, V1, st1⟩ := own_stI X0 hx hZ e0 (j := (0 : Int32)) B_1 (by decide) (by decide) 0 (by decide) (by simp) (g := (mkF m 11 #[.val (.ref b1), .val (.int (7 : Int32)), .val (.int p3), .val (.int (0 : Int32))] [(.int p3), (.int (0 : Int32)), (.ref b1)])) rfl rfl (hb hby d_method_4_code_11)
  have N1 := Fr.snoc X1 N0 g_b1
  have K1 := (Keep.refl _ [b1]).wr W1 (Or.inl (List.mem_of_getElem? (i := 0) rfl))
  have V1' : Arv Z h1 b1 kb .int (3 : Int32) [(.int p3), (.int (0 : Int32)), (.int (0 : Int32))] (.int (0 : Int32)) := V1
  refine Go.st st1 ?_
  show Go p e below _ T1 (mkF m 12 #[.val (.ref b1), .val (.int (7 : Int32)), .val (.int p3), .val (.int (0 : Int32))] [])
  refine Go.st (fun _ h => XT.iincV X1.here hx rfl (1 : Int32) (hb hby d_method_4_code_12) (by decide) rfl (l' := #[.val (.ref b1), .val (.int (7 : Int32)), .val (.int p3), .val (.int ((0 : Int32) + (1 : Int32)))]) rfl h) ?_
  show Go p e below _ T1 (mkF m 15 #[.val (.ref b1), .val (.int (7 : Int32)), .val (.int p3), .val (.int ((0 : Int32) + (1 : Int32)))] [])
  refine Go.st (fun _ h => XS.iloadN X1.here hx rfl (hb hby d_method_4_code_15) rfl h) ?_
  show Go p e below _ T1 (mkF m 16 #[.val (.ref b1), .val (.int (7 : Int32)), .val (.int p3), .val (.int ((0 : Int32) + (1 : Int32)))] [(.int (7 : Int32))])
  refine Go.st (fun _ h => XT.iconstV X1.here hx rfl (2 : Int32) (hb hby d_method_4_code_16) (by decide) h) ?_
  show Go p e below _ T1 (mkF m 17 #[.val (.ref b1), .val (.int (7 : Int32)), .val (.int p3), .val (.int ((0 : Int32) + (1 : Int32)))] [(.int (2 : Int32)), (.int (7 : Int32))])
  refine Go.st (fun _ h => XS.iand X1.here hx rfl (hb hby d_method_4_code_17) rfl h) ?_
  show Go p e below _ T1 (mkF m 18 #[.val (.ref b1), .val (.int (7 : Int32)), .val (.int p3), .val (.int ((0 : Int32) + (1 : Int32)))] [(.int ((7 : Int32) &&& (2 : Int32)))])
  refine Go.st (fun _ h => XS.ifNo X1.here hx rfl (hb hby d_method_4_code_18) rfl (by decide) h) ?_
  show Go p e below _ T1 (mkF m 21 #[.val (.ref b1), .val (.int (7 : Int32)), .val (.int p3), .val (.int ((0 : Int32) + (1 : Int32)))] [])
  refine Go.st (fun _ h => XS.aloadN X1.here hx rfl (hb hby d_method_4_code_21) rfl rfl h) ?_
  show Go p e below _ T1 (mkF m 22 #[.val (.ref b1), .val (.int (7 : Int32)), .val (.int p3), .val (.int ((0 : Int32) + (1 : Int32)))] [(.ref b1)])
  refine Go.st (fun _ h => XS.iloadN X1.here hx rfl (hb hby d_method_4_code_22) rfl h) ?_
  show Go p e below _ T1 (mkF m 23 #[.val (.ref b1), .val (.int (7 : Int32)), .val (.int p3), .val (.int ((0 : Int32) + (1 : Int32)))] [(.int ((0 : Int32) + (1 : Int32))), (.ref b1)])
  refine Go.st (fun _ h => XS.iloadN X1.here hx rfl (hb hby d_method_4_code_23) rfl h) ?_
  show Go p e below _ T1 (mkF m 24 #[.val (.ref b1), .val (.int (7 : Int32)), .val (.int p3), .val (.int ((0 : Int32) + (1 : Int32)))] [(.int p3), (.int ((0 : Int32) + (1 : Int32))), (.ref b1)])
  refine Go.st (fun _ h => XT.iconstV X1.here hx rfl (1 : Int32) (hb hby d_method_4_code_24) (by decide) h) ?_
  show Go p e below _ T1 (mkF m 25 #[.val (.ref b1), .val (.int (7 : Int32)), .val (.int p3), .val (.int ((0 : Int32) + (1 : Int32)))] [(.int (1 : Int32)), (.int p3), (.int ((0 : Int32) + (1 : Int32))), (.ref b1)])
  refine Go.st (fun _ h => XS.iadd X1.here hx rfl (hb hby d_method_4_code_25) rfl h) ?_
  show Go p e below _ T1 (mkF m 26 #[.val (.ref b1), .val (.int (7 : Int32)), .val (.int p3), .val (.int ((0 : Int32) + (1 : Int32)))] [(.int (p3 + (1 : Int32))), (.int ((0 : Int32) + (1 : Int32))), (.ref b1)])
  obtain ⟨T2, h2, X2, e2, W2, V2, st2⟩ := own_stI X1 hx hZ e1 (j := ((0 : Int32) + (1 : Int32))) V1' (by decide) (by decide) 1 (by decide) (by simp) (g := (mkF m 26 #[.val (.ref b1), .val (.int (7 : Int32)), .val (.int p3), .val (.int ((0 : Int32) + (1 : Int32)))] [(.int (p3 + (1 : Int32))), (.int ((0 : Int32) + (1 : Int32))), (.ref b1)])) rfl rfl (hb hby d_method_4_code_26)
  have N2 := Fr.snoc X2 N1 g_b1
  have K2 := K1.wr W2 (Or.inl (List.mem_of_getElem? (i := 0) rfl))
  have V2' : Arv Z h2 b1 kb .int (3 : Int32) [(.int p3), (.int (p3 + (1 : Int32))), (.int (0 : Int32))] (.int (0 : Int32)) := V2
  refine Go.st st2 ?_
  show Go p e below _ T2 (mkF m 27 #[.val (.ref b1), .val (.int (7 : Int32)), .val (.int p3), .val (.int ((0 : Int32) + (1 : Int32)))] [])
  refine Go.st (fun _ h => XT.iincV X2.here hx rfl (1 : Int32) (hb hby d_method_4_code_27) (by decide) rfl (l' := #[.val (.ref b1), .val (.int (7 : Int32)), .val (.int p3), .val (.int (((0 : Int32) + (1 : Int32)) + (1 : Int32)))]) rfl h) ?_
  show Go p e below _ T2 (mkF m 30 #[.val (.ref b1), .val (.int (7 : Int32)), .val (.int p3), .val (.int (((0 : Int32) + (1 : Int32)) + (1 : Int32)))] [])
  refine Go.st (fun _ h => XS.iloadN X2.here hx rfl (hb hby d_method_4_code_30) rfl h) ?_
  show Go p e below _ T2 (mkF m 31 #[.val (.ref b1), .val (.int (7 : Int32)), .val (.int p3), .val (.int (((0 : Int32) + (1 : Int32)) + (1 : Int32)))] [(.int (7 : Int32))])
  refine Go.st (fun _ h => XT.iconstV X2.here hx rfl (4 : Int32) (hb hby d_method_4_code_31) (by decide) h) ?_
  show Go p e below _ T2 (mkF m 32 #[.val (.ref b1), .val (.int (7 : Int32)), .val (.int p3), .val (.int (((0 : Int32) + (1 : Int32)) + (1 : Int32)))] [(.int (4 : Int32)), (.int (7 : Int32))])
  refine Go.st (fun _ h => XS.iand X2.here hx rfl (hb hby d_method_4_code_32) rfl h) ?_
  show Go p e below _ T2 (mkF m 33 #[.val (.ref b1), .val (.int (7 : Int32)), .val (.int p3), .val (.int (((0 : Int32) + (1 : Int32)) + (1 : Int32)))] [(.int ((7 : Int32) &&& (4 : Int32)))])
  refine Go.st (fun _ h => XS.ifNo X2.here hx rfl (hb hby d_method_4_code_33) rfl (by decide) h) ?_
  show Go p e below _ T2 (mkF m 36 #[.val (.ref b1), .val (.int (7 : Int32)), .val (.int p3), .val (.int (((0 : Int32) + (1 : Int32)) + (1 : Int32)))] [])
  refine Go.st (fun _ h => XS.aloadN X2.here hx rfl (hb hby d_method_4_code_36) rfl rfl h) ?_
  show Go p e below _ T2 (mkF m 37 #[.val (.ref b1), .val (.int (7 : Int32)), .val (.int p3), .val (.int (((0 : Int32) + (1 : Int32)) + (1 : Int32)))] [(.ref b1)])
  refine Go.st (fun _ h => XS.iloadN X2.here hx rfl (hb hby d_method_4_code_37) rfl h) ?_
  show Go p e below _ T2 (mkF m 38 #[.val (.ref b1), .val (.int (7 : Int32)), .val (.int p3), .val (.int (((0 : Int32) + (1 : Int32)) + (1 : Int32)))] [(.int (((0 : Int32) + (1 : Int32)) + (1 : Int32))), (.ref b1)])
  refine Go.st (fun _ h => XS.iloadN X2.here hx rfl (hb hby d_method_4_code_38) rfl h) ?_
  show Go p e below _ T2 (mkF m 39 #[.val (.ref b1), .val (.int (7 : Int32)), .val (.int p3), .val (.int (((0 : Int32) + (1 : Int32)) + (1 : Int32)))] [(.int p3), (.int (((0 : Int32) + (1 : Int32)) + (1 : Int32))), (.ref b1)])
  refine Go.st (fun _ h => XT.iconstV X2.here hx rfl (2 : Int32) (hb hby d_method_4_code_39) (by decide) h) ?_
  show Go p e below _ T2 (mkF m 40 #[.val (.ref b1), .val (.int (7 : Int32)), .val (.int p3), .val (.int (((0 : Int32) + (1 : Int32)) + (1 : Int32)))] [(.int (2 : Int32)), (.int p3), (.int (((0 : Int32) + (1 : Int32)) + (1 : Int32))), (.ref b1)])
  refine Go.st (fun _ h => XS.iadd X2.here hx rfl (hb hby d_method_4_code_40) rfl h) ?_
  show Go p e below _ T2 (mkF m 41 #[.val (.ref b1), .val (.int (7 : Int32)), .val (.int p3), .val (.int (((0 : Int32) + (1 : Int32)) + (1 : Int32)))] [(.int (p3 + (2 : Int32))), (.int (((0 : Int32) + (1 : Int32)) + (1 : Int32))), (.ref b1)])
  obtain ⟨T3, h3, X3, e3, W3, V3, st3⟩ := own_stI X2 hx hZ e2 (j := (((0 : Int32) + (1 : Int32)) + (1 : Int32))) V2' (by decide) (by decide) 2 (by decide) (by simp) (g := (mkF m 41 #[.val (.ref b1), .val (.int (7 : Int32)), .val (.int p3), .val (.int (((0 : Int32) + (1 : Int32)) + (1 : Int32)))] [(.int (p3 + (2 : Int32))), (.int (((0 : Int32) + (1 : Int32)) + (1 : Int32))), (.ref b1)])) rfl rfl (hb hby d_method_4_code_41)
  have N3 := Fr.snoc X3 N2 g_b1
  have K3 := K2.wr W3 (Or.inl (List.mem_of_getElem? (i := 0) rfl))
  have V3' : Arv Z h3 b1 kb .int (3 : Int32) [(.int p3), (.int (p3 + (1 : Int32))), (.int (p3 + (2 : Int32)))] (.int (0 : Int32)) := V3
  refine Go.st st3 ?_
  show Go p e below _ T3 (mkF m 42 #[.val (.ref b1), .val (.int (7 : Int32)), .val (.int p3), .val (.int (((0 : Int32) + (1 : Int32)) + (1 : Int32)))] [])
  refine Go.st (fun _ h => XT.iincV X3.here hx rfl (1 : Int32) (hb hby d_method_4_code_42) (by decide) rfl (l' := #[.val (.ref b1), .val (.int (7 : Int32)), .val (.int p3), .val (.int ((((0 : Int32) + (1 : Int32)) + (1 : Int32)) + (1 : Int32)))]) rfl h) ?_
  show Go p e below _ T3 (mkF m 45 #[.val (.ref b1), .val (.int (7 : Int32)), .val (.int p3), .val (.int ((((0 : Int32) + (1 : Int32)) + (1 : Int32)) + (1 : Int32)))] [])
  refine Go.st (fun _ h => XS.iloadN X3.here hx rfl (hb hby d_method_4_code_45) rfl h) ?_
  show Go p e below _ T3 (mkF m 46 #[.val (.ref b1), .val (.int (7 : Int32)), .val (.int p3), .val (.int ((((0 : Int32) + (1 : Int32)) + (1 : Int32)) + (1 : Int32)))] [(.int (7 : Int32))])
  refine Go.st (fun _ h => XT.bipushV X3.here hx rfl (8 : Int32) (hb hby d_method_4_code_46) (by decide) h) ?_
  show Go p e below _ T3 (mkF m 48 #[.val (.ref b1), .val (.int (7 : Int32)), .val (.int p3), .val (.int ((((0 : Int32) + (1 : Int32)) + (1 : Int32)) + (1 : Int32)))] [(.int (8 : Int32)), (.int (7 : Int32))])
  refine Go.st (fun _ h => XS.iand X3.here hx rfl (hb hby d_method_4_code_48) rfl h) ?_
  show Go p e below _ T3 (mkF m 49 #[.val (.ref b1), .val (.int (7 : Int32)), .val (.int p3), .val (.int ((((0 : Int32) + (1 : Int32)) + (1 : Int32)) + (1 : Int32)))] [(.int ((7 : Int32) &&& (8 : Int32)))])
  refine Go.st (fun _ h => XS.ifYes X3.here hx rfl (pc0 := 49) (pc' := 61) rfl (hb hby d_method_4_code_49) rfl (by decide) (by decide) (by decide) h) ?_
  show Go p e below _ T3 (mkF m 61 #[.val (.ref b1), .val (.int (7 : Int32)), .val (.int p3), .val (.int ((((0 : Int32) + (1 : Int32)) + (1 : Int32)) + (1 : Int32)))] [])
  refine Go.retV X3 hx hlk hret (hb hby d_method_4_code_61) (by decide) (by decide) ?_
  rw [e3]
  refine ⟨rfl, N3, K3, ?_⟩
  show Arv Z _ b1 kb .int (3 : Int32) [own_pos p3 0, own_pos p3 1, own_pos p3 2] (.int (0 : Int32))
  rw [own_pos0]
  exact V3'
theorem ef_rmFill8 (x0 : Addr) (x1 : Int32) (x2 : Int32) (m : MethodId) : entryFrame m #[(.ref x0), (.int x1), (.int x2)] 4 = mkF m 0 #[.val (.ref x0), .val (.int x1), .val (.int x2), .unset] [] := by first | (simp [entryFrame, mkF, argsToLocals, Value.category]; done) | rfl
set_option maxRecDepth 65536 in
set_option maxHeartbeats 40000000 in
theorem rmFill8 (l : Launch) (Z : State) (a0 : Array Value) (hw : ∀ d ∈ tables_1, d.before a0 Z = true) (b1 : Addr) (kb : ClassId) (p3 : Int32) (h0 : Heap) (n0 : Nat) (Z0 : n0 ≤ h0.size) (B_1 : Arv Z h0 b1 kb .int (1 : Int32) [(.int (0 : Int32))] (.int (0 : Int32))) (g_b1 : n0 ≤ b1) :
    Does l Z (⟨"com/example/bindwell/bindwell/collect/ListChangeMovesFromPinLaw", "fill", "([III)V"⟩ : MethodName) method_4_code 4 none [] ({ frames := 0, cells := 0, slots := 0, locals := 0 } : Room) #[(.ref b1), (.int (8 : Int32)), (.int p3)] h0 (fun v h L => v = none ∧ Fr n0 L ∧ Keep h0 h [b1] ∧ Arv Z h b1 kb .int (Int32.ofNat (own_cnt 8)) ((own_bits 8).map (own_pos p3)) (.int (0 : Int32))) := by
  refine Does.intro (plainFor_of_name pn_com_example_bindwell_bindwell_collect_ListChangeMovesFromPinLaw) (ef_rmFill8 b1 (8 : Int32) p3) ?_
  intro p e s m below meth c s₁ hx hby hml hown hnm hret hlk hZ e0 X0
  show Go p e below _ s₁ (mkF m 0 #[.val (.ref b1), .val (.int (8 : Int32)), .val (.int p3), .unset] [])
  have N0 := Fr.nil n0
  refine Go.st (fun _ h => XT.iconstV X0.here hx rfl (0 : Int32) (hb hby d_method_4_code_0) (by decide) h) ?_
  show Go p e below _ s₁ (mkF m 1 #[.val (.ref b1), .val (.int (8 : Int32)), .val (.int p3), .unset] [(.int (0 : Int32))])
  refine Go.st (fun _ h => XS.istoreN X0.here hx rfl (hb hby d_method_4_code_1) rfl (l' := #[.val (.ref b1), .val (.int (8 : Int32)), .val (.int p3), .val (.int (0 : Int32))]) rfl h) ?_
  show Go p e below _ s₁ (mkF m 2 #[.val (.ref b1), .val (.int (8 : Int32)), .val (.int p3), .val (.int (0 : Int32))] [])
  refine Go.st (fun _ h => XS.iloadN X0.here hx rfl (hb hby d_method_4_code_2) rfl h) ?_
  show Go p e below _ s₁ (mkF m 3 #[.val (.ref b1), .val (.int (8 : Int32)), .val (.int p3), .val (.int (0 : Int32))] [(.int (8 : Int32))])
  refine Go.st (fun _ h => XT.iconstV X0.here hx rfl (1 : Int32) (hb hby d_method_4_code_3) (by decide) h) ?_
  show Go p e below _ s₁ (mkF m 4 #[.val (.ref b1), .val (.int (8 : Int32)), .val (.int p3), .val (.int (0 : Int32))] [(.int (1 : Int32)), (.int (8 : Int32))])
  refine Go.st (fun _ h => XS.iand X0.here hx rfl (hb hby d_method_4_code_4) rfl h) ?_
  show Go p e below _ s₁ (mkF m 5 #[.val (.ref b1), .val (.int (8 : Int32)), .val (.int p3), .val (.int (0 : Int32))] [(.int ((8 : Int32) &&& (1 : Int32)))])
  refine Go.st (fun _ h => XS.ifYes X0.here hx rfl (pc0 := 5) (pc' := 15) rfl (hb hby d_method_4_code_5) rfl (by decide) (by decide) (by decide) h) ?_
  show Go p e below _ s₁ (mkF m 15 #[.val (.ref b1), .val (.int (8 : Int32)), .val (.int p3), .val (.int (0 : Int32))] [])
  refine Go.st (fun _ h => XS.iloadN X0.here hx rfl (hb hby d_method_4_code_15) rfl h) ?_
  show Go p e below _ s₁ (mkF m 16 #[.val (.ref b1), .val (.int (8 : Int32)), .val (.int p3), .val (.int (0 : Int32))] [(.int (8 : Int32))])
  refine Go.st (fun _ h => XT.iconstV X0.here hx rfl (2 : Int32) (hb hby d_method_4_code_16) (by decide) h) ?_
  show Go p e below _ s₁ (mkF m 17 #[.val (.ref b1), .val (.int (8 : Int32)), .val (.int p3), .val (.int (0 : Int32))] [(.int (2 : Int32)), (.int (8 : Int32))])
  refine Go.st (fun _ h => XS.iand X0.here hx rfl (hb hby d_method_4_code_17) rfl h) ?_
  show Go p e below _ s₁ (mkF m 18 #[.val (.ref b1), .val (.int (8 : Int32)), .val (.int p3), .val (.int (0 : Int32))] [(.int ((8 : Int32) &&& (2 : Int32)))])
  refine Go.st (fun _ h => XS.ifYes X0.here hx rfl (pc0 := 18) (pc' := 30) rfl (hb hby d_method_4_code_18) rfl (by decide) (by decide) (by decide) h) ?_
  show Go p e below _ s₁ (mkF m 30 #[.val (.ref b1), .val (.int (8 : Int32)), .val (.int p3), .val (.int (0 : Int32))] [])
  refine Go.st (fun _ h => XS.iloadN X0.here hx rfl (hb hby d_method_4_code_30) rfl h) ?_
  show Go p e below _ s₁ (mkF m 31 #[.val (.ref b1), .val (.int (8 : Int32)), .val (.int p3), .val (.int (0 : Int32))] [(.int (8 : Int32))])
  refine Go.st (fun _ h => XT.iconstV X0.here hx rfl (4 : Int32) (hb hby d_method_4_code_31) (by decide) h) ?_
  show Go p e below _ s₁ (mkF m 32 #[.val (.ref b1), .val (.int (8 : Int32)), .val (.int p3), .val (.int (0 : Int32))] [(.int (4 : Int32)), (.int (8 : Int32))])
  refine Go.st (fun _ h => XS.iand X0.here hx rfl (hb hby d_method_4_code_32) rfl h) ?_
  show Go p e below _ s₁ (mkF m 33 #[.val (.ref b1), .val (.int (8 : Int32)), .val (.int p3), .val (.int (0 : Int32))] [(.int ((8 : Int32) &&& (4 : Int32)))])
  refine Go.st (fun _ h => XS.ifYes X0.here hx rfl (pc0 := 33) (pc' := 45) rfl (hb hby d_method_4_code_33) rfl (by decide) (by decide) (by decide) h) ?_
  show Go p e below _ s₁ (mkF m 45 #[.val (.ref b1), .val (.int (8 : Int32)), .val (.int p3), .val (.int (0 : Int32))] [])
  refine Go.st (fun _ h => XS.iloadN X0.here hx rfl (hb hby d_method_4_code_45) rfl h) ?_
  show Go p e below _ s₁ (mkF m 46 #[.val (.ref b1), .val (.int (8 : Int32)), .val (.int p3), .val (.int (0 : Int32))] [(.int (8 : Int32))])
  refine Go.st (fun _ h => XT.bipushV X0.here hx rfl (8 : Int32) (hb hby d_method_4_code_46) (by decide) h) ?_
  show Go p e below _ s₁ (mkF m 48 #[.val (.ref b1), .val (.int (8 : Int32)), .val (.int p3), .val (.int (0 : Int32))] [(.int (8 : Int32)), (.int (8 : Int32))])
  refine Go.st (fun _ h => XS.iand X0.here hx rfl (hb hby d_method_4_code_48) rfl h) ?_
  show Go p e below _ s₁ (mkF m 49 #[.val (.ref b1), .val (.int (8 : Int32)), .val (.int p3), .val (.int (0 : Int32))] [(.int ((8 : Int32) &&& (8 : Int32)))])
  refine Go.st (fun _ h => XS.ifNo X0.here hx rfl (hb hby d_method_4_code_49) rfl (by decide) h) ?_
  show Go p e below _ s₁ (mkF m 52 #[.val (.ref b1), .val (.int (8 : Int32)), .val (.int p3), .val (.int (0 : Int32))] [])
  refine Go.st (fun _ h => XS.aloadN X0.here hx rfl (hb hby d_method_4_code_52) rfl rfl h) ?_
  show Go p e below _ s₁ (mkF m 53 #[.val (.ref b1), .val (.int (8 : Int32)), .val (.int p3), .val (.int (0 : Int32))] [(.ref b1)])
  refine Go.st (fun _ h => XS.iloadN X0.here hx rfl (hb hby d_method_4_code_53) rfl h) ?_
  show Go p e below _ s₁ (mkF m 54 #[.val (.ref b1), .val (.int (8 : Int32)), .val (.int p3), .val (.int (0 : Int32))] [(.int (0 : Int32)), (.ref b1)])
  refine Go.st (fun _ h => XS.iloadN X0.here hx rfl (hb hby d_method_4_code_54) rfl h) ?_
  show Go p e below _ s₁ (mkF m 55 #[.val (.ref b1), .val (.int (8 : Int32)), .val (.int p3), .val (.int (0 : Int32))] [(.int p3), (.int (0 : Int32)), (.ref b1)])
  refine Go.st (fun _ h => XT.iconstV X0.here hx rfl (3 : Int32) (hb hby d_method_4_code_55) (by decide) h) ?_
  show Go p e below _ s₁ (mkF m 56 #[.val (.ref b1), .val (.int (8 : Int32)), .val (.int p3), .val (.int (0 : Int32))] [(.int (3 : Int32)), (.int p3), (.int (0 : Int32)), (.ref b1)])
  refine Go.st (fun _ h => XS.iadd X0.here hx rfl (hb hby d_method_4_code_56) rfl h) ?_
  show Go p e below _ s₁ (mkF m 57 #[.val (.ref b1), .val (.int (8 : Int32)), .val (.int p3), .val (.int (0 : Int32))] [(.int (p3 + (3 : Int32))), (.int (0 : Int32)), (.ref b1)])
  obtain ⟨T1, h1, X1, e1, W1, V1, st1⟩ := own_stI X0 hx hZ e0 (j := (0 : Int32)) B_1 (by decide) (by decide) 0 (by decide) (by simp) (g := (mkF m 57 #[.val (.ref b1), .val (.int (8 : Int32)), .val (.int p3), .val (.int (0 : Int32))] [(.int (p3 + (3 : Int32))), (.int (0 : Int32)), (.ref b1)])) rfl rfl (hb hby d_method_4_code_57)
  have N1 := Fr.snoc X1 N0 g_b1
  have K1 := (Keep.refl _ [b1]).wr W1 (Or.inl (List.mem_of_getElem? (i := 0) rfl))
  have V1' : Arv Z h1 b1 kb .int (1 : Int32) [(.int (p3 + (3 : Int32)))] (.int (0 : Int32)) := V1
  refine Go.st st1 ?_
  show Go p e below _ T1 (mkF m 58 #[.val (.ref b1), .val (.int (8 : Int32)), .val (.int p3), .val (.int (0 : Int32))] [])
  refine Go.st (fun _ h => XT.iincV X1.here hx rfl (1 : Int32) (hb hby d_method_4_code_58) (by decide) rfl (l' := #[.val (.ref b1), .val (.int (8 : Int32)), .val (.int p3), .val (.int ((0 : Int32) + (1 : Int32)))]) rfl h) ?_
  show Go p e below _ T1 (mkF m 61 #[.val (.ref b1), .val (.int (8 : Int32)), .val (.int p3), .val (.int ((0 : Int32) + (1 : Int32)))] [])
  refine Go.retV X1 hx hlk hret (hb hby d_method_4_code_61) (by decide) (by decide) ?_
  rw [e1]
  refine ⟨rfl, N1, K1, ?_⟩
  show Arv Z _ b1 kb .int (1 : Int32) [own_pos p3 3] (.int (0 : Int32))
  exact V1'
theorem ef_rmFill9 (x0 : Addr) (x1 : Int32) (x2 : Int32) (m : MethodId) : entryFrame m #[(.ref x0), (.int x1), (.int x2)] 4 = mkF m 0 #[.val (.ref x0), .val (.int x1), .val (.int x2), .unset] [] := by first | (simp [entryFrame, mkF, argsToLocals, Value.category]; done) | rfl
set_option maxRecDepth 65536 in
set_option maxHeartbeats 40000000 in
theorem rmFill9 (l : Launch) (Z : State) (a0 : Array Value) (hw : ∀ d ∈ tables_1, d.before a0 Z = true) (b1 : Addr) (kb : ClassId) (p3 : Int32) (h0 : Heap) (n0 : Nat) (Z0 : n0 ≤ h0.size) (B_1 : Arv Z h0 b1 kb .int (2 : Int32) [(.int (0 : Int32)), (.int (0 : Int32))] (.int (0 : Int32))) (g_b1 : n0 ≤ b1) :
    Does l Z (⟨"com/example/bindwell/bindwell/collect/ListChangeMovesFromPinLaw", "fill", "([III)V"⟩ : MethodName) method_4_code 4 none [] ({ frames := 0, cells := 0, slots := 0, locals := 0 } : Room) #[(.ref b1), (.int (9 : Int32)), (.int p3)] h0 (fun v h L => v = none ∧ Fr n0 L ∧ Keep h0 h [b1] ∧ Arv Z h b1 kb .int (Int32.ofNat (own_cnt 9)) ((own_bits 9).map (own_pos p3)) (.int (0 : Int32))) := by
  refine Does.intro (plainFor_of_name pn_com_example_bindwell_bindwell_collect_ListChangeMovesFromPinLaw) (ef_rmFill9 b1 (9 : Int32) p3) ?_
  intro p e s m below meth c s₁ hx hby hml hown hnm hret hlk hZ e0 X0
  show Go p e below _ s₁ (mkF m 0 #[.val (.ref b1), .val (.int (9 : Int32)), .val (.int p3), .unset] [])
  have N0 := Fr.nil n0
  refine Go.st (fun _ h => XT.iconstV X0.here hx rfl (0 : Int32) (hb hby d_method_4_code_0) (by decide) h) ?_
  show Go p e below _ s₁ (mkF m 1 #[.val (.ref b1), .val (.int (9 : Int32)), .val (.int p3), .unset] [(.int (0 : Int32))])
  refine Go.st (fun _ h => XS.istoreN X0.here hx rfl (hb hby d_method_4_code_1) rfl (l' := #[.val (.ref b1), .val (.int (9 : Int32)), .val (.int p3), .val (.int (0 : Int32))]) rfl h) ?_
  show Go p e below _ s₁ (mkF m 2 #[.val (.ref b1), .val (.int (9 : Int32)), .val (.int p3), .val (.int (0 : Int32))] [])
  refine Go.st (fun _ h => XS.iloadN X0.here hx rfl (hb hby d_method_4_code_2) rfl h) ?_
  show Go p e below _ s₁ (mkF m 3 #[.val (.ref b1), .val (.int (9 : Int32)), .val (.int p3), .val (.int (0 : Int32))] [(.int (9 : Int32))])
  refine Go.st (fun _ h => XT.iconstV X0.here hx rfl (1 : Int32) (hb hby d_method_4_code_3) (by decide) h) ?_
  show Go p e below _ s₁ (mkF m 4 #[.val (.ref b1), .val (.int (9 : Int32)), .val (.int p3), .val (.int (0 : Int32))] [(.int (1 : Int32)), (.int (9 : Int32))])
  refine Go.st (fun _ h => XS.iand X0.here hx rfl (hb hby d_method_4_code_4) rfl h) ?_
  show Go p e below _ s₁ (mkF m 5 #[.val (.ref b1), .val (.int (9 : Int32)), .val (.int p3), .val (.int (0 : Int32))] [(.int ((9 : Int32) &&& (1 : Int32)))])
  refine Go.st (fun _ h => XS.ifNo X0.here hx rfl (hb hby d_method_4_code_5) rfl (by decide) h) ?_
  show Go p e below _ s₁ (mkF m 8 #[.val (.ref b1), .val (.int (9 : Int32)), .val (.int p3), .val (.int (0 : Int32))] [])
  refine Go.st (fun _ h => XS.aloadN X0.here hx rfl (hb hby d_method_4_code_8) rfl rfl h) ?_
  show Go p e below _ s₁ (mkF m 9 #[.val (.ref b1), .val (.int (9 : Int32)), .val (.int p3), .val (.int (0 : Int32))] [(.ref b1)])
  refine Go.st (fun _ h => XS.iloadN X0.here hx rfl (hb hby d_method_4_code_9) rfl h) ?_
  show Go p e below _ s₁ (mkF m 10 #[.val (.ref b1), .val (.int (9 : Int32)), .val (.int p3), .val (.int (0 : Int32))] [(.int (0 : Int32)), (.ref b1)])
  refine Go.st (fun _ h => XS.iloadN X0.here hx rfl (hb hby d_method_4_code_10) rfl h) ?_
  show Go p e below _ s₁ (mkF m 11 #[.val (.ref b1), .val (.int (9 : Int32)), .val (.int p3), .val (.int (0 : Int32))] [(.int p3), (.int (0 : Int32)), (.ref b1)])
  obtain ⟨T1, h1, X1, e1, W1, V1, st1⟩ := own_stI X0 hx hZ e0 (j := (0 : Int32)) B_1 (by decide) (by decide) 0 (by decide) (by simp) (g := (mkF m 11 #[.val (.ref b1), .val (.int (9 : Int32)), .val (.int p3), .val (.int (0 : Int32))] [(.int p3), (.int (0 : Int32)), (.ref b1)])) rfl rfl (hb hby d_method_4_code_11)
  have N1 := Fr.snoc X1 N0 g_b1
  have K1 := (Keep.refl _ [b1]).wr W1 (Or.inl (List.mem_of_getElem? (i := 0) rfl))
  have V1' : Arv Z h1 b1 kb .int (2 : Int32) [(.int p3), (.int (0 : Int32))] (.int (0 : Int32)) := V1
  refine Go.st st1 ?_
  show Go p e below _ T1 (mkF m 12 #[.val (.ref b1), .val (.int (9 : Int32)), .val (.int p3), .val (.int (0 : Int32))] [])
  refine Go.st (fun _ h => XT.iincV X1.here hx rfl (1 : Int32) (hb hby d_method_4_code_12) (by decide) rfl (l' := #[.val (.ref b1), .val (.int (9 : Int32)), .val (.int p3), .val (.int ((0 : Int32) + (1 : Int32)))]) rfl h) ?_
  show Go p e below _ T1 (mkF m 15 #[.val (.ref b1), .val (.int (9 : Int32)), .val (.int p3), .val (.int ((0 : Int32) + (1 : Int32)))] [])
  refine Go.st (fun _ h => XS.iloadN X1.here hx rfl (hb hby d_method_4_code_15) rfl h) ?_
  show Go p e below _ T1 (mkF m 16 #[.val (.ref b1), .val (.int (9 : Int32)), .val (.int p3), .val (.int ((0 : Int32) + (1 : Int32)))] [(.int (9 : Int32))])
  refine Go.st (fun _ h => XT.iconstV X1.here hx rfl (2 : Int32) (hb hby d_method_4_code_16) (by decide) h) ?_
  show Go p e below _ T1 (mkF m 17 #[.val (.ref b1), .val (.int (9 : Int32)), .val (.int p3), .val (.int ((0 : Int32) + (1 : Int32)))] [(.int (2 : Int32)), (.int (9 : Int32))])
  refine Go.st (fun _ h => XS.iand X1.here hx rfl (hb hby d_method_4_code_17) rfl h) ?_
  show Go p e below _ T1 (mkF m 18 #[.val (.ref b1), .val (.int (9 : Int32)), .val (.int p3), .val (.int ((0 : Int32) + (1 : Int32)))] [(.int ((9 : Int32) &&& (2 : Int32)))])
  refine Go.st (fun _ h => XS.ifYes X1.here hx rfl (pc0 := 18) (pc' := 30) rfl (hb hby d_method_4_code_18) rfl (by decide) (by decide) (by decide) h) ?_
  show Go p e below _ T1 (mkF m 30 #[.val (.ref b1), .val (.int (9 : Int32)), .val (.int p3), .val (.int ((0 : Int32) + (1 : Int32)))] [])
  refine Go.st (fun _ h => XS.iloadN X1.here hx rfl (hb hby d_method_4_code_30) rfl h) ?_
  show Go p e below _ T1 (mkF m 31 #[.val (.ref b1), .val (.int (9 : Int32)), .val (.int p3), .val (.int ((0 : Int32) + (1 : Int32)))] [(.int (9 : Int32))])
  refine Go.st (fun _ h => XT.iconstV X1.here hx rfl (4 : Int32) (hb hby d_method_4_code_31) (by decide) h) ?_
  show Go p e below _ T1 (mkF m 32 #[.val (.ref b1), .val (.int (9 : Int32)), .val (.int p3), .val (.int ((0 : Int32) + (1 : Int32)))] [(.int (4 : Int32)), (.int (9 : Int32))])
  refine Go.st (fun _ h => XS.iand X1.here hx rfl (hb hby d_method_4_code_32) rfl h) ?_
  show Go p e below _ T1 (mkF m 33 #[.val (.ref b1), .val (.int (9 : Int32)), .val (.int p3), .val (.int ((0 : Int32) + (1 : Int32)))] [(.int ((9 : Int32) &&& (4 : Int32)))])
  refine Go.st (fun _ h => XS.ifYes X1.here hx rfl (pc0 := 33) (pc' := 45) rfl (hb hby d_method_4_code_33) rfl (by decide) (by decide) (by decide) h) ?_
  show Go p e below _ T1 (mkF m 45 #[.val (.ref b1), .val (.int (9 : Int32)), .val (.int p3), .val (.int ((0 : Int32) + (1 : Int32)))] [])
  refine Go.st (fun _ h => XS.iloadN X1.here hx rfl (hb hby d_method_4_code_45) rfl h) ?_
  show Go p e below _ T1 (mkF m 46 #[.val (.ref b1), .val (.int (9 : Int32)), .val (.int p3), .val (.int ((0 : Int32) + (1 : Int32)))] [(.int (9 : Int32))])
  refine Go.st (fun _ h => XT.bipushV X1.here hx rfl (8 : Int32) (hb hby d_method_4_code_46) (by decide) h) ?_
  show Go p e below _ T1 (mkF m 48 #[.val (.ref b1), .val (.int (9 : Int32)), .val (.int p3), .val (.int ((0 : Int32) + (1 : Int32)))] [(.int (8 : Int32)), (.int (9 : Int32))])
  refine Go.st (fun _ h => XS.iand X1.here hx rfl (hb hby d_method_4_code_48) rfl h) ?_
  show Go p e below _ T1 (mkF m 49 #[.val (.ref b1), .val (.int (9 : Int32)), .val (.int p3), .val (.int ((0 : Int32) + (1 : Int32)))] [(.int ((9 : Int32) &&& (8 : Int32)))])
  refine Go.st (fun _ h => XS.ifNo X1.here hx rfl (hb hby d_method_4_code_49) rfl (by decide) h) ?_
  show Go p e below _ T1 (mkF m 52 #[.val (.ref b1), .val (.int (9 : Int32)), .val (.int p3), .val (.int ((0 : Int32) + (1 : Int32)))] [])
  refine Go.st (fun _ h => XS.aloadN X1.here hx rfl (hb hby d_method_4_code_52) rfl rfl h) ?_
  show Go p e below _ T1 (mkF m 53 #[.val (.ref b1), .val (.int (9 : Int32)), .val (.int p3), .val (.int ((0 : Int32) + (1 : Int32)))] [(.ref b1)])
  refine Go.st (fun _ h => XS.iloadN X1.here hx rfl (hb hby d_method_4_code_53) rfl h) ?_
  show Go p e below _ T1 (mkF m 54 #[.val (.ref b1), .val (.int (9 : Int32)), .val (.int p3), .val (.int ((0 : Int32) + (1 : Int32)))] [(.int ((0 : Int32) + (1 : Int32))), (.ref b1)])
  refine Go.st (fun _ h => XS.iloadN X1.here hx rfl (hb hby d_method_4_code_54) rfl h) ?_
  show Go p e below _ T1 (mkF m 55 #[.val (.ref b1), .val (.int (9 : Int32)), .val (.int p3), .val (.int ((0 : Int32) + (1 : Int32)))] [(.int p3), (.int ((0 : Int32) + (1 : Int32))), (.ref b1)])
  refine Go.st (fun _ h => XT.iconstV X1.here hx rfl (3 : Int32) (hb hby d_method_4_code_55) (by decide) h) ?_
  show Go p e below _ T1 (mkF m 56 #[.val (.ref b1), .val (.int (9 : Int32)), .val (.int p3), .val (.int ((0 : Int32) + (1 : Int32)))] [(.int (3 : Int32)), (.int p3), (.int ((0 : Int32) + (1 : Int32))), (.ref b1)])
  refine Go.st (fun _ h => XS.iadd X1.here hx rfl (hb hby d_method_4_code_56) rfl h) ?_
  show Go p e below _ T1 (mkF m 57 #[.val (.ref b1), .val (.int (9 : Int32)), .val (.int p3), .val (.int ((0 : Int32) + (1 : Int32)))] [(.int (p3 + (3 : Int32))), (.int ((0 : Int32) + (1 : Int32))), (.ref b1)])
  obtain ⟨T2, h2, X2, e2, W2, V2, st2⟩ := own_stI X1 hx hZ e1 (j := ((0 : Int32) + (1 : Int32))) V1' (by decide) (by decide) 1 (by decide) (by simp) (g := (mkF m 57 #[.val (.ref b1), .val (.int (9 : Int32)), .val (.int p3), .val (.int ((0 : Int32) + (1 : Int32)))] [(.int (p3 + (3 : Int32))), (.int ((0 : Int32) + (1 : Int32))), (.ref b1)])) rfl rfl (hb hby d_method_4_code_57)
  have N2 := Fr.snoc X2 N1 g_b1
  have K2 := K1.wr W2 (Or.inl (List.mem_of_getElem? (i := 0) rfl))
  have V2' : Arv Z h2 b1 kb .int (2 : Int32) [(.int p3), (.int (p3 + (3 : Int32)))] (.int (0 : Int32)) := V2
  refine Go.st st2 ?_
  show Go p e below _ T2 (mkF m 58 #[.val (.ref b1), .val (.int (9 : Int32)), .val (.int p3), .val (.int ((0 : Int32) + (1 : Int32)))] [])
  refine Go.st (fun _ h => XT.iincV X2.here hx rfl (1 : Int32) (hb hby d_method_4_code_58) (by decide) rfl (l' := #[.val (.ref b1), .val (.int (9 : Int32)), .val (.int p3), .val (.int (((0 : Int32) + (1 : Int32)) + (1 : Int32)))]) rfl h) ?_
  show Go p e below _ T2 (mkF m 61 #[.val (.ref b1), .val (.int (9 : Int32)), .val (.int p3), .val (.int (((0 : Int32) + (1 : Int32)) + (1 : Int32)))] [])
  refine Go.retV X2 hx hlk hret (hb hby d_method_4_code_61) (by decide) (by decide) ?_
  rw [e2]
  refine ⟨rfl, N2, K2, ?_⟩
  show Arv Z _ b1 kb .int (2 : Int32) [own_pos p3 0, own_pos p3 3] (.int (0 : Int32))
  rw [own_pos0]
  exact V2'
theorem ef_rmFill10 (x0 : Addr) (x1 : Int32) (x2 : Int32) (m : MethodId) : entryFrame m #[(.ref x0), (.int x1), (.int x2)] 4 = mkF m 0 #[.val (.ref x0), .val (.int x1), .val (.int x2), .unset] [] := by first | (simp [entryFrame, mkF, argsToLocals, Value.category]; done) | rfl
set_option maxRecDepth 65536 in
set_option maxHeartbeats 40000000 in
theorem rmFill10 (l : Launch) (Z : State) (a0 : Array Value) (hw : ∀ d ∈ tables_1, d.before a0 Z = true) (b1 : Addr) (kb : ClassId) (p3 : Int32) (h0 : Heap) (n0 : Nat) (Z0 : n0 ≤ h0.size) (B_1 : Arv Z h0 b1 kb .int (2 : Int32) [(.int (0 : Int32)), (.int (0 : Int32))] (.int (0 : Int32))) (g_b1 : n0 ≤ b1) :
    Does l Z (⟨"com/example/bindwell/bindwell/collect/ListChangeMovesFromPinLaw", "fill", "([III)V"⟩ : MethodName) method_4_code 4 none [] ({ frames := 0, cells := 0, slots := 0, locals := 0 } : Room) #[(.ref b1), (.int (10 : Int32)), (.int p3)] h0 (fun v h L => v = none ∧ Fr n0 L ∧ Keep h0 h [b1] ∧ Arv Z h b1 kb .int (Int32.ofNat (own_cnt 10)) ((own_bits 10).map (own_pos p3)) (.int (0 : Int32))) := by
  refine Does.intro (plainFor_of_name pn_com_example_bindwell_bindwell_collect_ListChangeMovesFromPinLaw) (ef_rmFill10 b1 (10 : Int32) p3) ?_
  intro p e s m below meth c s₁ hx hby hml hown hnm hret hlk hZ e0 X0
  show Go p e below _ s₁ (mkF m 0 #[.val (.ref b1), .val (.int (10 : Int32)), .val (.int p3), .unset] [])
  have N0 := Fr.nil n0
  refine Go.st (fun _ h => XT.iconstV X0.here hx rfl (0 : Int32) (hb hby d_method_4_code_0) (by decide) h) ?_
  show Go p e below _ s₁ (mkF m 1 #[.val (.ref b1), .val (.int (10 : Int32)), .val (.int p3), .unset] [(.int (0 : Int32))])
  refine Go.st (fun _ h => XS.istoreN X0.here hx rfl (hb hby d_method_4_code_1) rfl (l' := #[.val (.ref b1), .val (.int (10 : Int32)), .val (.int p3), .val (.int (0 : Int32))]) rfl h) ?_
  show Go p e below _ s₁ (mkF m 2 #[.val (.ref b1), .val (.int (10 : Int32)), .val (.int p3), .val (.int (0 : Int32))] [])
  refine Go.st (fun _ h => XS.iloadN X0.here hx rfl (hb hby d_method_4_code_2) rfl h) ?_
  show Go p e below _ s₁ (mkF m 3 #[.val (.ref b1), .val (.int (10 : Int32)), .val (.int p3), .val (.int (0 : Int32))] [(.int (10 : Int32))])
  refine Go.st (fun _ h => XT.iconstV X0.here hx rfl (1 : Int32) (hb hby d_method_4_code_3) (by decide) h) ?_
  show Go p e below _ s₁ (mkF m 4 #[.val (.ref b1), .val (.int (10 : Int32)), .val (.int p3), .val (.int (0 : Int32))] [(.int (1 : Int32)), (.int (10 : Int32))])
  refine Go.st (fun _ h => XS.iand X0.here hx rfl (hb hby d_method_4_code_4) rfl h) ?_
  show Go p e below _ s₁ (mkF m 5 #[.val (.ref b1), .val (.int (10 : Int32)), .val (.int p3), .val (.int (0 : Int32))] [(.int ((10 : Int32) &&& (1 : Int32)))])
  refine Go.st (fun _ h => XS.ifYes X0.here hx rfl (pc0 := 5) (pc' := 15) rfl (hb hby d_method_4_code_5) rfl (by decide) (by decide) (by decide) h) ?_
  show Go p e below _ s₁ (mkF m 15 #[.val (.ref b1), .val (.int (10 : Int32)), .val (.int p3), .val (.int (0 : Int32))] [])
  refine Go.st (fun _ h => XS.iloadN X0.here hx rfl (hb hby d_method_4_code_15) rfl h) ?_
  show Go p e below _ s₁ (mkF m 16 #[.val (.ref b1), .val (.int (10 : Int32)), .val (.int p3), .val (.int (0 : Int32))] [(.int (10 : Int32))])
  refine Go.st (fun _ h => XT.iconstV X0.here hx rfl (2 : Int32) (hb hby d_method_4_code_16) (by decide) h) ?_
  show Go p e below _ s₁ (mkF m 17 #[.val (.ref b1), .val (.int (10 : Int32)), .val (.int p3), .val (.int (0 : Int32))] [(.int (2 : Int32)), (.int (10 : Int32))])
  refine Go.st (fun _ h => XS.iand X0.here hx rfl (hb hby d_method_4_code_17) rfl h) ?_
  show Go p e below _ s₁ (mkF m 18 #[.val (.ref b1), .val (.int (10 : Int32)), .val (.int p3), .val (.int (0 : Int32))] [(.int ((10 : Int32) &&& (2 : Int32)))])
  refine Go.st (fun _ h => XS.ifNo X0.here hx rfl (hb hby d_method_4_code_18) rfl (by decide) h) ?_
  show Go p e below _ s₁ (mkF m 21 #[.val (.ref b1), .val (.int (10 : Int32)), .val (.int p3), .val (.int (0 : Int32))] [])
  refine Go.st (fun _ h => XS.aloadN X0.here hx rfl (hb hby d_method_4_code_21) rfl rfl h) ?_
  show Go p e below _ s₁ (mkF m 22 #[.val (.ref b1), .val (.int (10 : Int32)), .val (.int p3), .val (.int (0 : Int32))] [(.ref b1)])
  refine Go.st (fun _ h => XS.iloadN X0.here hx rfl (hb hby d_method_4_code_22) rfl h) ?_
  show Go p e below _ s₁ (mkF m 23 #[.val (.ref b1), .val (.int (10 : Int32)), .val (.int p3), .val (.int (0 : Int32))] [(.int (0 : Int32)), (.ref b1)])
  refine Go.st (fun _ h => XS.iloadN X0.here hx rfl (hb hby d_method_4_code_23) rfl h) ?_
  show Go p e below _ s₁ (mkF m 24 #[.val (.ref b1), .val (.int (10 : Int32)), .val (.int p3), .val (.int (0 : Int32))] [(.int p3), (.int (0 : Int32)), (.ref b1)])
  refine Go.st (fun _ h => XT.iconstV X0.here hx rfl (1 : Int32) (hb hby d_method_4_code_24) (by decide) h) ?_
  show Go p e below _ s₁ (mkF m 25 #[.val (.ref b1), .val (.int (10 : Int32)), .val (.int p3), .val (.int (0 : Int32))] [(.int (1 : Int32)), (.int p3), (.int (0 : Int32)), (.ref b1)])
  refine Go.st (fun _ h => XS.iadd X0.here hx rfl (hb hby d_method_4_code_25) rfl h) ?_
  show Go p e below _ s₁ (mkF m 26 #[.val (.ref b1), .val (.int (10 : Int32)), .val (.int p3), .val (.int (0 : Int32))] [(.int (p3 + (1 : Int32))), (.int (0 : Int32)), (.ref b1)])
  obtain ⟨T1, h1, X1, e1, W1, V1, st1⟩ := own_stI X0 hx hZ e0 (j := (0 : Int32)) B_1 (by decide) (by decide) 0 (by decide) (by simp) (g := (mkF m 26 #[.val (.ref b1), .val (.int (10 : Int32)), .val (.int p3), .val (.int (0 : Int32))] [(.int (p3 + (1 : Int32))), (.int (0 : Int32)), (.ref b1)])) rfl rfl (hb hby d_method_4_code_26)
  have N1 := Fr.snoc X1 N0 g_b1
  have K1 := (Keep.refl _ [b1]).wr W1 (Or.inl (List.mem_of_getElem? (i := 0) rfl))
  have V1' : Arv Z h1 b1 kb .int (2 : Int32) [(.int (p3 + (1 : Int32))), (.int (0 : Int32))] (.int (0 : Int32)) := V1
  refine Go.st st1 ?_
  show Go p e below _ T1 (mkF m 27 #[.val (.ref b1), .val (.int (10 : Int32)), .val (.int p3), .val (.int (0 : Int32))] [])
  refine Go.st (fun _ h => XT.iincV X1.here hx rfl (1 : Int32) (hb hby d_method_4_code_27) (by decide) rfl (l' := #[.val (.ref b1), .val (.int (10 : Int32)), .val (.int p3), .val (.int ((0 : Int32) + (1 : Int32)))]) rfl h) ?_
  show Go p e below _ T1 (mkF m 30 #[.val (.ref b1), .val (.int (10 : Int32)), .val (.int p3), .val (.int ((0 : Int32) + (1 : Int32)))] [])
  refine Go.st (fun _ h => XS.iloadN X1.here hx rfl (hb hby d_method_4_code_30) rfl h) ?_
  show Go p e below _ T1 (mkF m 31 #[.val (.ref b1), .val (.int (10 : Int32)), .val (.int p3), .val (.int ((0 : Int32) + (1 : Int32)))] [(.int (10 : Int32))])
  refine Go.st (fun _ h => XT.iconstV X1.here hx rfl (4 : Int32) (hb hby d_method_4_code_31) (by decide) h) ?_
  show Go p e below _ T1 (mkF m 32 #[.val (.ref b1), .val (.int (10 : Int32)), .val (.int p3), .val (.int ((0 : Int32) + (1 : Int32)))] [(.int (4 : Int32)), (.int (10 : Int32))])
  refine Go.st (fun _ h => XS.iand X1.here hx rfl (hb hby d_method_4_code_32) rfl h) ?_
  show Go p e below _ T1 (mkF m 33 #[.val (.ref b1), .val (.int (10 : Int32)), .val (.int p3), .val (.int ((0 : Int32) + (1 : Int32)))] [(.int ((10 : Int32) &&& (4 : Int32)))])
  refine Go.st (fun _ h => XS.ifYes X1.here hx rfl (pc0 := 33) (pc' := 45) rfl (hb hby d_method_4_code_33) rfl (by decide) (by decide) (by decide) h) ?_
  show Go p e below _ T1 (mkF m 45 #[.val (.ref b1), .val (.int (10 : Int32)), .val (.int p3), .val (.int ((0 : Int32) + (1 : Int32)))] [])
  refine Go.st (fun _ h => XS.iloadN X1.here hx rfl (hb hby d_method_4_code_45) rfl h) ?_
  show Go p e below _ T1 (mkF m 46 #[.val (.ref b1), .val (.int (10 : Int32)), .val (.int p3), .val (.int ((0 : Int32) + (1 : Int32)))] [(.int (10 : Int32))])
  refine Go.st (fun _ h => XT.bipushV X1.here hx rfl (8 : Int32) (hb hby d_method_4_code_46) (by decide) h) ?_
  show Go p e below _ T1 (mkF m 48 #[.val (.ref b1), .val (.int (10 : Int32)), .val (.int p3), .val (.int ((0 : Int32) + (1 : Int32)))] [(.int (8 : Int32)), (.int (10 : Int32))])
  refine Go.st (fun _ h => XS.iand X1.here hx rfl (hb hby d_method_4_code_48) rfl h) ?_
  show Go p e below _ T1 (mkF m 49 #[.val (.ref b1), .val (.int (10 : Int32)), .val (.int p3), .val (.int ((0 : Int32) + (1 : Int32)))] [(.int ((10 : Int32) &&& (8 : Int32)))])
  refine Go.st (fun _ h => XS.ifNo X1.here hx rfl (hb hby d_method_4_code_49) rfl (by decide) h) ?_
  show Go p e below _ T1 (mkF m 52 #[.val (.ref b1), .val (.int (10 : Int32)), .val (.int p3), .val (.int ((0 : Int32) + (1 : Int32)))] [])
  refine Go.st (fun _ h => XS.aloadN X1.here hx rfl (hb hby d_method_4_code_52) rfl rfl h) ?_
  show Go p e below _ T1 (mkF m 53 #[.val (.ref b1), .val (.int (10 : Int32)), .val (.int p3), .val (.int ((0 : Int32) + (1 : Int32)))] [(.ref b1)])
  refine Go.st (fun _ h => XS.iloadN X1.here hx rfl (hb hby d_method_4_code_53) rfl h) ?_
  show Go p e below _ T1 (mkF m 54 #[.val (.ref b1), .val (.int (10 : Int32)), .val (.int p3), .val (.int ((0 : Int32) + (1 : Int32)))] [(.int ((0 : Int32) + (1 : Int32))), (.ref b1)])
  refine Go.st (fun _ h => XS.iloadN X1.here hx rfl (hb hby d_method_4_code_54) rfl h) ?_
  show Go p e below _ T1 (mkF m 55 #[.val (.ref b1), .val (.int (10 : Int32)), .val (.int p3), .val (.int ((0 : Int32) + (1 : Int32)))] [(.int p3), (.int ((0 : Int32) + (1 : Int32))), (.ref b1)])
  refine Go.st (fun _ h => XT.iconstV X1.here hx rfl (3 : Int32) (hb hby d_method_4_code_55) (by decide) h) ?_
  show Go p e below _ T1 (mkF m 56 #[.val (.ref b1), .val (.int (10 : Int32)), .val (.int p3), .val (.int ((0 : Int32) + (1 : Int32)))] [(.int (3 : Int32)), (.int p3), (.int ((0 : Int32) + (1 : Int32))), (.ref b1)])
  refine Go.st (fun _ h => XS.iadd X1.here hx rfl (hb hby d_method_4_code_56) rfl h) ?_
  show Go p e below _ T1 (mkF m 57 #[.val (.ref b1), .val (.int (10 : Int32)), .val (.int p3), .val (.int ((0 : Int32) + (1 : Int32)))] [(.int (p3 + (3 : Int32))), (.int ((0 : Int32) + (1 : Int32))), (.ref b1)])
  obtain ⟨T2, h2, X2, e2, W2, V2, st2⟩ := own_stI X1 hx hZ e1 (j := ((0 : Int32) + (1 : Int32))) V1' (by decide) (by decide) 1 (by decide) (by simp) (g := (mkF m 57 #[.val (.ref b1), .val (.int (10 : Int32)), .val (.int p3), .val (.int ((0 : Int32) + (1 : Int32)))] [(.int (p3 + (3 : Int32))), (.int ((0 : Int32) + (1 : Int32))), (.ref b1)])) rfl rfl (hb hby d_method_4_code_57)
  have N2 := Fr.snoc X2 N1 g_b1
  have K2 := K1.wr W2 (Or.inl (List.mem_of_getElem? (i := 0) rfl))
  have V2' : Arv Z h2 b1 kb .int (2 : Int32) [(.int (p3 + (1 : Int32))), (.int (p3 + (3 : Int32)))] (.int (0 : Int32)) := V2
  refine Go.st st2 ?_
  show Go p e below _ T2 (mkF m 58 #[.val (.ref b1), .val (.int (10 : Int32)), .val (.int p3), .val (.int ((0 : Int32) + (1 : Int32)))] [])
  refine Go.st (fun _ h => XT.iincV X2.here hx rfl (1 : Int32) (hb hby d_method_4_code_58) (by decide) rfl (l' := #[.val (.ref b1), .val (.int (10 : Int32)), .val (.int p3), .val (.int (((0 : Int32) + (1 : Int32)) + (1 : Int32)))]) rfl h) ?_
  show Go p e below _ T2 (mkF m 61 #[.val (.ref b1), .val (.int (10 : Int32)), .val (.int p3), .val (.int (((0 : Int32) + (1 : Int32)) + (1 : Int32)))] [])
  refine Go.retV X2 hx hlk hret (hb hby d_method_4_code_61) (by decide) (by decide) ?_
  rw [e2]
  refine ⟨rfl, N2, K2, ?_⟩
  show Arv Z _ b1 kb .int (2 : Int32) [own_pos p3 1, own_pos p3 3] (.int (0 : Int32))
  exact V2'
theorem ef_rmFill11 (x0 : Addr) (x1 : Int32) (x2 : Int32) (m : MethodId) : entryFrame m #[(.ref x0), (.int x1), (.int x2)] 4 = mkF m 0 #[.val (.ref x0), .val (.int x1), .val (.int x2), .unset] [] := by first | (simp [entryFrame, mkF, argsToLocals, Value.category]; done) | rfl
set_option maxRecDepth 65536 in
set_option maxHeartbeats 40000000 in
theorem rmFill11 (l : Launch) (Z : State) (a0 : Array Value) (hw : ∀ d ∈ tables_1, d.before a0 Z = true) (b1 : Addr) (kb : ClassId) (p3 : Int32) (h0 : Heap) (n0 : Nat) (Z0 : n0 ≤ h0.size) (B_1 : Arv Z h0 b1 kb .int (3 : Int32) [(.int (0 : Int32)), (.int (0 : Int32)), (.int (0 : Int32))] (.int (0 : Int32))) (g_b1 : n0 ≤ b1) :
    Does l Z (⟨"com/example/bindwell/bindwell/collect/ListChangeMovesFromPinLaw", "fill", "([III)V"⟩ : MethodName) method_4_code 4 none [] ({ frames := 0, cells := 0, slots := 0, locals := 0 } : Room) #[(.ref b1), (.int (11 : Int32)), (.int p3)] h0 (fun v h L => v = none ∧ Fr n0 L ∧ Keep h0 h [b1] ∧ Arv Z h b1 kb .int (Int32.ofNat (own_cnt 11)) ((own_bits 11).map (own_pos p3)) (.int (0 : Int32))) := by
  refine Does.intro (plainFor_of_name pn_com_example_bindwell_bindwell_collect_ListChangeMovesFromPinLaw) (ef_rmFill11 b1 (11 : Int32) p3) ?_
  intro p e s m below meth c s₁ hx hby hml hown hnm hret hlk hZ e0 X0
  show Go p e below _ s₁ (mkF m 0 #[.val (.ref b1), .val (.int (11 : Int32)), .val (.int p3), .unset] [])
  have N0 := Fr.nil n0
  refine Go.st (fun _ h => XT.iconstV X0.here hx rfl (0 : Int32) (hb hby d_method_4_code_0) (by decide) h) ?_
  show Go p e below _ s₁ (mkF m 1 #[.val (.ref b1), .val (.int (11 : Int32)), .val (.int p3), .unset] [(.int (0 : Int32))])
  refine Go.st (fun _ h => XS.istoreN X0.here hx rfl (hb hby d_method_4_code_1) rfl (l' := #[.val (.ref b1), .val (.int (11 : Int32)), .val (.int p3), .val (.int (0 : Int32))]) rfl h) ?_
  show Go p e below _ s₁ (mkF m 2 #[.val (.ref b1), .val (.int (11 : Int32)), .val (.int p3), .val (.int (0 : Int32))] [])
  refine Go.st (fun _ h => XS.iloadN X0.here hx rfl (hb hby d_method_4_code_2) rfl h) ?_
  show Go p e below _ s₁ (mkF m 3 #[.val (.ref b1), .val (.int (11 : Int32)), .val (.int p3), .val (.int (0 : Int32))] [(.int (11 : Int32))])
  refine Go.st (fun _ h => XT.iconstV X0.here hx rfl (1 : Int32) (hb hby d_method_4_code_3) (by decide) h) ?_
  show Go p e below _ s₁ (mkF m 4 #[.val (.ref b1), .val (.int (11 : Int32)), .val (.int p3), .val (.int (0 : Int32))] [(.int (1 : Int32)), (.int (11 : Int32))])
  refine Go.st (fun _ h => XS.iand X0.here hx rfl (hb hby d_method_4_code_4) rfl h) ?_
  show Go p e below _ s₁ (mkF m 5 #[.val (.ref b1), .val (.int (11 : Int32)), .val (.int p3), .val (.int (0 : Int32))] [(.int ((11 : Int32) &&& (1 : Int32)))])
  refine Go.st (fun _ h => XS.ifNo X0.here hx rfl (hb hby d_method_4_code_5) rfl (by decide) h) ?_
  show Go p e below _ s₁ (mkF m 8 #[.val (.ref b1), .val (.int (11 : Int32)), .val (.int p3), .val (.int (0 : Int32))] [])
  refine Go.st (fun _ h => XS.aloadN X0.here hx rfl (hb hby d_method_4_code_8) rfl rfl h) ?_
  show Go p e below _ s₁ (mkF m 9 #[.val (.ref b1), .val (.int (11 : Int32)), .val (.int p3), .val (.int (0 : Int32))] [(.ref b1)])
  refine Go.st (fun _ h => XS.iloadN X0.here hx rfl (hb hby d_method_4_code_9) rfl h) ?_
  show Go p e below _ s₁ (mkF m 10 #[.val (.ref b1), .val (.int (11 : Int32)), .val (.int p3), .val (.int (0 : Int32))] [(.int (0 : Int32)), (.ref b1)])
  refine Go.st (fun _ h => XS.iloadN X0.here hx rfl (hb hby d_method_4_code_10) rfl h) ?_
  show Go p e below _ s₁ (mkF m 11 #[.val (.ref b1), .val (.int (11 : Int32)), .val (.int p3), .val (.int (0 : Int32))] [(.int p3), (.int (0 : Int32)), (.ref b1)])
  obtain ⟨T1, h1, X1, e1, W1, V1, st1⟩ := own_stI X0 hx hZ e0 (j := (0 : Int32)) B_1 (by decide) (by decide) 0 (by decide) (by simp) (g := (mkF m 11 #[.val (.ref b1), .val (.int (11 : Int32)), .val (.int p3), .val (.int (0 : Int32))] [(.int p3), (.int (0 : Int32)), (.ref b1)])) rfl rfl (hb hby d_method_4_code_11)
  have N1 := Fr.snoc X1 N0 g_b1
  have K1 := (Keep.refl _ [b1]).wr W1 (Or.inl (List.mem_of_getElem? (i := 0) rfl))
  have V1' : Arv Z h1 b1 kb .int (3 : Int32) [(.int p3), (.int (0 : Int32)), (.int (0 : Int32))] (.int (0 : Int32)) := V1
  refine Go.st st1 ?_
  show Go p e below _ T1 (mkF m 12 #[.val (.ref b1), .val (.int (11 : Int32)), .val (.int p3), .val (.int (0 : Int32))] [])
  refine Go.st (fun _ h => XT.iincV X1.here hx rfl (1 : Int32) (hb hby d_method_4_code_12) (by decide) rfl (l' := #[.val (.ref b1), .val (.int (11 : Int32)), .val (.int p3), .val (.int ((0 : Int32) + (1 : Int32)))]) rfl h) ?_
  show Go p e below _ T1 (mkF m 15 #[.val (.ref b1), .val (.int (11 : Int32)), .val (.int p3), .val (.int ((0 : Int32) + (1 : Int32)))] [])
  refine Go.st (fun _ h => XS.iloadN X1.here hx rfl (hb hby d_method_4_code_15) rfl h) ?_
  show Go p e below _ T1 (mkF m 16 #[.val (.ref b1), .val (.int (11 : Int32)), .val (.int p3), .val (.int ((0 : Int32) + (1 : Int32)))] [(.int (11 : Int32))])
  refine Go.st (fun _ h => XT.iconstV X1.here hx rfl (2 : Int32) (hb hby d_method_4_code_16) (by decide) h) ?_
  show Go p e below _ T1 (mkF m 17 #[.val (.ref b1), .val (.int (11 : Int32)), .val (.int p3), .val (.int ((0 : Int32) + (1 : Int32)))] [(.int (2 : Int32)), (.int (11 : Int32))])
  refine Go.st (fun _ h => XS.iand X1.here hx rfl (hb hby d_method_4_code_17) rfl h) ?_
  show Go p e below _ T1 (mkF m 18 #[.val (.ref b1), .val (.int (11 : Int32)), .val (.int p3), .val (.int ((0 : Int32) + (1 : Int32)))] [(.int ((11 : Int32) &&& (2 : Int32)))])
  refine Go.st (fun _ h => XS.ifNo X1.here hx rfl (hb hby d_method_4_code_18) rfl (by decide) h) ?_
  show Go p e below _ T1 (mkF m 21 #[.val (.ref b1), .val (.int (11 : Int32)), .val (.int p3), .val (.int ((0 : Int32) + (1 : Int32)))] [])
  refine Go.st (fun _ h => XS.aloadN X1.here hx rfl (hb hby d_method_4_code_21) rfl rfl h) ?_
  show Go p e below _ T1 (mkF m 22 #[.val (.ref b1), .val (.int (11 : Int32)), .val (.int p3), .val (.int ((0 : Int32) + (1 : Int32)))] [(.ref b1)])
  refine Go.st (fun _ h => XS.iloadN X1.here hx rfl (hb hby d_method_4_code_22) rfl h) ?_
  show Go p e below _ T1 (mkF m 23 #[.val (.ref b1), .val (.int (11 : Int32)), .val (.int p3), .val (.int ((0 : Int32) + (1 : Int32)))] [(.int ((0 : Int32) + (1 : Int32))), (.ref b1)])
  refine Go.st (fun _ h => XS.iloadN X1.here hx rfl (hb hby d_method_4_code_23) rfl h) ?_
  show Go p e below _ T1 (mkF m 24 #[.val (.ref b1), .val (.int (11 : Int32)), .val (.int p3), .val (.int ((0 : Int32) + (1 : Int32)))] [(.int p3), (.int ((0 : Int32) + (1 : Int32))), (.ref b1)])
  refine Go.st (fun _ h => XT.iconstV X1.here hx rfl (1 : Int32) (hb hby d_method_4_code_24) (by decide) h) ?_
  show Go p e below _ T1 (mkF m 25 #[.val (.ref b1), .val (.int (11 : Int32)), .val (.int p3), .val (.int ((0 : Int32) + (1 : Int32)))] [(.int (1 : Int32)), (.int p3), (.int ((0 : Int32) + (1 : Int32))), (.ref b1)])
  refine Go.st (fun _ h => XS.iadd X1.here hx rfl (hb hby d_method_4_code_25) rfl h) ?_
  show Go p e below _ T1 (mkF m 26 #[.val (.ref b1), .val (.int (11 : Int32)), .val (.int p3), .val (.int ((0 : Int32) + (1 : Int32)))] [(.int (p3 + (1 : Int32))), (.int ((0 : Int32) + (1 : Int32))), (.ref b1)])
  obtain ⟨T2, h2, X2, e2, W2, V2, st2⟩ := own_stI X1 hx hZ e1 (j := ((0 : Int32) + (1 : Int32))) V1' (by decide) (by decide) 1 (by decide) (by simp) (g := (mkF m 26 #[.val (.ref b1), .val (.int (11 : Int32)), .val (.int p3), .val (.int ((0 : Int32) + (1 : Int32)))] [(.int (p3 + (1 : Int32))), (.int ((0 : Int32) + (1 : Int32))), (.ref b1)])) rfl rfl (hb hby d_method_4_code_26)
  have N2 := Fr.snoc X2 N1 g_b1
  have K2 := K1.wr W2 (Or.inl (List.mem_of_getElem? (i := 0) rfl))
  have V2' : Arv Z h2 b1 kb .int (3 : Int32) [(.int p3), (.int (p3 + (1 : Int32))), (.int (0 : Int32))] (.int (0 : Int32)) := V2
  refine Go.st st2 ?_
  show Go p e below _ T2 (mkF m 27 #[.val (.ref b1), .val (.int (11 : Int32)), .val (.int p3), .val (.int ((0 : Int32) + (1 : Int32)))] [])
  refine Go.st (fun _ h => XT.iincV X2.here hx rfl (1 : Int32) (hb hby d_method_4_code_27) (by decide) rfl (l' := #[.val (.ref b1), .val (.int (11 : Int32)), .val (.int p3), .val (.int (((0 : Int32) + (1 : Int32)) + (1 : Int32)))]) rfl h) ?_
  show Go p e below _ T2 (mkF m 30 #[.val (.ref b1), .val (.int (11 : Int32)), .val (.int p3), .val (.int (((0 : Int32) + (1 : Int32)) + (1 : Int32)))] [])
  refine Go.st (fun _ h => XS.iloadN X2.here hx rfl (hb hby d_method_4_code_30) rfl h) ?_
  show Go p e below _ T2 (mkF m 31 #[.val (.ref b1), .val (.int (11 : Int32)), .val (.int p3), .val (.int (((0 : Int32) + (1 : Int32)) + (1 : Int32)))] [(.int (11 : Int32))])
  refine Go.st (fun _ h => XT.iconstV X2.here hx rfl (4 : Int32) (hb hby d_method_4_code_31) (by decide) h) ?_
  show Go p e below _ T2 (mkF m 32 #[.val (.ref b1), .val (.int (11 : Int32)), .val (.int p3), .val (.int (((0 : Int32) + (1 : Int32)) + (1 : Int32)))] [(.int (4 : Int32)), (.int (11 : Int32))])
  refine Go.st (fun _ h => XS.iand X2.here hx rfl (hb hby d_method_4_code_32) rfl h) ?_
  show Go p e below _ T2 (mkF m 33 #[.val (.ref b1), .val (.int (11 : Int32)), .val (.int p3), .val (.int (((0 : Int32) + (1 : Int32)) + (1 : Int32)))] [(.int ((11 : Int32) &&& (4 : Int32)))])
  refine Go.st (fun _ h => XS.ifYes X2.here hx rfl (pc0 := 33) (pc' := 45) rfl (hb hby d_method_4_code_33) rfl (by decide) (by decide) (by decide) h) ?_
  show Go p e below _ T2 (mkF m 45 #[.val (.ref b1), .val (.int (11 : Int32)), .val (.int p3), .val (.int (((0 : Int32) + (1 : Int32)) + (1 : Int32)))] [])
  refine Go.st (fun _ h => XS.iloadN X2.here hx rfl (hb hby d_method_4_code_45) rfl h) ?_
  show Go p e below _ T2 (mkF m 46 #[.val (.ref b1), .val (.int (11 : Int32)), .val (.int p3), .val (.int (((0 : Int32) + (1 : Int32)) + (1 : Int32)))] [(.int (11 : Int32))])
  refine Go.st (fun _ h => XT.bipushV X2.here hx rfl (8 : Int32) (hb hby d_method_4_code_46) (by decide) h) ?_
  show Go p e below _ T2 (mkF m 48 #[.val (.ref b1), .val (.int (11 : Int32)), .val (.int p3), .val (.int (((0 : Int32) + (1 : Int32)) + (1 : Int32)))] [(.int (8 : Int32)), (.int (11 : Int32))])
  refine Go.st (fun _ h => XS.iand X2.here hx rfl (hb hby d_method_4_code_48) rfl h) ?_
  show Go p e below _ T2 (mkF m 49 #[.val (.ref b1), .val (.int (11 : Int32)), .val (.int p3), .val (.int (((0 : Int32) + (1 : Int32)) + (1 : Int32)))] [(.int ((11 : Int32) &&& (8 : Int32)))])
  refine Go.st (fun _ h => XS.ifNo X2.here hx rfl (hb hby d_method_4_code_49) rfl (by decide) h) ?_
  show Go p e below _ T2 (mkF m 52 #[.val (.ref b1), .val (.int (11 : Int32)), .val (.int p3), .val (.int (((0 : Int32) + (1 : Int32)) + (1 : Int32)))] [])
  refine Go.st (fun _ h => XS.aloadN X2.here hx rfl (hb hby d_method_4_code_52) rfl rfl h) ?_
  show Go p e below _ T2 (mkF m 53 #[.val (.ref b1), .val (.int (11 : Int32)), .val (.int p3), .val (.int (((0 : Int32) + (1 : Int32)) + (1 : Int32)))] [(.ref b1)])
  refine Go.st (fun _ h => XS.iloadN X2.here hx rfl (hb hby d_method_4_code_53) rfl h) ?_
  show Go p e below _ T2 (mkF m 54 #[.val (.ref b1), .val (.int (11 : Int32)), .val (.int p3), .val (.int (((0 : Int32) + (1 : Int32)) + (1 : Int32)))] [(.int (((0 : Int32) + (1 : Int32)) + (1 : Int32))), (.ref b1)])
  refine Go.st (fun _ h => XS.iloadN X2.here hx rfl (hb hby d_method_4_code_54) rfl h) ?_
  show Go p e below _ T2 (mkF m 55 #[.val (.ref b1), .val (.int (11 : Int32)), .val (.int p3), .val (.int (((0 : Int32) + (1 : Int32)) + (1 : Int32)))] [(.int p3), (.int (((0 : Int32) + (1 : Int32)) + (1 : Int32))), (.ref b1)])
  refine Go.st (fun _ h => XT.iconstV X2.here hx rfl (3 : Int32) (hb hby d_method_4_code_55) (by decide) h) ?_
  show Go p e below _ T2 (mkF m 56 #[.val (.ref b1), .val (.int (11 : Int32)), .val (.int p3), .val (.int (((0 : Int32) + (1 : Int32)) + (1 : Int32)))] [(.int (3 : Int32)), (.int p3), (.int (((0 : Int32) + (1 : Int32)) + (1 : Int32))), (.ref b1)])
  refine Go.st (fun _ h => XS.iadd X2.here hx rfl (hb hby d_method_4_code_56) rfl h) ?_
  show Go p e below _ T2 (mkF m 57 #[.val (.ref b1), .val (.int (11 : Int32)), .val (.int p3), .val (.int (((0 : Int32) + (1 : Int32)) + (1 : Int32)))] [(.int (p3 + (3 : Int32))), (.int (((0 : Int32) + (1 : Int32)) + (1 : Int32))), (.ref b1)])
  obtain ⟨T3, h3, X3, e3, W3, V3, st3⟩ := own_stI X2 hx hZ e2 (j := (((0 : Int32) + (1 : Int32)) + (1 : Int32))) V2' (by decide) (by decide) 2 (by decide) (by simp) (g := (mkF m 57 #[.val (.ref b1), .val (.int (11 : Int32)), .val (.int p3), .val (.int (((0 : Int32) + (1 : Int32)) + (1 : Int32)))] [(.int (p3 + (3 : Int32))), (.int (((0 : Int32) + (1 : Int32)) + (1 : Int32))), (.ref b1)])) rfl rfl (hb hby d_method_4_code_57)
  have N3 := Fr.snoc X3 N2 g_b1
  have K3 := K2.wr W3 (Or.inl (List.mem_of_getElem? (i := 0) rfl))
  have V3' : Arv Z h3 b1 kb .int (3 : Int32) [(.int p3), (.int (p3 + (1 : Int32))), (.int (p3 + (3 : Int32)))] (.int (0 : Int32)) := V3
  refine Go.st st3 ?_
  show Go p e below _ T3 (mkF m 58 #[.val (.ref b1), .val (.int (11 : Int32)), .val (.int p3), .val (.int (((0 : Int32) + (1 : Int32)) + (1 : Int32)))] [])
  refine Go.st (fun _ h => XT.iincV X3.here hx rfl (1 : Int32) (hb hby d_method_4_code_58) (by decide) rfl (l' := #[.val (.ref b1), .val (.int (11 : Int32)), .val (.int p3), .val (.int ((((0 : Int32) + (1 : Int32)) + (1 : Int32)) + (1 : Int32)))]) rfl h) ?_
  show Go p e below _ T3 (mkF m 61 #[.val (.ref b1), .val (.int (11 : Int32)), .val (.int p3), .val (.int ((((0 : Int32) + (1 : Int32)) + (1 : Int32)) + (1 : Int32)))] [])
  refine Go.retV X3 hx hlk hret (hb hby d_method_4_code_61) (by decide) (by decide) ?_
  rw [e3]
  refine ⟨rfl, N3, K3, ?_⟩
  show Arv Z _ b1 kb .int (3 : Int32) [own_pos p3 0, own_pos p3 1, own_pos p3 3] (.int (0 : Int32))
  rw [own_pos0]
  exact V3'
theorem ef_rmFill12 (x0 : Addr) (x1 : Int32) (x2 : Int32) (m : MethodId) : entryFrame m #[(.ref x0), (.int x1), (.int x2)] 4 = mkF m 0 #[.val (.ref x0), .val (.int x1), .val (.int x2), .unset] [] := by first | (simp [entryFrame, mkF, argsToLocals, Value.category]; done) | rfl
set_option maxRecDepth 65536 in
set_option maxHeartbeats 40000000 in
theorem rmFill12 (l : Launch) (Z : State) (a0 : Array Value) (hw : ∀ d ∈ tables_1, d.before a0 Z = true) (b1 : Addr) (kb : ClassId) (p3 : Int32) (h0 : Heap) (n0 : Nat) (Z0 : n0 ≤ h0.size) (B_1 : Arv Z h0 b1 kb .int (2 : Int32) [(.int (0 : Int32)), (.int (0 : Int32))] (.int (0 : Int32))) (g_b1 : n0 ≤ b1) :
    Does l Z (⟨"com/example/bindwell/bindwell/collect/ListChangeMovesFromPinLaw", "fill", "([III)V"⟩ : MethodName) method_4_code 4 none [] ({ frames := 0, cells := 0, slots := 0, locals := 0 } : Room) #[(.ref b1), (.int (12 : Int32)), (.int p3)] h0 (fun v h L => v = none ∧ Fr n0 L ∧ Keep h0 h [b1] ∧ Arv Z h b1 kb .int (Int32.ofNat (own_cnt 12)) ((own_bits 12).map (own_pos p3)) (.int (0 : Int32))) := by
  refine Does.intro (plainFor_of_name pn_com_example_bindwell_bindwell_collect_ListChangeMovesFromPinLaw) (ef_rmFill12 b1 (12 : Int32) p3) ?_
  intro p e s m below meth c s₁ hx hby hml hown hnm hret hlk hZ e0 X0
  show Go p e below _ s₁ (mkF m 0 #[.val (.ref b1), .val (.int (12 : Int32)), .val (.int p3), .unset] [])
  have N0 := Fr.nil n0
  refine Go.st (fun _ h => XT.iconstV X0.here hx rfl (0 : Int32) (hb hby d_method_4_code_0) (by decide) h) ?_
  show Go p e below _ s₁ (mkF m 1 #[.val (.ref b1), .val (.int (12 : Int32)), .val (.int p3), .unset] [(.int (0 : Int32))])
  refine Go.st (fun _ h => XS.istoreN X0.here hx rfl (hb hby d_method_4_code_1) rfl (l' := #[.val (.ref b1), .val (.int (12 : Int32)), .val (.int p3), .val (.int (0 : Int32))]) rfl h) ?_
  show Go p e below _ s₁ (mkF m 2 #[.val (.ref b1), .val (.int (12 : Int32)), .val (.int p3), .val (.int (0 : Int32))] [])
  refine Go.st (fun _ h => XS.iloadN X0.here hx rfl (hb hby d_method_4_code_2) rfl h) ?_
  show Go p e below _ s₁ (mkF m 3 #[.val (.ref b1), .val (.int (12 : Int32)), .val (.int p3), .val (.int (0 : Int32))] [(.int (12 : Int32))])
  refine Go.st (fun _ h => XT.iconstV X0.here hx rfl (1 : Int32) (hb hby d_method_4_code_3) (by decide) h) ?_
  show Go p e below _ s₁ (mkF m 4 #[.val (.ref b1), .val (.int (12 : Int32)), .val (.int p3), .val (.int (0 : Int32))] [(.int (1 : Int32)), (.int (12 : Int32))])
  refine Go.st (fun _ h => XS.iand X0.here hx rfl (hb hby d_method_4_code_4) rfl h) ?_
  show Go p e below _ s₁ (mkF m 5 #[.val (.ref b1), .val (.int (12 : Int32)), .val (.int p3), .val (.int (0 : Int32))] [(.int ((12 : Int32) &&& (1 : Int32)))])
  refine Go.st (fun _ h => XS.ifYes X0.here hx rfl (pc0 := 5) (pc' := 15) rfl (hb hby d_method_4_code_5) rfl (by decide) (by decide) (by decide) h) ?_
  show Go p e below _ s₁ (mkF m 15 #[.val (.ref b1), .val (.int (12 : Int32)), .val (.int p3), .val (.int (0 : Int32))] [])
  refine Go.st (fun _ h => XS.iloadN X0.here hx rfl (hb hby d_method_4_code_15) rfl h) ?_
  show Go p e below _ s₁ (mkF m 16 #[.val (.ref b1), .val (.int (12 : Int32)), .val (.int p3), .val (.int (0 : Int32))] [(.int (12 : Int32))])
  refine Go.st (fun _ h => XT.iconstV X0.here hx rfl (2 : Int32) (hb hby d_method_4_code_16) (by decide) h) ?_
  show Go p e below _ s₁ (mkF m 17 #[.val (.ref b1), .val (.int (12 : Int32)), .val (.int p3), .val (.int (0 : Int32))] [(.int (2 : Int32)), (.int (12 : Int32))])
  refine Go.st (fun _ h => XS.iand X0.here hx rfl (hb hby d_method_4_code_17) rfl h) ?_
  show Go p e below _ s₁ (mkF m 18 #[.val (.ref b1), .val (.int (12 : Int32)), .val (.int p3), .val (.int (0 : Int32))] [(.int ((12 : Int32) &&& (2 : Int32)))])
  refine Go.st (fun _ h => XS.ifYes X0.here hx rfl (pc0 := 18) (pc' := 30) rfl (hb hby d_method_4_code_18) rfl (by decide) (by decide) (by decide) h) ?_
  show Go p e below _ s₁ (mkF m 30 #[.val (.ref b1), .val (.int (12 : Int32)), .val (.int p3), .val (.int (0 : Int32))] [])
  refine Go.st (fun _ h => XS.iloadN X0.here hx rfl (hb hby d_method_4_code_30) rfl h) ?_
  show Go p e below _ s₁ (mkF m 31 #[.val (.ref b1), .val (.int (12 : Int32)), .val (.int p3), .val (.int (0 : Int32))] [(.int (12 : Int32))])
  refine Go.st (fun _ h => XT.iconstV X0.here hx rfl (4 : Int32) (hb hby d_method_4_code_31) (by decide) h) ?_
  show Go p e below _ s₁ (mkF m 32 #[.val (.ref b1), .val (.int (12 : Int32)), .val (.int p3), .val (.int (0 : Int32))] [(.int (4 : Int32)), (.int (12 : Int32))])
  refine Go.st (fun _ h => XS.iand X0.here hx rfl (hb hby d_method_4_code_32) rfl h) ?_
  show Go p e below _ s₁ (mkF m 33 #[.val (.ref b1), .val (.int (12 : Int32)), .val (.int p3), .val (.int (0 : Int32))] [(.int ((12 : Int32) &&& (4 : Int32)))])
  refine Go.st (fun _ h => XS.ifNo X0.here hx rfl (hb hby d_method_4_code_33) rfl (by decide) h) ?_
  show Go p e below _ s₁ (mkF m 36 #[.val (.ref b1), .val (.int (12 : Int32)), .val (.int p3), .val (.int (0 : Int32))] [])
  refine Go.st (fun _ h => XS.aloadN X0.here hx rfl (hb hby d_method_4_code_36) rfl rfl h) ?_
  show Go p e below _ s₁ (mkF m 37 #[.val (.ref b1), .val (.int (12 : Int32)), .val (.int p3), .val (.int (0 : Int32))] [(.ref b1)])
  refine Go.st (fun _ h => XS.iloadN X0.here hx rfl (hb hby d_method_4_code_37) rfl h) ?_
  show Go p e below _ s₁ (mkF m 38 #[.val (.ref b1), .val (.int (12 : Int32)), .val (.int p3), .val (.int (0 : Int32))] [(.int (0 : Int32)), (.ref b1)])
  refine Go.st (fun _ h => XS.iloadN X0.here hx rfl (hb hby d_method_4_code_38) rfl h) ?_
  show Go p e below _ s₁ (mkF m 39 #[.val (.ref b1), .val (.int (12 : Int32)), .val (.int p3), .val (.int (0 : Int32))] [(.int p3), (.int (0 : Int32)), (.ref b1)])
  refine Go.st (fun _ h => XT.iconstV X0.here hx rfl (2 : Int32) (hb hby d_method_4_code_39) (by decide) h) ?_
  show Go p e below _ s₁ (mkF m 40 #[.val (.ref b1), .val (.int (12 : Int32)), .val (.int p3), .val (.int (0 : Int32))] [(.int (2 : Int32)), (.int p3), (.int (0 : Int32)), (.ref b1)])
  refine Go.st (fun _ h => XS.iadd X0.here hx rfl (hb hby d_method_4_code_40) rfl h) ?_
  show Go p e below _ s₁ (mkF m 41 #[.val (.ref b1), .val (.int (12 : Int32)), .val (.int p3), .val (.int (0 : Int32))] [(.int (p3 + (2 : Int32))), (.int (0 : Int32)), (.ref b1)])
  obtain ⟨T1, h1, X1, e1, W1, V1, st1⟩ := own_stI X0 hx hZ e0 (j := (0 : Int32)) B_1 (by decide) (by decide) 0 (by decide) (by simp) (g := (mkF m 41 #[.val (.ref b1), .val (.int (12 : Int32)), .val (.int p3), .val (.int (0 : Int32))] [(.int (p3 + (2 : Int32))), (.int (0 : Int32)), (.ref b1)])) rfl rfl (hb hby d_method_4_code_41)
  have N1 := Fr.snoc X1 N0 g_b1
  have K1 := (Keep.refl _ [b1]).wr W1 (Or.inl (List.mem_of_getElem? (i := 0) rfl))
  have V1' : Arv Z h1 b1 kb .int (2 : Int32) [(.int (p3 + (2 : Int32))), (.int (0 : Int32))] (.int (0 : Int32)) := V1
  refine Go.st st1 ?_
  show Go p e below _ T1 (mkF m 42 #[.val (.ref b1), .val (.int (12 : Int32)), .val (.int p3), .val (.int (0 : Int32))] [])
  refine Go.st (fun _ h => XT.iincV X1.here hx rfl (1 : Int32) (hb hby d_method_4_code_42) (by decide) rfl (l' := #[.val (.ref b1), .val (.int (12 : Int32)), .val (.int p3), .val (.int ((0 : Int32) + (1 : Int32)))]) rfl h) ?_
  show Go p e below _ T1 (mkF m 45 #[.val (.ref b1), .val (.int (12 : Int32)), .val (.int p3), .val (.int ((0 : Int32) + (1 : Int32)))] [])
  refine Go.st (fun _ h => XS.iloadN X1.here hx rfl (hb hby d_method_4_code_45) rfl h) ?_
  show Go p e below _ T1 (mkF m 46 #[.val (.ref b1), .val (.int (12 : Int32)), .val (.int p3), .val (.int ((0 : Int32) + (1 : Int32)))] [(.int (12 : Int32))])
  refine Go.st (fun _ h => XT.bipushV X1.here hx rfl (8 : Int32) (hb hby d_method_4_code_46) (by decide) h) ?_
  show Go p e below _ T1 (mkF m 48 #[.val (.ref b1), .val (.int (12 : Int32)), .val (.int p3), .val (.int ((0 : Int32) + (1 : Int32)))] [(.int (8 : Int32)), (.int (12 : Int32))])
  refine Go.st (fun _ h => XS.iand X1.here hx rfl (hb hby d_method_4_code_48) rfl h) ?_
  show Go p e below _ T1 (mkF m 49 #[.val (.ref b1), .val (.int (12 : Int32)), .val (.int p3), .val (.int ((0 : Int32) + (1 : Int32)))] [(.int ((12 : Int32) &&& (8 : Int32)))])
  refine Go.st (fun _ h => XS.ifNo X1.here hx rfl (hb hby d_method_4_code_49) rfl (by decide) h) ?_
  show Go p e below _ T1 (mkF m 52 #[.val (.ref b1), .val (.int (12 : Int32)), .val (.int p3), .val (.int ((0 : Int32) + (1 : Int32)))] [])
  refine Go.st (fun _ h => XS.aloadN X1.here hx rfl (hb hby d_method_4_code_52) rfl rfl h) ?_
  show Go p e below _ T1 (mkF m 53 #[.val (.ref b1), .val (.int (12 : Int32)), .val (.int p3), .val (.int ((0 : Int32) + (1 : Int32)))] [(.ref b1)])
  refine Go.st (fun _ h => XS.iloadN X1.here hx rfl (hb hby d_method_4_code_53) rfl h) ?_
  show Go p e below _ T1 (mkF m 54 #[.val (.ref b1), .val (.int (12 : Int32)), .val (.int p3), .val (.int ((0 : Int32) + (1 : Int32)))] [(.int ((0 : Int32) + (1 : Int32))), (.ref b1)])
  refine Go.st (fun _ h => XS.iloadN X1.here hx rfl (hb hby d_method_4_code_54) rfl h) ?_
  show Go p e below _ T1 (mkF m 55 #[.val (.ref b1), .val (.int (12 : Int32)), .val (.int p3), .val (.int ((0 : Int32) + (1 : Int32)))] [(.int p3), (.int ((0 : Int32) + (1 : Int32))), (.ref b1)])
  refine Go.st (fun _ h => XT.iconstV X1.here hx rfl (3 : Int32) (hb hby d_method_4_code_55) (by decide) h) ?_
  show Go p e below _ T1 (mkF m 56 #[.val (.ref b1), .val (.int (12 : Int32)), .val (.int p3), .val (.int ((0 : Int32) + (1 : Int32)))] [(.int (3 : Int32)), (.int p3), (.int ((0 : Int32) + (1 : Int32))), (.ref b1)])
  refine Go.st (fun _ h => XS.iadd X1.here hx rfl (hb hby d_method_4_code_56) rfl h) ?_
  show Go p e below _ T1 (mkF m 57 #[.val (.ref b1), .val (.int (12 : Int32)), .val (.int p3), .val (.int ((0 : Int32) + (1 : Int32)))] [(.int (p3 + (3 : Int32))), (.int ((0 : Int32) + (1 : Int32))), (.ref b1)])
  obtain ⟨T2, h2, X2, e2, W2, V2, st2⟩ := own_stI X1 hx hZ e1 (j := ((0 : Int32) + (1 : Int32))) V1' (by decide) (by decide) 1 (by decide) (by simp) (g := (mkF m 57 #[.val (.ref b1), .val (.int (12 : Int32)), .val (.int p3), .val (.int ((0 : Int32) + (1 : Int32)))] [(.int (p3 + (3 : Int32))), (.int ((0 : Int32) + (1 : Int32))), (.ref b1)])) rfl rfl (hb hby d_method_4_code_57)
  have N2 := Fr.snoc X2 N1 g_b1
  have K2 := K1.wr W2 (Or.inl (List.mem_of_getElem? (i := 0) rfl))
  have V2' : Arv Z h2 b1 kb .int (2 : Int32) [(.int (p3 + (2 : Int32))), (.int (p3 + (3 : Int32)))] (.int (0 : Int32)) := V2
  refine Go.st st2 ?_
  show Go p e below _ T2 (mkF m 58 #[.val (.ref b1), .val (.int (12 : Int32)), .val (.int p3), .val (.int ((0 : Int32) + (1 : Int32)))] [])
  refine Go.st (fun _ h => XT.iincV X2.here hx rfl (1 : Int32) (hb hby d_method_4_code_58) (by decide) rfl (l' := #[.val (.ref b1), .val (.int (12 : Int32)), .val (.int p3), .val (.int (((0 : Int32) + (1 : Int32)) + (1 : Int32)))]) rfl h) ?_
  show Go p e below _ T2 (mkF m 61 #[.val (.ref b1), .val (.int (12 : Int32)), .val (.int p3), .val (.int (((0 : Int32) + (1 : Int32)) + (1 : Int32)))] [])
  refine Go.retV X2 hx hlk hret (hb hby d_method_4_code_61) (by decide) (by decide) ?_
  rw [e2]
  refine ⟨rfl, N2, K2, ?_⟩
  show Arv Z _ b1 kb .int (2 : Int32) [own_pos p3 2, own_pos p3 3] (.int (0 : Int32))
  exact V2'
theorem ef_rmFill13 (x0 : Addr) (x1 : Int32) (x2 : Int32) (m : MethodId) : entryFrame m #[(.ref x0), (.int x1), (.int x2)] 4 = mkF m 0 #[.val (.ref x0), .val (.int x1), .val (.int x2), .unset] [] := by first | (simp [entryFrame, mkF, argsToLocals, Value.category]; done) | rfl
set_option maxRecDepth 65536 in
set_option maxHeartbeats 40000000 in
theorem rmFill13 (l : Launch) (Z : State) (a0 : Array Value) (hw : ∀ d ∈ tables_1, d.before a0 Z = true) (b1 : Addr) (kb : ClassId) (p3 : Int32) (h0 : Heap) (n0 : Nat) (Z0 : n0 ≤ h0.size) (B_1 : Arv Z h0 b1 kb .int (3 : Int32) [(.int (0 : Int32)), (.int (0 : Int32)), (.int (0 : Int32))] (.int (0 : Int32))) (g_b1 : n0 ≤ b1) :
    Does l Z (⟨"com/example/bindwell/bindwell/collect/ListChangeMovesFromPinLaw", "fill", "([III)V"⟩ : MethodName) method_4_code 4 none [] ({ frames := 0, cells := 0, slots := 0, locals := 0 } : Room) #[(.ref b1), (.int (13 : Int32)), (.int p3)] h0 (fun v h L => v = none ∧ Fr n0 L ∧ Keep h0 h [b1] ∧ Arv Z h b1 kb .int (Int32.ofNat (own_cnt 13)) ((own_bits 13).map (own_pos p3)) (.int (0 : Int32))) := by
  refine Does.intro (plainFor_of_name pn_com_example_bindwell_bindwell_collect_ListChangeMovesFromPinLaw) (ef_rmFill13 b1 (13 : Int32) p3) ?_
  intro p e s m below meth c s₁ hx hby hml hown hnm hret hlk hZ e0 X0
  show Go p e below _ s₁ (mkF m 0 #[.val (.ref b1), .val (.int (13 : Int32)), .val (.int p3), .unset] [])
  have N0 := Fr.nil n0
  refine Go.st (fun _ h => XT.iconstV X0.here hx rfl (0 : Int32) (hb hby d_method_4_code_0) (by decide) h) ?_
  show Go p e below _ s₁ (mkF m 1 #[.val (.ref b1), .val (.int (13 : Int32)), .val (.int p3), .unset] [(.int (0 : Int32))])
  refine Go.st (fun _ h => XS.istoreN X0.here hx rfl (hb hby d_method_4_code_1) rfl (l' := #[.val (.ref b1), .val (.int (13 : Int32)), .val (.int p3), .val (.int (0 : Int32))]) rfl h) ?_
  show Go p e below _ s₁ (mkF m 2 #[.val (.ref b1), .val (.int (13 : Int32)), .val (.int p3), .val (.int (0 : Int32))] [])
  refine Go.st (fun _ h => XS.iloadN X0.here hx rfl (hb hby d_method_4_code_2) rfl h) ?_
  show Go p e below _ s₁ (mkF m 3 #[.val (.ref b1), .val (.int (13 : Int32)), .val (.int p3), .val (.int (0 : Int32))] [(.int (13 : Int32))])
  refine Go.st (fun _ h => XT.iconstV X0.here hx rfl (1 : Int32) (hb hby d_method_4_code_3) (by decide) h) ?_
  show Go p e below _ s₁ (mkF m 4 #[.val (.ref b1), .val (.int (13 : Int32)), .val (.int p3), .val (.int (0 : Int32))] [(.int (1 : Int32)), (.int (13 : Int32))])
  refine Go.st (fun _ h => XS.iand X0.here hx rfl (hb hby d_method_4_code_4) rfl h) ?_
  show Go p e below _ s₁ (mkF m 5 #[.val (.ref b1), .val (.int (13 : Int32)), .val (.int p3), .val (.int (0 : Int32))] [(.int ((13 : Int32) &&& (1 : Int32)))])
  refine Go.st (fun _ h => XS.ifNo X0.here hx rfl (hb hby d_method_4_code_5) rfl (by decide) h) ?_
  show Go p e below _ s₁ (mkF m 8 #[.val (.ref b1), .val (.int (13 : Int32)), .val (.int p3), .val (.int (0 : Int32))] [])
  refine Go.st (fun _ h => XS.aloadN X0.here hx rfl (hb hby d_method_4_code_8) rfl rfl h) ?_
  show Go p e below _ s₁ (mkF m 9 #[.val (.ref b1), .val (.int (13 : Int32)), .val (.int p3), .val (.int (0 : Int32))] [(.ref b1)])
  refine Go.st (fun _ h => XS.iloadN X0.here hx rfl (hb hby d_method_4_code_9) rfl h) ?_
  show Go p e below _ s₁ (mkF m 10 #[.val (.ref b1), .val (.int (13 : Int32)), .val (.int p3), .val (.int (0 : Int32))] [(.int (0 : Int32)), (.ref b1)])
  refine Go.st (fun _ h => XS.iloadN X0.here hx rfl (hb hby d_method_4_code_10) rfl h) ?_
  show Go p e below _ s₁ (mkF m 11 #[.val (.ref b1), .val (.int (13 : Int32)), .val (.int p3), .val (.int (0 : Int32))] [(.int p3), (.int (0 : Int32)), (.ref b1)])
  obtain ⟨T1, h1, X1, e1, W1, V1, st1⟩ := own_stI X0 hx hZ e0 (j := (0 : Int32)) B_1 (by decide) (by decide) 0 (by decide) (by simp) (g := (mkF m 11 #[.val (.ref b1), .val (.int (13 : Int32)), .val (.int p3), .val (.int (0 : Int32))] [(.int p3), (.int (0 : Int32)), (.ref b1)])) rfl rfl (hb hby d_method_4_code_11)
  have N1 := Fr.snoc X1 N0 g_b1
  have K1 := (Keep.refl _ [b1]).wr W1 (Or.inl (List.mem_of_getElem? (i := 0) rfl))
  have V1' : Arv Z h1 b1 kb .int (3 : Int32) [(.int p3), (.int (0 : Int32)), (.int (0 : Int32))] (.int (0 : Int32)) := V1
  refine Go.st st1 ?_
  show Go p e below _ T1 (mkF m 12 #[.val (.ref b1), .val (.int (13 : Int32)), .val (.int p3), .val (.int (0 : Int32))] [])
  refine Go.st (fun _ h => XT.iincV X1.here hx rfl (1 : Int32) (hb hby d_method_4_code_12) (by decide) rfl (l' := #[.val (.ref b1), .val (.int (13 : Int32)), .val (.int p3), .val (.int ((0 : Int32) + (1 : Int32)))]) rfl h) ?_
  show Go p e below _ T1 (mkF m 15 #[.val (.ref b1), .val (.int (13 : Int32)), .val (.int p3), .val (.int ((0 : Int32) + (1 : Int32)))] [])
  refine Go.st (fun _ h => XS.iloadN X1.here hx rfl (hb hby d_method_4_code_15) rfl h) ?_
  show Go p e below _ T1 (mkF m 16 #[.val (.ref b1), .val (.int (13 : Int32)), .val (.int p3), .val (.int ((0 : Int32) + (1 : Int32)))] [(.int (13 : Int32))])
  refine Go.st (fun _ h => XT.iconstV X1.here hx rfl (2 : Int32) (hb hby d_method_4_code_16) (by decide) h) ?_
  show Go p e below _ T1 (mkF m 17 #[.val (.ref b1), .val (.int (13 : Int32)), .val (.int p3), .val (.int ((0 : Int32) + (1 : Int32)))] [(.int (2 : Int32)), (.int (13 : Int32))])
  refine Go.st (fun _ h => XS.iand X1.here hx rfl (hb hby d_method_4_code_17) rfl h) ?_
  show Go p e below _ T1 (mkF m 18 #[.val (.ref b1), .val (.int (13 : Int32)), .val (.int p3), .val (.int ((0 : Int32) + (1 : Int32)))] [(.int ((13 : Int32) &&& (2 : Int32)))])
  refine Go.st (fun _ h => XS.ifYes X1.here hx rfl (pc0 := 18) (pc' := 30) rfl (hb hby d_method_4_code_18) rfl (by decide) (by decide) (by decide) h) ?_
  show Go p e below _ T1 (mkF m 30 #[.val (.ref b1), .val (.int (13 : Int32)), .val (.int p3), .val (.int ((0 : Int32) + (1 : Int32)))] [])
  refine Go.st (fun _ h => XS.iloadN X1.here hx rfl (hb hby d_method_4_code_30) rfl h) ?_
  show Go p e below _ T1 (mkF m 31 #[.val (.ref b1), .val (.int (13 : Int32)), .val (.int p3), .val (.int ((0 : Int32) + (1 : Int32)))] [(.int (13 : Int32))])
  refine Go.st (fun _ h => XT.iconstV X1.here hx rfl (4 : Int32) (hb hby d_method_4_code_31) (by decide) h) ?_
  show Go p e below _ T1 (mkF m 32 #[.val (.ref b1), .val (.int (13 : Int32)), .val (.int p3), .val (.int ((0 : Int32) + (1 : Int32)))] [(.int (4 : Int32)), (.int (13 : Int32))])
  refine Go.st (fun _ h => XS.iand X1.here hx rfl (hb hby d_method_4_code_32) rfl h) ?_
  show Go p e below _ T1 (mkF m 33 #[.val (.ref b1), .val (.int (13 : Int32)), .val (.int p3), .val (.int ((0 : Int32) + (1 : Int32)))] [(.int ((13 : Int32) &&& (4 : Int32)))])
  refine Go.st (fun _ h => XS.ifNo X1.here hx rfl (hb hby d_method_4_code_33) rfl (by decide) h) ?_
  show Go p e below _ T1 (mkF m 36 #[.val (.ref b1), .val (.int (13 : Int32)), .val (.int p3), .val (.int ((0 : Int32) + (1 : Int32)))] [])
  refine Go.st (fun _ h => XS.aloadN X1.here hx rfl (hb hby d_method_4_code_36) rfl rfl h) ?_
  show Go p e below _ T1 (mkF m 37 #[.val (.ref b1), .val (.int (13 : Int32)), .val (.int p3), .val (.int ((0 : Int32) + (1 : Int32)))] [(.ref b1)])
  refine Go.st (fun _ h => XS.iloadN X1.here hx rfl (hb hby d_method_4_code_37) rfl h) ?_
  show Go p e below _ T1 (mkF m 38 #[.val (.ref b1), .val (.int (13 : Int32)), .val (.int p3), .val (.int ((0 : Int32) + (1 : Int32)))] [(.int ((0 : Int32) + (1 : Int32))), (.ref b1)])
  refine Go.st (fun _ h => XS.iloadN X1.here hx rfl (hb hby d_method_4_code_38) rfl h) ?_
  show Go p e below _ T1 (mkF m 39 #[.val (.ref b1), .val (.int (13 : Int32)), .val (.int p3), .val (.int ((0 : Int32) + (1 : Int32)))] [(.int p3), (.int ((0 : Int32) + (1 : Int32))), (.ref b1)])
  refine Go.st (fun _ h => XT.iconstV X1.here hx rfl (2 : Int32) (hb hby d_method_4_code_39) (by decide) h) ?_
  show Go p e below _ T1 (mkF m 40 #[.val (.ref b1), .val (.int (13 : Int32)), .val (.int p3), .val (.int ((0 : Int32) + (1 : Int32)))] [(.int (2 : Int32)), (.int p3), (.int ((0 : Int32) + (1 : Int32))), (.ref b1)])
  refine Go.st (fun _ h => XS.iadd X1.here hx rfl (hb hby d_method_4_code_40) rfl h) ?_
  show Go p e below _ T1 (mkF m 41 #[.val (.ref b1), .val (.int (13 : Int32)), .val (.int p3), .val (.int ((0 : Int32) + (1 : Int32)))] [(.int (p3 + (2 : Int32))), (.int ((0 : Int32) + (1 : Int32))), (.ref b1)])
  obtain ⟨T2, h2, X2, e2, W2, V2, st2⟩ := own_stI X1 hx hZ e1 (j := ((0 : Int32) + (1 : Int32))) V1' (by decide) (by decide) 1 (by decide) (by simp) (g := (mkF m 41 #[.val (.ref b1), .val (.int (13 : Int32)), .val (.int p3), .val (.int ((0 : Int32) + (1 : Int32)))] [(.int (p3 + (2 : Int32))), (.int ((0 : Int32) + (1 : Int32))), (.ref b1)])) rfl rfl (hb hby d_method_4_code_41)
  have N2 := Fr.snoc X2 N1 g_b1
  have K2 := K1.wr W2 (Or.inl (List.mem_of_getElem? (i := 0) rfl))
  have V2' : Arv Z h2 b1 kb .int (3 : Int32) [(.int p3), (.int (p3 + (2 : Int32))), (.int (0 : Int32))] (.int (0 : Int32)) := V2
  refine Go.st st2 ?_
  show Go p e below _ T2 (mkF m 42 #[.val (.ref b1), .val (.int (13 : Int32)), .val (.int p3), .val (.int ((0 : Int32) + (1 : Int32)))] [])
  refine Go.st (fun _ h => XT.iincV X2.here hx rfl (1 : Int32) (hb hby d_method_4_code_42) (by decide) rfl (l' := #[.val (.ref b1), .val (.int (13 : Int32)), .val (.int p3), .val (.int (((0 : Int32) + (1 : Int32)) + (1 : Int32)))]) rfl h) ?_
  show Go p e below _ T2 (mkF m 45 #[.val (.ref b1), .val (.int (13 : Int32)), .val (.int p3), .val (.int (((0 : Int32) + (1 : Int32)) + (1 : Int32)))] [])
  refine Go.st (fun _ h => XS.iloadN X2.here hx rfl (hb hby d_method_4_code_45) rfl h) ?_
  show Go p e below _ T2 (mkF m 46 #[.val (.ref b1), .val (.int (13 : Int32)), .val (.int p3), .val (.int (((0 : Int32) + (1 : Int32)) + (1 : Int32)))] [(.int (13 : Int32))])
  refine Go.st (fun _ h => XT.bipushV X2.here hx rfl (8 : Int32) (hb hby d_method_4_code_46) (by decide) h) ?_
  show Go p e below _ T2 (mkF m 48 #[.val (.ref b1), .val (.int (13 : Int32)), .val (.int p3), .val (.int (((0 : Int32) + (1 : Int32)) + (1 : Int32)))] [(.int (8 : Int32)), (.int (13 : Int32))])
  refine Go.st (fun _ h => XS.iand X2.here hx rfl (hb hby d_method_4_code_48) rfl h) ?_
  show Go p e below _ T2 (mkF m 49 #[.val (.ref b1), .val (.int (13 : Int32)), .val (.int p3), .val (.int (((0 : Int32) + (1 : Int32)) + (1 : Int32)))] [(.int ((13 : Int32) &&& (8 : Int32)))])
  refine Go.st (fun _ h => XS.ifNo X2.here hx rfl (hb hby d_method_4_code_49) rfl (by decide) h) ?_
  show Go p e below _ T2 (mkF m 52 #[.val (.ref b1), .val (.int (13 : Int32)), .val (.int p3), .val (.int (((0 : Int32) + (1 : Int32)) + (1 : Int32)))] [])
  refine Go.st (fun _ h => XS.aloadN X2.here hx rfl (hb hby d_method_4_code_52) rfl rfl h) ?_
  show Go p e below _ T2 (mkF m 53 #[.val (.ref b1), .val (.int (13 : Int32)), .val (.int p3), .val (.int (((0 : Int32) + (1 : Int32)) + (1 : Int32)))] [(.ref b1)])
  refine Go.st (fun _ h => XS.iloadN X2.here hx rfl (hb hby d_method_4_code_53) rfl h) ?_
  show Go p e below _ T2 (mkF m 54 #[.val (.ref b1), .val (.int (13 : Int32)), .val (.int p3), .val (.int (((0 : Int32) + (1 : Int32)) + (1 : Int32)))] [(.int (((0 : Int32) + (1 : Int32)) + (1 : Int32))), (.ref b1)])
  refine Go.st (fun _ h => XS.iloadN X2.here hx rfl (hb hby d_method_4_code_54) rfl h) ?_
  show Go p e below _ T2 (mkF m 55 #[.val (.ref b1), .val (.int (13 : Int32)), .val (.int p3), .val (.int (((0 : Int32) + (1 : Int32)) + (1 : Int32)))] [(.int p3), (.int (((0 : Int32) + (1 : Int32)) + (1 : Int32))), (.ref b1)])
  refine Go.st (fun _ h => XT.iconstV X2.here hx rfl (3 : Int32) (hb hby d_method_4_code_55) (by decide) h) ?_
  show Go p e below _ T2 (mkF m 56 #[.val (.ref b1), .val (.int (13 : Int32)), .val (.int p3), .val (.int (((0 : Int32) + (1 : Int32)) + (1 : Int32)))] [(.int (3 : Int32)), (.int p3), (.int (((0 : Int32) + (1 : Int32)) + (1 : Int32))), (.ref b1)])
  refine Go.st (fun _ h => XS.iadd X2.here hx rfl (hb hby d_method_4_code_56) rfl h) ?_
  show Go p e below _ T2 (mkF m 57 #[.val (.ref b1), .val (.int (13 : Int32)), .val (.int p3), .val (.int (((0 : Int32) + (1 : Int32)) + (1 : Int32)))] [(.int (p3 + (3 : Int32))), (.int (((0 : Int32) + (1 : Int32)) + (1 : Int32))), (.ref b1)])
  obtain ⟨T3, h3, X3, e3, W3, V3, st3⟩ := own_stI X2 hx hZ e2 (j := (((0 : Int32) + (1 : Int32)) + (1 : Int32))) V2' (by decide) (by decide) 2 (by decide) (by simp) (g := (mkF m 57 #[.val (.ref b1), .val (.int (13 : Int32)), .val (.int p3), .val (.int (((0 : Int32) + (1 : Int32)) + (1 : Int32)))] [(.int (p3 + (3 : Int32))), (.int (((0 : Int32) + (1 : Int32)) + (1 : Int32))), (.ref b1)])) rfl rfl (hb hby d_method_4_code_57)
  have N3 := Fr.snoc X3 N2 g_b1
  have K3 := K2.wr W3 (Or.inl (List.mem_of_getElem? (i := 0) rfl))
  have V3' : Arv Z h3 b1 kb .int (3 : Int32) [(.int p3), (.int (p3 + (2 : Int32))), (.int (p3 + (3 : Int32)))] (.int (0 : Int32)) := V3
  refine Go.st st3 ?_
  show Go p e below _ T3 (mkF m 58 #[.val (.ref b1), .val (.int (13 : Int32)), .val (.int p3), .val (.int (((0 : Int32) + (1 : Int32)) + (1 : Int32)))] [])
  refine Go.st (fun _ h => XT.iincV X3.here hx rfl (1 : Int32) (hb hby d_method_4_code_58) (by decide) rfl (l' := #[.val (.ref b1), .val (.int (13 : Int32)), .val (.int p3), .val (.int ((((0 : Int32) + (1 : Int32)) + (1 : Int32)) + (1 : Int32)))]) rfl h) ?_
  show Go p e below _ T3 (mkF m 61 #[.val (.ref b1), .val (.int (13 : Int32)), .val (.int p3), .val (.int ((((0 : Int32) + (1 : Int32)) + (1 : Int32)) + (1 : Int32)))] [])
  refine Go.retV X3 hx hlk hret (hb hby d_method_4_code_61) (by decide) (by decide) ?_
  rw [e3]
  refine ⟨rfl, N3, K3, ?_⟩
  show Arv Z _ b1 kb .int (3 : Int32) [own_pos p3 0, own_pos p3 2, own_pos p3 3] (.int (0 : Int32))
  rw [own_pos0]
  exact V3'
theorem ef_rmFill14 (x0 : Addr) (x1 : Int32) (x2 : Int32) (m : MethodId) : entryFrame m #[(.ref x0), (.int x1), (.int x2)] 4 = mkF m 0 #[.val (.ref x0), .val (.int x1), .val (.int x2), .unset] [] := by first | (simp [entryFrame, mkF, argsToLocals, Value.category]; done) | rfl
set_option maxRecDepth 65536 in
set_option maxHeartbeats 40000000 in
theorem rmFill14 (l : Launch) (Z : State) (a0 : Array Value) (hw : ∀ d ∈ tables_1, d.before a0 Z = true) (b1 : Addr) (kb : ClassId) (p3 : Int32) (h0 : Heap) (n0 : Nat) (Z0 : n0 ≤ h0.size) (B_1 : Arv Z h0 b1 kb .int (3 : Int32) [(.int (0 : Int32)), (.int (0 : Int32)), (.int (0 : Int32))] (.int (0 : Int32))) (g_b1 : n0 ≤ b1) :
    Does l Z (⟨"com/example/bindwell/bindwell/collect/ListChangeMovesFromPinLaw", "fill", "([III)V"⟩ : MethodName) method_4_code 4 none [] ({ frames := 0, cells := 0, slots := 0, locals := 0 } : Room) #[(.ref b1), (.int (14 : Int32)), (.int p3)] h0 (fun v h L => v = none ∧ Fr n0 L ∧ Keep h0 h [b1] ∧ Arv Z h b1 kb .int (Int32.ofNat (own_cnt 14)) ((own_bits 14).map (own_pos p3)) (.int (0 : Int32))) := by
  refine Does.intro (plainFor_of_name pn_com_example_bindwell_bindwell_collect_ListChangeMovesFromPinLaw) (ef_rmFill14 b1 (14 : Int32) p3) ?_
  intro p e s m below meth c s₁ hx hby hml hown hnm hret hlk hZ e0 X0
  show Go p e below _ s₁ (mkF m 0 #[.val (.ref b1), .val (.int (14 : Int32)), .val (.int p3), .unset] [])
  have N0 := Fr.nil n0
  refine Go.st (fun _ h => XT.iconstV X0.here hx rfl (0 : Int32) (hb hby d_method_4_code_0) (by decide) h) ?_
  show Go p e below _ s₁ (mkF m 1 #[.val (.ref b1), .val (.int (14 : Int32)), .val (.int p3), .unset] [(.int (0 : Int32))])
  refine Go.st (fun _ h => XS.istoreN X0.here hx rfl (hb hby d_method_4_code_1) rfl (l' := #[.val (.ref b1), .val (.int (14 : Int32)), .val (.int p3), .val (.int (0 : Int32))]) rfl h) ?_
  show Go p e below _ s₁ (mkF m 2 #[.val (.ref b1), .val (.int (14 : Int32)), .val (.int p3), .val (.int (0 : Int32))] [])
  refine Go.st (fun _ h => XS.iloadN X0.here hx rfl (hb hby d_method_4_code_2) rfl h) ?_
  show Go p e below _ s₁ (mkF m 3 #[.val (.ref b1), .val (.int (14 : Int32)), .val (.int p3), .val (.int (0 : Int32))] [(.int (14 : Int32))])
  refine Go.st (fun _ h => XT.iconstV X0.here hx rfl (1 : Int32) (hb hby d_method_4_code_3) (by decide) h) ?_
  show Go p e below _ s₁ (mkF m 4 #[.val (.ref b1), .val (.int (14 : Int32)), .val (.int p3), .val (.int (0 : Int32))] [(.int (1 : Int32)), (.int (14 : Int32))])
  refine Go.st (fun _ h => XS.iand X0.here hx rfl (hb hby d_method_4_code_4) rfl h) ?_
  show Go p e below _ s₁ (mkF m 5 #[.val (.ref b1), .val (.int (14 : Int32)), .val (.int p3), .val (.int (0 : Int32))] [(.int ((14 : Int32) &&& (1 : Int32)))])
  refine Go.st (fun _ h => XS.ifYes X0.here hx rfl (pc0 := 5) (pc' := 15) rfl (hb hby d_method_4_code_5) rfl (by decide) (by decide) (by decide) h) ?_
  show Go p e below _ s₁ (mkF m 15 #[.val (.ref b1), .val (.int (14 : Int32)), .val (.int p3), .val (.int (0 : Int32))] [])
  refine Go.st (fun _ h => XS.iloadN X0.here hx rfl (hb hby d_method_4_code_15) rfl h) ?_
  show Go p e below _ s₁ (mkF m 16 #[.val (.ref b1), .val (.int (14 : Int32)), .val (.int p3), .val (.int (0 : Int32))] [(.int (14 : Int32))])
  refine Go.st (fun _ h => XT.iconstV X0.here hx rfl (2 : Int32) (hb hby d_method_4_code_16) (by decide) h) ?_
  show Go p e below _ s₁ (mkF m 17 #[.val (.ref b1), .val (.int (14 : Int32)), .val (.int p3), .val (.int (0 : Int32))] [(.int (2 : Int32)), (.int (14 : Int32))])
  refine Go.st (fun _ h => XS.iand X0.here hx rfl (hb hby d_method_4_code_17) rfl h) ?_
  show Go p e below _ s₁ (mkF m 18 #[.val (.ref b1), .val (.int (14 : Int32)), .val (.int p3), .val (.int (0 : Int32))] [(.int ((14 : Int32) &&& (2 : Int32)))])
  refine Go.st (fun _ h => XS.ifNo X0.here hx rfl (hb hby d_method_4_code_18) rfl (by decide) h) ?_
  show Go p e below _ s₁ (mkF m 21 #[.val (.ref b1), .val (.int (14 : Int32)), .val (.int p3), .val (.int (0 : Int32))] [])
  refine Go.st (fun _ h => XS.aloadN X0.here hx rfl (hb hby d_method_4_code_21) rfl rfl h) ?_
  show Go p e below _ s₁ (mkF m 22 #[.val (.ref b1), .val (.int (14 : Int32)), .val (.int p3), .val (.int (0 : Int32))] [(.ref b1)])
  refine Go.st (fun _ h => XS.iloadN X0.here hx rfl (hb hby d_method_4_code_22) rfl h) ?_
  show Go p e below _ s₁ (mkF m 23 #[.val (.ref b1), .val (.int (14 : Int32)), .val (.int p3), .val (.int (0 : Int32))] [(.int (0 : Int32)), (.ref b1)])
  refine Go.st (fun _ h => XS.iloadN X0.here hx rfl (hb hby d_method_4_code_23) rfl h) ?_
  show Go p e below _ s₁ (mkF m 24 #[.val (.ref b1), .val (.int (14 : Int32)), .val (.int p3), .val (.int (0 : Int32))] [(.int p3), (.int (0 : Int32)), (.ref b1)])
  refine Go.st (fun _ h => XT.iconstV X0.here hx rfl (1 : Int32) (hb hby d_method_4_code_24) (by decide) h) ?_
  show Go p e below _ s₁ (mkF m 25 #[.val (.ref b1), .val (.int (14 : Int32)), .val (.int p3), .val (.int (0 : Int32))] [(.int (1 : Int32)), (.int p3), (.int (0 : Int32)), (.ref b1)])
  refine Go.st (fun _ h => XS.iadd X0.here hx rfl (hb hby d_method_4_code_25) rfl h) ?_
  show Go p e below _ s₁ (mkF m 26 #[.val (.ref b1), .val (.int (14 : Int32)), .val (.int p3), .val (.int (0 : Int32))] [(.int (p3 + (1 : Int32))), (.int (0 : Int32)), (.ref b1)])
  obtain ⟨T1, h1, X1, e1, W1, V1, st1⟩ := own_stI X0 hx hZ e0 (j := (0 : Int32)) B_1 (by decide) (by decide) 0 (by decide) (by simp) (g := (mkF m 26 #[.val (.ref b1), .val (.int (14 : Int32)), .val (.int p3), .val (.int (0 : Int32))] [(.int (p3 + (1 : Int32))), (.int (0 : Int32)), (.ref b1)])) rfl rfl (hb hby d_method_4_code_26)
  have N1 := Fr.snoc X1 N0 g_b1
  have K1 := (Keep.refl _ [b1]).wr W1 (Or.inl (List.mem_of_getElem? (i := 0) rfl))
  have V1' : Arv Z h1 b1 kb .int (3 : Int32) [(.int (p3 + (1 : Int32))), (.int (0 : Int32)), (.int (0 : Int32))] (.int (0 : Int32)) := V1
  refine Go.st st1 ?_
  show Go p e below _ T1 (mkF m 27 #[.val (.ref b1), .val (.int (14 : Int32)), .val (.int p3), .val (.int (0 : Int32))] [])
  refine Go.st (fun _ h => XT.iincV X1.here hx rfl (1 : Int32) (hb hby d_method_4_code_27) (by decide) rfl (l' := #[.val (.ref b1), .val (.int (14 : Int32)), .val (.int p3), .val (.int ((0 : Int32) + (1 : Int32)))]) rfl h) ?_
  show Go p e below _ T1 (mkF m 30 #[.val (.ref b1), .val (.int (14 : Int32)), .val (.int p3), .val (.int ((0 : Int32) + (1 : Int32)))] [])
  refine Go.st (fun _ h => XS.iloadN X1.here hx rfl (hb hby d_method_4_code_30) rfl h) ?_
  show Go p e below _ T1 (mkF m 31 #[.val (.ref b1), .val (.int (14 : Int32)), .val (.int p3), .val (.int ((0 : Int32) + (1 : Int32)))] [(.int (14 : Int32))])
  refine Go.st (fun _ h => XT.iconstV X1.here hx rfl (4 : Int32) (hb hby d_method_4_code_31) (by decide) h) ?_
  show Go p e below _ T1 (mkF m 32 #[.val (.ref b1), .val (.int (14 : Int32)), .val (.int p3), .val (.int ((0 : Int32) + (1 : Int32)))] [(.int (4 : Int32)), (.int (14 : Int32))])
  refine Go.st (fun _ h => XS.iand X1.here hx rfl (hb hby d_method_4_code_32) rfl h) ?_
  show Go p e below _ T1 (mkF m 33 #[.val (.ref b1), .val (.int (14 : Int32)), .val (.int p3), .val (.int ((0 : Int32) + (1 : Int32)))] [(.int ((14 : Int32) &&& (4 : Int32)))])
  refine Go.st (fun _ h => XS.ifNo X1.here hx rfl (hb hby d_method_4_code_33) rfl (by decide) h) ?_
  show Go p e below _ T1 (mkF m 36 #[.val (.ref b1), .val (.int (14 : Int32)), .val (.int p3), .val (.int ((0 : Int32) + (1 : Int32)))] [])
  refine Go.st (fun _ h => XS.aloadN X1.here hx rfl (hb hby d_method_4_code_36) rfl rfl h) ?_
  show Go p e below _ T1 (mkF m 37 #[.val (.ref b1), .val (.int (14 : Int32)), .val (.int p3), .val (.int ((0 : Int32) + (1 : Int32)))] [(.ref b1)])
  refine Go.st (fun _ h => XS.iloadN X1.here hx rfl (hb hby d_method_4_code_37) rfl h) ?_
  show Go p e below _ T1 (mkF m 38 #[.val (.ref b1), .val (.int (14 : Int32)), .val (.int p3), .val (.int ((0 : Int32) + (1 : Int32)))] [(.int ((0 : Int32) + (1 : Int32))), (.ref b1)])
  refine Go.st (fun _ h => XS.iloadN X1.here hx rfl (hb hby d_method_4_code_38) rfl h) ?_
  show Go p e below _ T1 (mkF m 39 #[.val (.ref b1), .val (.int (14 : Int32)), .val (.int p3), .val (.int ((0 : Int32) + (1 : Int32)))] [(.int p3), (.int ((0 : Int32) + (1 : Int32))), (.ref b1)])
  refine Go.st (fun _ h => XT.iconstV X1.here hx rfl (2 : Int32) (hb hby d_method_4_code_39) (by decide) h) ?_
  show Go p e below _ T1 (mkF m 40 #[.val (.ref b1), .val (.int (14 : Int32)), .val (.int p3), .val (.int ((0 : Int32) + (1 : Int32)))] [(.int (2 : Int32)), (.int p3), (.int ((0 : Int32) + (1 : Int32))), (.ref b1)])
  refine Go.st (fun _ h => XS.iadd X1.here hx rfl (hb hby d_method_4_code_40) rfl h) ?_
  show Go p e below _ T1 (mkF m 41 #[.val (.ref b1), .val (.int (14 : Int32)), .val (.int p3), .val (.int ((0 : Int32) + (1 : Int32)))] [(.int (p3 + (2 : Int32))), (.int ((0 : Int32) + (1 : Int32))), (.ref b1)])
  obtain ⟨T2, h2, X2, e2, W2, V2, st2⟩ := own_stI X1 hx hZ e1 (j := ((0 : Int32) + (1 : Int32))) V1' (by decide) (by decide) 1 (by decide) (by simp) (g := (mkF m 41 #[.val (.ref b1), .val (.int (14 : Int32)), .val (.int p3), .val (.int ((0 : Int32) + (1 : Int32)))] [(.int (p3 + (2 : Int32))), (.int ((0 : Int32) + (1 : Int32))), (.ref b1)])) rfl rfl (hb hby d_method_4_code_41)
  have N2 := Fr.snoc X2 N1 g_b1
  have K2 := K1.wr W2 (Or.inl (List.mem_of_getElem? (i := 0) rfl))
  have V2' : Arv Z h2 b1 kb .int (3 : Int32) [(.int (p3 + (1 : Int32))), (.int (p3 + (2 : Int32))), (.int (0 : Int32))] (.int (0 : Int32)) := V2
  refine Go.st st2 ?_
  show Go p e below _ T2 (mkF m 42 #[.val (.ref b1), .val (.int (14 : Int32)), .val (.int p3), .val (.int ((0 : Int32) + (1 : Int32)))] [])
  refine Go.st (fun _ h => XT.iincV X2.here hx rfl (1 : Int32) (hb hby d_method_4_code_42) (by decide) rfl (l' := #[.val (.ref b1), .val (.int (14 : Int32)), .val (.int p3), .val (.int (((0 : Int32) + (1 : Int32)) + (1 : Int32)))]) rfl h) ?_
  show Go p e below _ T2 (mkF m 45 #[.val (.ref b1), .val (.int (14 : Int32)), .val (.int p3), .val (.int (((0 : Int32) + (1 : Int32)) + (1 : Int32)))] [])
  refine Go.st (fun _ h => XS.iloadN X2.here hx rfl (hb hby d_method_4_code_45) rfl h) ?_
  show Go p e below _ T2 (mkF m 46 #[.val (.ref b1), .val (.int (14 : Int32)), .val (.int p3), .val (.int (((0 : Int32) + (1 : Int32)) + (1 : Int32)))] [(.int (14 : Int32))])
  refine Go.st (fun _ h => XT.bipushV X2.here hx rfl (8 : Int32) (hb hby d_method_4_code_46) (by decide) h) ?_
  show Go p e below _ T2 (mkF m 48 #[.val (.ref b1), .val (.int (14 : Int32)), .val (.int p3), .val (.int (((0 : Int32) + (1 : Int32)) + (1 : Int32)))] [(.int (8 : Int32)), (.int (14 : Int32))])
  refine Go.st (fun _ h => XS.iand X2.here hx rfl (hb hby d_method_4_code_48) rfl h) ?_
  show Go p e below _ T2 (mkF m 49 #[.val (.ref b1), .val (.int (14 : Int32)), .val (.int p3), .val (.int (((0 : Int32) + (1 : Int32)) + (1 : Int32)))] [(.int ((14 : Int32) &&& (8 : Int32)))])
  refine Go.st (fun _ h => XS.ifNo X2.here hx rfl (hb hby d_method_4_code_49) rfl (by decide) h) ?_
  show Go p e below _ T2 (mkF m 52 #[.val (.ref b1), .val (.int (14 : Int32)), .val (.int p3), .val (.int (((0 : Int32) + (1 : Int32)) + (1 : Int32)))] [])
  refine Go.st (fun _ h => XS.aloadN X2.here hx rfl (hb hby d_method_4_code_52) rfl rfl h) ?_
  show Go p e below _ T2 (mkF m 53 #[.val (.ref b1), .val (.int (14 : Int32)), .val (.int p3), .val (.int (((0 : Int32) + (1 : Int32)) + (1 : Int32)))] [(.ref b1)])
  refine Go.st (fun _ h => XS.iloadN X2.here hx rfl (hb hby d_method_4_code_53) rfl h) ?_
  show Go p e below _ T2 (mkF m 54 #[.val (.ref b1), .val (.int (14 : Int32)), .val (.int p3), .val (.int (((0 : Int32) + (1 : Int32)) + (1 : Int32)))] [(.int (((0 : Int32) + (1 : Int32)) + (1 : Int32))), (.ref b1)])
  refine Go.st (fun _ h => XS.iloadN X2.here hx rfl (hb hby d_method_4_code_54) rfl h) ?_
  show Go p e below _ T2 (mkF m 55 #[.val (.ref b1), .val (.int (14 : Int32)), .val (.int p3), .val (.int (((0 : Int32) + (1 : Int32)) + (1 : Int32)))] [(.int p3), (.int (((0 : Int32) + (1 : Int32)) + (1 : Int32))), (.ref b1)])
  refine Go.st (fun _ h => XT.iconstV X2.here hx rfl (3 : Int32) (hb hby d_method_4_code_55) (by decide) h) ?_
  show Go p e below _ T2 (mkF m 56 #[.val (.ref b1), .val (.int (14 : Int32)), .val (.int p3), .val (.int (((0 : Int32) + (1 : Int32)) + (1 : Int32)))] [(.int (3 : Int32)), (.int p3), (.int (((0 : Int32) + (1 : Int32)) + (1 : Int32))), (.ref b1)])
  refine Go.st (fun _ h => XS.iadd X2.here hx rfl (hb hby d_method_4_code_56) rfl h) ?_
  show Go p e below _ T2 (mkF m 57 #[.val (.ref b1), .val (.int (14 : Int32)), .val (.int p3), .val (.int (((0 : Int32) + (1 : Int32)) + (1 : Int32)))] [(.int (p3 + (3 : Int32))), (.int (((0 : Int32) + (1 : Int32)) + (1 : Int32))), (.ref b1)])
  obtain ⟨T3, h3, X3, e3, W3, V3, st3⟩ := own_stI X2 hx hZ e2 (j := (((0 : Int32) + (1 : Int32)) + (1 : Int32))) V2' (by decide) (by decide) 2 (by decide) (by simp) (g := (mkF m 57 #[.val (.ref b1), .val (.int (14 : Int32)), .val (.int p3), .val (.int (((0 : Int32) + (1 : Int32)) + (1 : Int32)))] [(.int (p3 + (3 : Int32))), (.int (((0 : Int32) + (1 : Int32)) + (1 : Int32))), (.ref b1)])) rfl rfl (hb hby d_method_4_code_57)
  have N3 := Fr.snoc X3 N2 g_b1
  have K3 := K2.wr W3 (Or.inl (List.mem_of_getElem? (i := 0) rfl))
  have V3' : Arv Z h3 b1 kb .int (3 : Int32) [(.int (p3 + (1 : Int32))), (.int (p3 + (2 : Int32))), (.int (p3 + (3 : Int32)))] (.int (0 : Int32)) := V3
  refine Go.st st3 ?_
  show Go p e below _ T3 (mkF m 58 #[.val (.ref b1), .val (.int (14 : Int32)), .val (.int p3), .val (.int (((0 : Int32) + (1 : Int32)) + (1 : Int32)))] [])
  refine Go.st (fun _ h => XT.iincV X3.here hx rfl (1 : Int32) (hb hby d_method_4_code_58) (by decide) rfl (l' := #[.val (.ref b1), .val (.int (14 : Int32)), .val (.int p3), .val (.int ((((0 : Int32) + (1 : Int32)) + (1 : Int32)) + (1 : Int32)))]) rfl h) ?_
  show Go p e below _ T3 (mkF m 61 #[.val (.ref b1), .val (.int (14 : Int32)), .val (.int p3), .val (.int ((((0 : Int32) + (1 : Int32)) + (1 : Int32)) + (1 : Int32)))] [])
  refine Go.retV X3 hx hlk hret (hb hby d_method_4_code_61) (by decide) (by decide) ?_
  rw [e3]
  refine ⟨rfl, N3, K3, ?_⟩
  show Arv Z _ b1 kb .int (3 : Int32) [own_pos p3 1, own_pos p3 2, own_pos p3 3] (.int (0 : Int32))
  exact V3'
theorem ef_rmFill15 (x0 : Addr) (x1 : Int32) (x2 : Int32) (m : MethodId) : entryFrame m #[(.ref x0), (.int x1), (.int x2)] 4 = mkF m 0 #[.val (.ref x0), .val (.int x1), .val (.int x2), .unset] [] := by first | (simp [entryFrame, mkF, argsToLocals, Value.category]; done) | rfl
set_option maxRecDepth 65536 in
set_option maxHeartbeats 40000000 in
theorem rmFill15 (l : Launch) (Z : State) (a0 : Array Value) (hw : ∀ d ∈ tables_1, d.before a0 Z = true) (b1 : Addr) (kb : ClassId) (p3 : Int32) (h0 : Heap) (n0 : Nat) (Z0 : n0 ≤ h0.size) (B_1 : Arv Z h0 b1 kb .int (4 : Int32) [(.int (0 : Int32)), (.int (0 : Int32)), (.int (0 : Int32)), (.int (0 : Int32))] (.int (0 : Int32))) (g_b1 : n0 ≤ b1) :
    Does l Z (⟨"com/example/bindwell/bindwell/collect/ListChangeMovesFromPinLaw", "fill", "([III)V"⟩ : MethodName) method_4_code 4 none [] ({ frames := 0, cells := 0, slots := 0, locals := 0 } : Room) #[(.ref b1), (.int (15 : Int32)), (.int p3)] h0 (fun v h L => v = none ∧ Fr n0 L ∧ Keep h0 h [b1] ∧ Arv Z h b1 kb .int (Int32.ofNat (own_cnt 15)) ((own_bits 15).map (own_pos p3)) (.int (0 : Int32))) := by
  refine Does.intro (plainFor_of_name pn_com_example_bindwell_bindwell_collect_ListChangeMovesFromPinLaw) (ef_rmFill15 b1 (15 : Int32) p3) ?_
  intro p e s m below meth c s₁ hx hby hml hown hnm hret hlk hZ e0 X0
  show Go p e below _ s₁ (mkF m 0 #[.val (.ref b1), .val (.int (15 : Int32)), .val (.int p3), .unset] [])
  have N0 := Fr.nil n0
  refine Go.st (fun _ h => XT.iconstV X0.here hx rfl (0 : Int32) (hb hby d_method_4_code_0) (by decide) h) ?_
  show Go p e below _ s₁ (mkF m 1 #[.val (.ref b1), .val (.int (15 : Int32)), .val (.int p3), .unset] [(.int (0 : Int32))])
  refine Go.st (fun _ h => XS.istoreN X0.here hx rfl (hb hby d_method_4_code_1) rfl (l' := #[.val (.ref b1), .val (.int (15 : Int32)), .val (.int p3), .val (.int (0 : Int32))]) rfl h) ?_
  show Go p e below _ s₁ (mkF m 2 #[.val (.ref b1), .val (.int (15 : Int32)), .val (.int p3), .val (.int (0 : Int32))] [])
  refine Go.st (fun _ h => XS.iloadN X0.here hx rfl (hb hby d_method_4_code_2) rfl h) ?_
  show Go p e below _ s₁ (mkF m 3 #[.val (.ref b1), .val (.int (15 : Int32)), .val (.int p3), .val (.int (0 : Int32))] [(.int (15 : Int32))])
  refine Go.st (fun _ h => XT.iconstV X0.here hx rfl (1 : Int32) (hb hby d_method_4_code_3) (by decide) h) ?_
  show Go p e below _ s₁ (mkF m 4 #[.val (.ref b1), .val (.int (15 : Int32)), .val (.int p3), .val (.int (0 : Int32))] [(.int (1 : Int32)), (.int (15 : Int32))])
  refine Go.st (fun _ h => XS.iand X0.here hx rfl (hb hby d_method_4_code_4) rfl h) ?_
  show Go p e below _ s₁ (mkF m 5 #[.val (.ref b1), .val (.int (15 : Int32)), .val (.int p3), .val (.int (0 : Int32))] [(.int ((15 : Int32) &&& (1 : Int32)))])
  refine Go.st (fun _ h => XS.ifNo X0.here hx rfl (hb hby d_method_4_code_5) rfl (by decide) h) ?_
  show Go p e below _ s₁ (mkF m 8 #[.val (.ref b1), .val (.int (15 : Int32)), .val (.int p3), .val (.int (0 : Int32))] [])
  refine Go.st (fun _ h => XS.aloadN X0.here hx rfl (hb hby d_method_4_code_8) rfl rfl h) ?_
  show Go p e below _ s₁ (mkF m 9 #[.val (.ref b1), .val (.int (15 : Int32)), .val (.int p3), .val (.int (0 : Int32))] [(.ref b1)])
  refine Go.st (fun _ h => XS.iloadN X0.here hx rfl (hb hby d_method_4_code_9) rfl h) ?_
  show Go p e below _ s₁ (mkF m 10 #[.val (.ref b1), .val (.int (15 : Int32)), .val (.int p3), .val (.int (0 : Int32))] [(.int (0 : Int32)), (.ref b1)])
  refine Go.st (fun _ h => XS.iloadN X0.here hx rfl (hb hby d_method_4_code_10) rfl h) ?_
  show Go p e below _ s₁ (mkF m 11 #[.val (.ref b1), .val (.int (15 : Int32)), .val (.int p3), .val (.int (0 : Int32))] [(.int p3), (.int (0 : Int32)), (.ref b1)])
  obtain ⟨T1, h1, X1, e1, W1, V1, st1⟩ := own_stI X0 hx hZ e0 (j := (0 : Int32)) B_1 (by decide) (by decide) 0 (by decide) (by simp) (g := (mkF m 11 #[.val (.ref b1), .val (.int (15 : Int32)), .val (.int p3), .val (.int (0 : Int32))] [(.int p3), (.int (0 : Int32)), (.ref b1)])) rfl rfl (hb hby d_method_4_code_11)
  have N1 := Fr.snoc X1 N0 g_b1
  have K1 := (Keep.refl _ [b1]).wr W1 (Or.inl (List.mem_of_getElem? (i := 0) rfl))
  have V1' : Arv Z h1 b1 kb .int (4 : Int32) [(.int p3), (.int (0 : Int32)), (.int (0 : Int32)), (.int (0 : Int32))] (.int (0 : Int32)) := V1
  refine Go.st st1 ?_
  show Go p e below _ T1 (mkF m 12 #[.val (.ref b1), .val (.int (15 : Int32)), .val (.int p3), .val (.int (0 : Int32))] [])
  refine Go.st (fun _ h => XT.iincV X1.here hx rfl (1 : Int32) (hb hby d_method_4_code_12) (by decide) rfl (l' := #[.val (.ref b1), .val (.int (15 : Int32)), .val (.int p3), .val (.int ((0 : Int32) + (1 : Int32)))]) rfl h) ?_
  show Go p e below _ T1 (mkF m 15 #[.val (.ref b1), .val (.int (15 : Int32)), .val (.int p3), .val (.int ((0 : Int32) + (1 : Int32)))] [])
  refine Go.st (fun _ h => XS.iloadN X1.here hx rfl (hb hby d_method_4_code_15) rfl h) ?_
  show Go p e below _ T1 (mkF m 16 #[.val (.ref b1), .val (.int (15 : Int32)), .val (.int p3), .val (.int ((0 : Int32) + (1 : Int32)))] [(.int (15 : Int32))])
  refine Go.st (fun _ h => XT.iconstV X1.here hx rfl (2 : Int32) (hb hby d_method_4_code_16) (by decide) h) ?_
  show Go p e below _ T1 (mkF m 17 #[.val (.ref b1), .val (.int (15 : Int32)), .val (.int p3), .val (.int ((0 : Int32) + (1 : Int32)))] [(.int (2 : Int32)), (.int (15 : Int32))])
  refine Go.st (fun _ h => XS.iand X1.here hx rfl (hb hby d_method_4_code_17) rfl h) ?_
  show Go p e below _ T1 (mkF m 18 #[.val (.ref b1), .val (.int (15 : Int32)), .val (.int p3), .val (.int ((0 : Int32) + (1 : Int32)))] [(.int ((15 : Int32) &&& (2 : Int32)))])
  refine Go.st (fun _ h => XS.ifNo X1.here hx rfl (hb hby d_method_4_code_18) rfl (by decide) h) ?_
  show Go p e below _ T1 (mkF m 21 #[.val (.ref b1), .val (.int (15 : Int32)), .val (.int p3), .val (.int ((0 : Int32) + (1 : Int32)))] [])
  refine Go.st (fun _ h => XS.aloadN X1.here hx rfl (hb hby d_method_4_code_21) rfl rfl h) ?_
  show Go p e below _ T1 (mkF m 22 #[.val (.ref b1), .val (.int (15 : Int32)), .val (.int p3), .val (.int ((0 : Int32) + (1 : Int32)))] [(.ref b1)])
  refine Go.st (fun _ h => XS.iloadN X1.here hx rfl (hb hby d_method_4_code_22) rfl h) ?_
  show Go p e below _ T1 (mkF m 23 #[.val (.ref b1), .val (.int (15 : Int32)), .val (.int p3), .val (.int ((0 : Int32) + (1 : Int32)))] [(.int ((0 : Int32) + (1 : Int32))), (.ref b1)])
  refine Go.st (fun _ h => XS.iloadN X1.here hx rfl (hb hby d_method_4_code_23) rfl h) ?_
  show Go p e below _ T1 (mkF m 24 #[.val (.ref b1), .val (.int (15 : Int32)), .val (.int p3), .val (.int ((0 : Int32) + (1 : Int32)))] [(.int p3), (.int ((0 : Int32) + (1 : Int32))), (.ref b1)])
  refine Go.st (fun _ h => XT.iconstV X1.here hx rfl (1 : Int32) (hb hby d_method_4_code_24) (by decide) h) ?_
  show Go p e below _ T1 (mkF m 25 #[.val (.ref b1), .val (.int (15 : Int32)), .val (.int p3), .val (.int ((0 : Int32) + (1 : Int32)))] [(.int (1 : Int32)), (.int p3), (.int ((0 : Int32) + (1 : Int32))), (.ref b1)])
  refine Go.st (fun _ h => XS.iadd X1.here hx rfl (hb hby d_method_4_code_25) rfl h) ?_
  show Go p e below _ T1 (mkF m 26 #[.val (.ref b1), .val (.int (15 : Int32)), .val (.int p3), .val (.int ((0 : Int32) + (1 : Int32)))] [(.int (p3 + (1 : Int32))), (.int ((0 : Int32) + (1 : Int32))), (.ref b1)])
  obtain ⟨T2, h2, X2, e2, W2, V2, st2⟩ := own_stI X1 hx hZ e1 (j := ((0 : Int32) + (1 : Int32))) V1' (by decide) (by decide) 1 (by decide) (by simp) (g := (mkF m 26 #[.val (.ref b1), .val (.int (15 : Int32)), .val (.int p3), .val (.int ((0 : Int32) + (1 : Int32)))] [(.int (p3 + (1 : Int32))), (.int ((0 : Int32) + (1 : Int32))), (.ref b1)])) rfl rfl (hb hby d_method_4_code_26)
  have N2 := Fr.snoc X2 N1 g_b1
  have K2 := K1.wr W2 (Or.inl (List.mem_of_getElem? (i := 0) rfl))
  have V2' : Arv Z h2 b1 kb .int (4 : Int32) [(.int p3), (.int (p3 + (1 : Int32))), (.int (0 : Int32)), (.int (0 : Int32))] (.int (0 : Int32)) := V2
  refine Go.st st2 ?_
  show Go p e below _ T2 (mkF m 27 #[.val (.ref b1), .val (.int (15 : Int32)), .val (.int p3), .val (.int ((0 : Int32) + (1 : Int32)))] [])
  refine Go.st (fun _ h => XT.iincV X2.here hx rfl (1 : Int32) (hb hby d_method_4_code_27) (by decide) rfl (l' := #[.val (.ref b1), .val (.int (15 : Int32)), .val (.int p3), .val (.int (((0 : Int32) + (1 : Int32)) + (1 : Int32)))]) rfl h) ?_
  show Go p e below _ T2 (mkF m 30 #[.val (.ref b1), .val (.int (15 : Int32)), .val (.int p3), .val (.int (((0 : Int32) + (1 : Int32)) + (1 : Int32)))] [])
  refine Go.st (fun _ h => XS.iloadN X2.here hx rfl (hb hby d_method_4_code_30) rfl h) ?_
  show Go p e below _ T2 (mkF m 31 #[.val (.ref b1), .val (.int (15 : Int32)), .val (.int p3), .val (.int (((0 : Int32) + (1 : Int32)) + (1 : Int32)))] [(.int (15 : Int32))])
  refine Go.st (fun _ h => XT.iconstV X2.here hx rfl (4 : Int32) (hb hby d_method_4_code_31) (by decide) h) ?_
  show Go p e below _ T2 (mkF m 32 #[.val (.ref b1), .val (.int (15 : Int32)), .val (.int p3), .val (.int (((0 : Int32) + (1 : Int32)) + (1 : Int32)))] [(.int (4 : Int32)), (.int (15 : Int32))])
  refine Go.st (fun _ h => XS.iand X2.here hx rfl (hb hby d_method_4_code_32) rfl h) ?_
  show Go p e below _ T2 (mkF m 33 #[.val (.ref b1), .val (.int (15 : Int32)), .val (.int p3), .val (.int (((0 : Int32) + (1 : Int32)) + (1 : Int32)))] [(.int ((15 : Int32) &&& (4 : Int32)))])
  refine Go.st (fun _ h => XS.ifNo X2.here hx rfl (hb hby d_method_4_code_33) rfl (by decide) h) ?_
  show Go p e below _ T2 (mkF m 36 #[.val (.ref b1), .val (.int (15 : Int32)), .val (.int p3), .val (.int (((0 : Int32) + (1 : Int32)) + (1 : Int32)))] [])
  refine Go.st (fun _ h => XS.aloadN X2.here hx rfl (hb hby d_method_4_code_36) rfl rfl h) ?_
  show Go p e below _ T2 (mkF m 37 #[.val (.ref b1), .val (.int (15 : Int32)), .val (.int p3), .val (.int (((0 : Int32) + (1 : Int32)) + (1 : Int32)))] [(.ref b1)])
  refine Go.st (fun _ h => XS.iloadN X2.here hx rfl (hb hby d_method_4_code_37) rfl h) ?_
  show Go p e below _ T2 (mkF m 38 #[.val (.ref b1), .val (.int (15 : Int32)), .val (.int p3), .val (.int (((0 : Int32) + (1 : Int32)) + (1 : Int32)))] [(.int (((0 : Int32) + (1 : Int32)) + (1 : Int32))), (.ref b1)])
  refine Go.st (fun _ h => XS.iloadN X2.here hx rfl (hb hby d_method_4_code_38) rfl h) ?_
  show Go p e below _ T2 (mkF m 39 #[.val (.ref b1), .val (.int (15 : Int32)), .val (.int p3), .val (.int (((0 : Int32) + (1 : Int32)) + (1 : Int32)))] [(.int p3), (.int (((0 : Int32) + (1 : Int32)) + (1 : Int32))), (.ref b1)])
  refine Go.st (fun _ h => XT.iconstV X2.here hx rfl (2 : Int32) (hb hby d_method_4_code_39) (by decide) h) ?_
  show Go p e below _ T2 (mkF m 40 #[.val (.ref b1), .val (.int (15 : Int32)), .val (.int p3), .val (.int (((0 : Int32) + (1 : Int32)) + (1 : Int32)))] [(.int (2 : Int32)), (.int p3), (.int (((0 : Int32) + (1 : Int32)) + (1 : Int32))), (.ref b1)])
  refine Go.st (fun _ h => XS.iadd X2.here hx rfl (hb hby d_method_4_code_40) rfl h) ?_
  show Go p e below _ T2 (mkF m 41 #[.val (.ref b1), .val (.int (15 : Int32)), .val (.int p3), .val (.int (((0 : Int32) + (1 : Int32)) + (1 : Int32)))] [(.int (p3 + (2 : Int32))), (.int (((0 : Int32) + (1 : Int32)) + (1 : Int32))), (.ref b1)])
  obtain ⟨T3, h3, X3, e3, W3, V3, st3⟩ := own_stI X2 hx hZ e2 (j := (((0 : Int32) + (1 : Int32)) + (1 : Int32))) V2' (by decide) (by decide) 2 (by decide) (by simp) (g := (mkF m 41 #[.val (.ref b1), .val (.int (15 : Int32)), .val (.int p3), .val (.int (((0 : Int32) + (1 : Int32)) + (1 : Int32)))] [(.int (p3 + (2 : Int32))), (.int (((0 : Int32) + (1 : Int32)) + (1 : Int32))), (.ref b1)])) rfl rfl (hb hby d_method_4_code_41)
  have N3 := Fr.snoc X3 N2 g_b1
  have K3 := K2.wr W3 (Or.inl (List.mem_of_getElem? (i := 0) rfl))
  have V3' : Arv Z h3 b1 kb .int (4 : Int32) [(.int p3), (.int (p3 + (1 : Int32))), (.int (p3 + (2 : Int32))), (.int (0 : Int32))] (.int (0 : Int32)) := V3
  refine Go.st st3 ?_
  show Go p e below _ T3 (mkF m 42 #[.val (.ref b1), .val (.int (15 : Int32)), .val (.int p3), .val (.int (((0 : Int32) + (1 : Int32)) + (1 : Int32)))] [])
  refine Go.st (fun _ h => XT.iincV X3.here hx rfl (1 : Int32) (hb hby d_method_4_code_42) (by decide) rfl (l' := #[.val (.ref b1), .val (.int (15 : Int32)), .val (.int p3), .val (.int ((((0 : Int32) + (1 : Int32)) + (1 : Int32)) + (1 : Int32)))]) rfl h) ?_
  show Go p e below _ T3 (mkF m 45 #[.val (.ref b1), .val (.int (15 : Int32)), .val (.int p3), .val (.int ((((0 : Int32) + (1 : Int32)) + (1 : Int32)) + (1 : Int32)))] [])
  refine Go.st (fun _ h => XS.iloadN X3.here hx rfl (hb hby d_method_4_code_45) rfl h) ?_
  show Go p e below _ T3 (mkF m 46 #[.val (.ref b1), .val (.int (15 : Int32)), .val (.int p3), .val (.int ((((0 : Int32) + (1 : Int32)) + (1 : Int32)) + (1 : Int32)))] [(.int (15 : Int32))])
  refine Go.st (fun _ h => XT.bipushV X3.here hx rfl (8 : Int32) (hb hby d_method_4_code_46) (by decide) h) ?_
  show Go p e below _ T3 (mkF m 48 #[.val (.ref b1), .val (.int (15 : Int32)), .val (.int p3), .val (.int ((((0 : Int32) + (1 : Int32)) + (1 : Int32)) + (1 : Int32)))] [(.int (8 : Int32)), (.int (15 : Int32))])
  refine Go.st (fun _ h => XS.iand X3.here hx rfl (hb hby d_method_4_code_48) rfl h) ?_
  show Go p e below _ T3 (mkF m 49 #[.val (.ref b1), .val (.int (15 : Int32)), .val (.int p3), .val (.int ((((0 : Int32) + (1 : Int32)) + (1 : Int32)) + (1 : Int32)))] [(.int ((15 : Int32) &&& (8 : Int32)))])
  refine Go.st (fun _ h => XS.ifNo X3.here hx rfl (hb hby d_method_4_code_49) rfl (by decide) h) ?_
  show Go p e below _ T3 (mkF m 52 #[.val (.ref b1), .val (.int (15 : Int32)), .val (.int p3), .val (.int ((((0 : Int32) + (1 : Int32)) + (1 : Int32)) + (1 : Int32)))] [])
  refine Go.st (fun _ h => XS.aloadN X3.here hx rfl (hb hby d_method_4_code_52) rfl rfl h) ?_
  show Go p e below _ T3 (mkF m 53 #[.val (.ref b1), .val (.int (15 : Int32)), .val (.int p3), .val (.int ((((0 : Int32) + (1 : Int32)) + (1 : Int32)) + (1 : Int32)))] [(.ref b1)])
  refine Go.st (fun _ h => XS.iloadN X3.here hx rfl (hb hby d_method_4_code_53) rfl h) ?_
  show Go p e below _ T3 (mkF m 54 #[.val (.ref b1), .val (.int (15 : Int32)), .val (.int p3), .val (.int ((((0 : Int32) + (1 : Int32)) + (1 : Int32)) + (1 : Int32)))] [(.int ((((0 : Int32) + (1 : Int32)) + (1 : Int32)) + (1 : Int32))), (.ref b1)])
  refine Go.st (fun _ h => XS.iloadN X3.here hx rfl (hb hby d_method_4_code_54) rfl h) ?_
  show Go p e below _ T3 (mkF m 55 #[.val (.ref b1), .val (.int (15 : Int32)), .val (.int p3), .val (.int ((((0 : Int32) + (1 : Int32)) + (1 : Int32)) + (1 : Int32)))] [(.int p3), (.int ((((0 : Int32) + (1 : Int32)) + (1 : Int32)) + (1 : Int32))), (.ref b1)])
  refine Go.st (fun _ h => XT.iconstV X3.here hx rfl (3 : Int32) (hb hby d_method_4_code_55) (by decide) h) ?_
  show Go p e below _ T3 (mkF m 56 #[.val (.ref b1), .val (.int (15 : Int32)), .val (.int p3), .val (.int ((((0 : Int32) + (1 : Int32)) + (1 : Int32)) + (1 : Int32)))] [(.int (3 : Int32)), (.int p3), (.int ((((0 : Int32) + (1 : Int32)) + (1 : Int32)) + (1 : Int32))), (.ref b1)])
  refine Go.st (fun _ h => XS.iadd X3.here hx rfl (hb hby d_method_4_code_56) rfl h) ?_
  show Go p e below _ T3 (mkF m 57 #[.val (.ref b1), .val (.int (15 : Int32)), .val (.int p3), .val (.int ((((0 : Int32) + (1 : Int32)) + (1 : Int32)) + (1 : Int32)))] [(.int (p3 + (3 : Int32))), (.int ((((0 : Int32) + (1 : Int32)) + (1 : Int32)) + (1 : Int32))), (.ref b1)])
  obtain ⟨T4, h4, X4, e4, W4, V4, st4⟩ := own_stI X3 hx hZ e3 (j := ((((0 : Int32) + (1 : Int32)) + (1 : Int32)) + (1 : Int32))) V3' (by decide) (by decide) 3 (by decide) (by simp) (g := (mkF m 57 #[.val (.ref b1), .val (.int (15 : Int32)), .val (.int p3), .val (.int ((((0 : Int32) + (1 : Int32)) + (1 : Int32)) + (1 : Int32)))] [(.int (p3 + (3 : Int32))), (.int ((((0 : Int32) + (1 : Int32)) + (1 : Int32)) + (1 : Int32))), (.ref b1)])) rfl rfl (hb hby d_method_4_code_57)
  have N4 := Fr.snoc X4 N3 g_b1
  have K4 := K3.wr W4 (Or.inl (List.mem_of_getElem? (i := 0) rfl))
  have V4' : Arv Z h4 b1 kb .int (4 : Int32) [(.int p3), (.int (p3 + (1 : Int32))), (.int (p3 + (2 : Int32))), (.int (p3 + (3 : Int32)))] (.int (0 : Int32)) := V4
  refine Go.st st4 ?_
  show Go p e below _ T4 (mkF m 58 #[.val (.ref b1), .val (.int (15 : Int32)), .val (.int p3), .val (.int ((((0 : Int32) + (1 : Int32)) + (1 : Int32)) + (1 : Int32)))] [])
  refine Go.st (fun _ h => XT.iincV X4.here hx rfl (1 : Int32) (hb hby d_method_4_code_58) (by decide) rfl (l' := #[.val (.ref b1), .val (.int (15 : Int32)), .val (.int p3), .val (.int (((((0 : Int32) + (1 : Int32)) + (1 : Int32)) + (1 : Int32)) + (1 : Int32)))]) rfl h) ?_
  show Go p e below _ T4 (mkF m 61 #[.val (.ref b1), .val (.int (15 : Int32)), .val (.int p3), .val (.int (((((0 : Int32) + (1 : Int32)) + (1 : Int32)) + (1 : Int32)) + (1 : Int32)))] [])
  refine Go.retV X4 hx hlk hret (hb hby d_method_4_code_61) (by decide) (by decide) ?_
  rw [e4]
  refine ⟨rfl, N4, K4, ?_⟩
  show Arv Z _ b1 kb .int (4 : Int32) [own_pos p3 0, own_pos p3 1, own_pos p3 2, own_pos p3 3] (.int (0 : Int32))
  rw [own_pos0]
  exact V4'
theorem rmFill (l : Launch) (Z : State) (a0 : Array Value) (hw : ∀ d ∈ tables_1, d.before a0 Z = true) (m : Nat) (hm : m < 16) (b1 : Addr) (kb : ClassId) (p3 : Int32) (h0 : Heap) (n0 : Nat) (Z0 : n0 ≤ h0.size) (B_1 : Arv Z h0 b1 kb .int (Int32.ofNat (own_cnt m)) (List.replicate (own_cnt m) (.int (0 : Int32))) (.int (0 : Int32))) (g_b1 : n0 ≤ b1) :
    Does l Z (⟨"com/example/bindwell/bindwell/collect/ListChangeMovesFromPinLaw", "fill", "([III)V"⟩ : MethodName) method_4_code 4 none [] ({ frames := 0, cells := 0, slots := 0, locals := 0 } : Room) #[(.ref b1), (.int (Int32.ofNat m)), (.int p3)] h0 (fun v h L => v = none ∧ Fr n0 L ∧ Keep h0 h [b1] ∧ Arv Z h b1 kb .int (Int32.ofNat (own_cnt m)) ((own_bits m).map (own_pos p3)) (.int (0 : Int32))) := by
  rcases own_16 hm with rfl | rfl | rfl | rfl | rfl | rfl | rfl | rfl | rfl | rfl | rfl | rfl | rfl | rfl | rfl | rfl
  · exact rmFill0 l Z a0 hw b1 kb p3 h0 n0 Z0 B_1 g_b1
  · exact rmFill1 l Z a0 hw b1 kb p3 h0 n0 Z0 B_1 g_b1
  · exact rmFill2 l Z a0 hw b1 kb p3 h0 n0 Z0 B_1 g_b1
  · exact rmFill3 l Z a0 hw b1 kb p3 h0 n0 Z0 B_1 g_b1
  · exact rmFill4 l Z a0 hw b1 kb p3 h0 n0 Z0 B_1 g_b1
  · exact rmFill5 l Z a0 hw b1 kb p3 h0 n0 Z0 B_1 g_b1
  · exact rmFill6 l Z a0 hw b1 kb p3 h0 n0 Z0 B_1 g_b1
  · exact rmFill7 l Z a0 hw b1 kb p3 h0 n0 Z0 B_1 g_b1
  · exact rmFill8 l Z a0 hw b1 kb p3 h0 n0 Z0 B_1 g_b1
  · exact rmFill9 l Z a0 hw b1 kb p3 h0 n0 Z0 B_1 g_b1
  · exact rmFill10 l Z a0 hw b1 kb p3 h0 n0 Z0 B_1 g_b1
  · exact rmFill11 l Z a0 hw b1 kb p3 h0 n0 Z0 B_1 g_b1
  · exact rmFill12 l Z a0 hw b1 kb p3 h0 n0 Z0 B_1 g_b1
  · exact rmFill13 l Z a0 hw b1 kb p3 h0 n0 Z0 B_1 g_b1
  · exact rmFill14 l Z a0 hw b1 kb p3 h0 n0 Z0 B_1 g_b1
  · exact rmFill15 l Z a0 hw b1 kb p3 h0 n0 Z0 B_1 g_b1
theorem ef_rmLC2 (x0 : Addr) (x1 : Addr) (x2 : Addr) (x3 : Addr) (x4 : Addr) (m : MethodId) : entryFrame m #[(.ref x0), (.ref x1), (.ref x2), (.ref x3), (.ref x4), .null] 6 = mkF m 0 #[.val (.ref x0), .val (.ref x1), .val (.ref x2), .val (.ref x3), .val (.ref x4), .val .null] [] := by first | (simp [entryFrame, mkF, argsToLocals, Value.category]; done) | rfl
set_option maxRecDepth 65536 in
set_option maxHeartbeats 40000000 in
theorem rmLC2 (l : Launch) (Z : State) (a0 : Array Value) (hw : ∀ d ∈ tables_1, d.before a0 Z = true) (b1 ar ra aa_ a4 : Addr) (h0 : Heap) (n0 : Nat) (Z0 : n0 ≤ h0.size) (F0_ : Fld Z h0 b1 "com/example/bindwell/bindwell/collect/ListChange" "removed" "Ljava/util/List;" .null) (F1_ : Fld Z h0 b1 "com/example/bindwell/bindwell/collect/ListChange" "removedAt" "[I" .null) (F2_ : Fld Z h0 b1 "com/example/bindwell/bindwell/collect/ListChange" "added" "Ljava/util/List;" .null) (F3_ : Fld Z h0 b1 "com/example/bindwell/bindwell/collect/ListChange" "addedAt" "[I" .null) (F4_ : Fld Z h0 b1 "com/example/bindwell/bindwell/collect/ListChange" "movedTo" "[I" .null) (E1 : Exa Z h0 b1 "com/example/bindwell/bindwell/collect/ListChange") (g_b1 : n0 ≤ b1) :
    Does l Z (⟨"com/example/bindwell/bindwell/collect/ListChange", "<init>", "(Ljava/util/List;[ILjava/util/List;[I[I)V"⟩ : MethodName) prog_22_method_2_code 6 none [] ({ frames := 1, cells := 0, slots := 0, locals := 12 } : Room) #[(.ref b1), (.ref ar), (.ref ra), (.ref aa_), (.ref a4), .null] h0 (fun v h L => v = none ∧ Fr n0 L ∧ Keep h0 h [b1] ∧ Fld Z h b1 "com/example/bindwell/bindwell/collect/ListChange" "removedAt" "[I" (.ref ra) ∧ Fld Z h b1 "com/example/bindwell/bindwell/collect/ListChange" "addedAt" "[I" (.ref a4) ∧ Fld Z h b1 "com/example/bindwell/bindwell/collect/ListChange" "movedTo" "[I" .null) := by
  refine Does.intro (plainFor_of_name pn_com_example_bindwell_bindwell_collect_ListChange) (ef_rmLC2 b1 ar ra aa_ a4) ?_
  intro p e s m below meth c s₁ hx hby hml hown hnm hret hlk hZ e0 X0
  show Go p e below _ s₁ (mkF m 0 #[.val (.ref b1), .val (.ref ar), .val (.ref ra), .val (.ref aa_), .val (.ref a4), .val .null] [])
  have N0 := Fr.nil n0
  refine Go.st (fun _ h => XS.aloadN X0.here hx rfl (hb hby d_prog_22_method_2_code_0) rfl rfl h) ?_
  show Go p e below _ s₁ (mkF m 1 #[.val (.ref b1), .val (.ref ar), .val (.ref ra), .val (.ref aa_), .val (.ref a4), .val .null] [(.ref b1)])
  obtain ⟨T1, X1, e1, st1⟩ := initO X0 hx hZ hown (hw _ (List.mem_of_getElem? (i := 86) rfl)) (hw _ (List.mem_of_getElem? (i := 32) rfl)) (hw _ (List.mem_of_getElem? (i := 33) rfl)) e0 (g := (mkF m 1 #[.val (.ref b1), .val (.ref ar), .val (.ref ra), .val (.ref aa_), .val (.ref a4), .val .null] [(.ref b1)])) rfl (by rw [hml]; rfl) rfl (hb hby d_prog_22_method_2_code_1) (by decide) (W := 0) (by show 2 * 0 + _ ≤ _; exact Nat.le_of_eq rfl) (by decide)
  refine Go.st st1 ?_
  show Go p e below _ T1 (mkF m 4 #[.val (.ref b1), .val (.ref ar), .val (.ref ra), .val (.ref aa_), .val (.ref a4), .val .null] [])
  refine Go.st (fun _ h => XS.aloadN X1.here hx rfl (hb hby d_prog_22_method_2_code_4) rfl rfl h) ?_
  show Go p e below _ T1 (mkF m 5 #[.val (.ref b1), .val (.ref ar), .val (.ref ra), .val (.ref aa_), .val (.ref a4), .val .null] [(.ref b1)])
  refine Go.st (fun _ h => XS.aloadN X1.here hx rfl (hb hby d_prog_22_method_2_code_5) rfl rfl h) ?_
  show Go p e below _ T1 (mkF m 6 #[.val (.ref b1), .val (.ref ar), .val (.ref ra), .val (.ref aa_), .val (.ref a4), .val .null] [(.ref ar), (.ref b1)])
  obtain ⟨T2, h2, X2, e2, W2, st2⟩ := putF X1 hx hZ hown (host := "") (Or.inl (hw _ (List.mem_of_getElem? (i := 87) rfl))) Via.refl e1 F0_ E1 (Or.inr ⟨(hw _ (List.mem_of_getElem? (i := 88) rfl)), rfl, hnm⟩) (hw _ (List.mem_of_getElem? (i := 78) rfl)) (ty := (.object "java/util/List")) (by decide) rfl rfl (g := (mkF m 6 #[.val (.ref b1), .val (.ref ar), .val (.ref ra), .val (.ref aa_), .val (.ref a4), .val .null] [(.ref ar), (.ref b1)])) rfl rfl (hb hby d_prog_22_method_2_code_6)
  have N2 := Fr.snoc X2 N0 g_b1
  have E2_0 := E1.wr W2
  have F2_1 := F2_.other W2 (Or.inr (slot_ne (Or.inr (hw _ (List.mem_of_getElem? (i := 92) rfl))) (Or.inr (hw _ (List.mem_of_getElem? (i := 88) rfl))) (by decide) (t := (.object "java/util/List")) (by decide) (t' := (.object "java/util/List")) (by decide)))
  have F2_2 := F3_.other W2 (Or.inr (slot_ne (Or.inr (hw _ (List.mem_of_getElem? (i := 94) rfl))) (Or.inr (hw _ (List.mem_of_getElem? (i := 88) rfl))) (by decide) (t := (.array .int)) (by decide) (t' := (.object "java/util/List")) (by decide)))
  have F2_3 := F4_.other W2 (Or.inr (slot_ne (Or.inr (hw _ (List.mem_of_getElem? (i := 96) rfl))) (Or.inr (hw _ (List.mem_of_getElem? (i := 88) rfl))) (by decide) (t := (.array .int)) (by decide) (t' := (.object "java/util/List")) (by decide)))
  have F2_4 := F0_.same W2
  have F2_5 := F1_.other W2 (Or.inr (slot_ne (Or.inr (hw _ (List.mem_of_getElem? (i := 90) rfl))) (Or.inr (hw _ (List.mem_of_getElem? (i := 88) rfl))) (by decide) (t := (.array .int)) (by decide) (t' := (.object "java/util/List")) (by decide)))
  have K2 := (Keep.refl _ [b1]).wr W2 (Or.inl (List.mem_of_getElem? (i := 0) rfl))
  refine Go.st st2 ?_
  show Go p e below _ T2 (mkF m 9 #[.val (.ref b1), .val (.ref ar), .val (.ref ra), .val (.ref aa_), .val (.ref a4), .val .null] [])
  refine Go.st (fun _ h => XS.aloadN X2.here hx rfl (hb hby d_prog_22_method_2_code_9) rfl rfl h) ?_
  show Go p e below _ T2 (mkF m 10 #[.val (.ref b1), .val (.ref ar), .val (.ref ra), .val (.ref aa_), .val (.ref a4), .val .null] [(.ref b1)])
  refine Go.st (fun _ h => XS.aloadN X2.here hx rfl (hb hby d_prog_22_method_2_code_10) rfl rfl h) ?_
  show Go p e below _ T2 (mkF m 11 #[.val (.ref b1), .val (.ref ar), .val (.ref ra), .val (.ref aa_), .val (.ref a4), .val .null] [(.ref ra), (.ref b1)])
  obtain ⟨T3, h3, X3, e3, W3, st3⟩ := putF X2 hx hZ hown (host := "") (Or.inl (hw _ (List.mem_of_getElem? (i := 89) rfl))) Via.refl e2 F2_5 E2_0 (Or.inr ⟨(hw _ (List.mem_of_getElem? (i := 90) rfl)), rfl, hnm⟩) (hw _ (List.mem_of_getElem? (i := 78) rfl)) (ty := (.array .int)) (by decide) rfl rfl (g := (mkF m 11 #[.val (.ref b1), .val (.ref ar), .val (.ref ra), .val (.ref aa_), .val (.ref a4), .val .null] [(.ref ra), (.ref b1)])) rfl rfl (hb hby d_prog_22_method_2_code_11)
  have N3 := Fr.snoc X3 N2 g_b1
  have E3_0 := E2_0.wr W3
  have F3_1 := F2_1.other W3 (Or.inr (slot_ne (Or.inr (hw _ (List.mem_of_getElem? (i := 92) rfl))) (Or.inr (hw _ (List.mem_of_getElem? (i := 90) rfl))) (by decide) (t := (.object "java/util/List")) (by decide) (t' := (.array .int)) (by decide)))
  have F3_2 := F2_2.other W3 (Or.inr (slot_ne (Or.inr (hw _ (List.mem_of_getElem? (i := 94) rfl))) (Or.inr (hw _ (List.mem_of_getElem? (i := 90) rfl))) (by decide) (t := (.array .int)) (by decide) (t' := (.array .int)) (by decide)))
  have F3_3 := F2_3.other W3 (Or.inr (slot_ne (Or.inr (hw _ (List.mem_of_getElem? (i := 96) rfl))) (Or.inr (hw _ (List.mem_of_getElem? (i := 90) rfl))) (by decide) (t := (.array .int)) (by decide) (t' := (.array .int)) (by decide)))
  have F3_4 := F2_4.other W3 (Or.inr (slot_ne (Or.inr (hw _ (List.mem_of_getElem? (i := 88) rfl))) (Or.inr (hw _ (List.mem_of_getElem? (i := 90) rfl))) (by decide) (t := (.object "java/util/List")) (by decide) (t' := (.array .int)) (by decide)))
  have F3_5 := F2_5.same W3
  have K3 := K2.wr W3 (Or.inl (List.mem_of_getElem? (i := 0) rfl))
  refine Go.st st3 ?_
  show Go p e below _ T3 (mkF m 14 #[.val (.ref b1), .val (.ref ar), .val (.ref ra), .val (.ref aa_), .val (.ref a4), .val .null] [])
  refine Go.st (fun _ h => XS.aloadN X3.here hx rfl (hb hby d_prog_22_method_2_code_14) rfl rfl h) ?_
  show Go p e below _ T3 (mkF m 15 #[.val (.ref b1), .val (.ref ar), .val (.ref ra), .val (.ref aa_), .val (.ref a4), .val .null] [(.ref b1)])
  refine Go.st (fun _ h => XS.aloadN X3.here hx rfl (hb hby d_prog_22_method_2_code_15) rfl rfl h) ?_
  show Go p e below _ T3 (mkF m 16 #[.val (.ref b1), .val (.ref ar), .val (.ref ra), .val (.ref aa_), .val (.ref a4), .val .null] [(.ref aa_), (.ref b1)])
  obtain ⟨T4, h4, X4, e4, W4, st4⟩ := putF X3 hx hZ hown (host := "") (Or.inl (hw _ (List.mem_of_getElem? (i := 91) rfl))) Via.refl e3 F3_1 E3_0 (Or.inr ⟨(hw _ (List.mem_of_getElem? (i := 92) rfl)), rfl, hnm⟩) (hw _ (List.mem_of_getElem? (i := 78) rfl)) (ty := (.object "java/util/List")) (by decide) rfl rfl (g := (mkF m 16 #[.val (.ref b1), .val (.ref ar), .val (.ref ra), .val (.ref aa_), .val (.ref a4), .val .null] [(.ref aa_), (.ref b1)])) rfl rfl (hb hby d_prog_22_method_2_code_16)
  have N4 := Fr.snoc X4 N3 g_b1
  have E4_0 := E3_0.wr W4
  have F4_1 := F3_1.same W4
  have F4_2 := F3_2.other W4 (Or.inr (slot_ne (Or.inr (hw _ (List.mem_of_getElem? (i := 94) rfl))) (Or.inr (hw _ (List.mem_of_getElem? (i := 92) rfl))) (by decide) (t := (.array .int)) (by decide) (t' := (.object "java/util/List")) (by decide)))
  have F4_3 := F3_3.other W4 (Or.inr (slot_ne (Or.inr (hw _ (List.mem_of_getElem? (i := 96) rfl))) (Or.inr (hw _ (List.mem_of_getElem? (i := 92) rfl))) (by decide) (t := (.array .int)) (by decide) (t' := (.object "java/util/List")) (by decide)))
  have F4_4 := F3_4.other W4 (Or.inr (slot_ne (Or.inr (hw _ (List.mem_of_getElem? (i := 88) rfl))) (Or.inr (hw _ (List.mem_of_getElem? (i := 92) rfl))) (by decide) (t := (.object "java/util/List")) (by decide) (t' := (.object "java/util/List")) (by decide)))
  have F4_5 := F3_5.other W4 (Or.inr (slot_ne (Or.inr (hw _ (List.mem_of_getElem? (i := 90) rfl))) (Or.inr (hw _ (List.mem_of_getElem? (i := 92) rfl))) (by decide) (t := (.array .int)) (by decide) (t' := (.object "java/util/List")) (by decide)))
  have K4 := K3.wr W4 (Or.inl (List.mem_of_getElem? (i := 0) rfl))
  refine Go.st st4 ?_
  show Go p e below _ T4 (mkF m 19 #[.val (.ref b1), .val (.ref ar), .val (.ref ra), .val (.ref aa_), .val (.ref a4), .val .null] [])
  refine Go.st (fun _ h => XS.aloadN X4.here hx rfl (hb hby d_prog_22_method_2_code_19) rfl rfl h) ?_
  show Go p e below _ T4 (mkF m 20 #[.val (.ref b1), .val (.ref ar), .val (.ref ra), .val (.ref aa_), .val (.ref a4), .val .null] [(.ref b1)])
  refine Go.st (fun _ h => XS.aload X4.here hx rfl (hb hby d_prog_22_method_2_code_20) rfl rfl h) ?_
  show Go p e below _ T4 (mkF m 22 #[.val (.ref b1), .val (.ref ar), .val (.ref ra), .val (.ref aa_), .val (.ref a4), .val .null] [(.ref a4), (.ref b1)])
  obtain ⟨T5, h5, X5, e5, W5, st5⟩ := putF X4 hx hZ hown (host := "") (Or.inl (hw _ (List.mem_of_getElem? (i := 93) rfl))) Via.refl e4 F4_2 E4_0 (Or.inr ⟨(hw _ (List.mem_of_getElem? (i := 94) rfl)), rfl, hnm⟩) (hw _ (List.mem_of_getElem? (i := 78) rfl)) (ty := (.array .int)) (by decide) rfl rfl (g := (mkF m 22 #[.val (.ref b1), .val (.ref ar), .val (.ref ra), .val (.ref aa_), .val (.ref a4), .val .null] [(.ref a4), (.ref b1)])) rfl rfl (hb hby d_prog_22_method_2_code_22)
  have N5 := Fr.snoc X5 N4 g_b1
  have E5_0 := E4_0.wr W5
  have F5_1 := F4_1.other W5 (Or.inr (slot_ne (Or.inr (hw _ (List.mem_of_getElem? (i := 92) rfl))) (Or.inr (hw _ (List.mem_of_getElem? (i := 94) rfl))) (by decide) (t := (.object "java/util/List")) (by decide) (t' := (.array .int)) (by decide)))
  have F5_2 := F4_2.same W5
  have F5_3 := F4_3.other W5 (Or.inr (slot_ne (Or.inr (hw _ (List.mem_of_getElem? (i := 96) rfl))) (Or.inr (hw _ (List.mem_of_getElem? (i := 94) rfl))) (by decide) (t := (.array .int)) (by decide) (t' := (.array .int)) (by decide)))
  have F5_4 := F4_4.other W5 (Or.inr (slot_ne (Or.inr (hw _ (List.mem_of_getElem? (i := 88) rfl))) (Or.inr (hw _ (List.mem_of_getElem? (i := 94) rfl))) (by decide) (t := (.object "java/util/List")) (by decide) (t' := (.array .int)) (by decide)))
  have F5_5 := F4_5.other W5 (Or.inr (slot_ne (Or.inr (hw _ (List.mem_of_getElem? (i := 90) rfl))) (Or.inr (hw _ (List.mem_of_getElem? (i := 94) rfl))) (by decide) (t := (.array .int)) (by decide) (t' := (.array .int)) (by decide)))
  have K5 := K4.wr W5 (Or.inl (List.mem_of_getElem? (i := 0) rfl))
  refine Go.st st5 ?_
  show Go p e below _ T5 (mkF m 25 #[.val (.ref b1), .val (.ref ar), .val (.ref ra), .val (.ref aa_), .val (.ref a4), .val .null] [])
  refine Go.st (fun _ h => XS.aloadN X5.here hx rfl (hb hby d_prog_22_method_2_code_25) rfl rfl h) ?_
  show Go p e below _ T5 (mkF m 26 #[.val (.ref b1), .val (.ref ar), .val (.ref ra), .val (.ref aa_), .val (.ref a4), .val .null] [(.ref b1)])
  refine Go.st (fun _ h => XS.aload X5.here hx rfl (hb hby d_prog_22_method_2_code_26) rfl rfl h) ?_
  show Go p e below _ T5 (mkF m 28 #[.val (.ref b1), .val (.ref ar), .val (.ref ra), .val (.ref aa_), .val (.ref a4), .val .null] [.null, (.ref b1)])
  obtain ⟨T6, h6, X6, e6, W6, st6⟩ := putF X5 hx hZ hown (host := "") (Or.inl (hw _ (List.mem_of_getElem? (i := 95) rfl))) Via.refl e5 F5_3 E5_0 (Or.inr ⟨(hw _ (List.mem_of_getElem? (i := 96) rfl)), rfl, hnm⟩) (hw _ (List.mem_of_getElem? (i := 78) rfl)) (ty := (.array .int)) (by decide) rfl rfl (g := (mkF m 28 #[.val (.ref b1), .val (.ref ar), .val (.ref ra), .val (.ref aa_), .val (.ref a4), .val .null] [.null, (.ref b1)])) rfl rfl (hb hby d_prog_22_method_2_code_28)
  have N6 := Fr.snoc X6 N5 g_b1
  have E6_0 := E5_0.wr W6
  have F6_1 := F5_1.other W6 (Or.inr (slot_ne (Or.inr (hw _ (List.mem_of_getElem? (i := 92) rfl))) (Or.inr (hw _ (List.mem_of_getElem? (i := 96) rfl))) (by decide) (t := (.object "java/util/List")) (by decide) (t' := (.array .int)) (by decide)))
  have F6_2 := F5_2.other W6 (Or.inr (slot_ne (Or.inr (hw _ (List.mem_of_getElem? (i := 94) rfl))) (Or.inr (hw _ (List.mem_of_getElem? (i := 96) rfl))) (by decide) (t := (.array .int)) (by decide) (t' := (.array .int)) (by decide)))
  have F6_3 := F5_3.same W6
  have F6_4 := F5_4.other W6 (Or.inr (slot_ne (Or.inr (hw _ (List.mem_of_getElem? (i := 88) rfl))) (Or.inr (hw _ (List.mem_of_getElem? (i := 96) rfl))) (by decide) (t := (.object "java/util/List")) (by decide) (t' := (.array .int)) (by decide)))
  have F6_5 := F5_5.other W6 (Or.inr (slot_ne (Or.inr (hw _ (List.mem_of_getElem? (i := 90) rfl))) (Or.inr (hw _ (List.mem_of_getElem? (i := 96) rfl))) (by decide) (t := (.array .int)) (by decide) (t' := (.array .int)) (by decide)))
  have K6 := K5.wr W6 (Or.inl (List.mem_of_getElem? (i := 0) rfl))
  refine Go.st st6 ?_
  show Go p e below _ T6 (mkF m 31 #[.val (.ref b1), .val (.ref ar), .val (.ref ra), .val (.ref aa_), .val (.ref a4), .val .null] [])
  refine Go.retV X6 hx hlk hret (hb hby d_prog_22_method_2_code_31) (by decide) (by decide) ?_
  rw [e6]
  exact ⟨rfl, N6, K6, F6_5, F6_2, F6_3⟩
theorem ef_rmLC1 (x0 : Addr) (x1 : Addr) (x2 : Addr) (x3 : Addr) (x4 : Addr) (m : MethodId) : entryFrame m #[(.ref x0), (.ref x1), (.ref x2), (.ref x3), (.ref x4)] 5 = mkF m 0 #[.val (.ref x0), .val (.ref x1), .val (.ref x2), .val (.ref x3), .val (.ref x4)] [] := by first | (simp [entryFrame, mkF, argsToLocals, Value.category]; done) | rfl
set_option maxRecDepth 65536 in
set_option maxHeartbeats 40000000 in
theorem rmLC1 (l : Launch) (Z : State) (a0 : Array Value) (hw : ∀ d ∈ tables_1, d.before a0 Z = true) (b1 ar ra aa_ a4 : Addr) (h0 : Heap) (n0 : Nat) (Z0 : n0 ≤ h0.size) (F0_ : Fld Z h0 b1 "com/example/bindwell/bindwell/collect/ListChange" "removed" "Ljava/util/List;" .null) (F1_ : Fld Z h0 b1 "com/example/bindwell/bindwell/collect/ListChange" "removedAt" "[I" .null) (F2_ : Fld Z h0 b1 "com/example/bindwell/bindwell/collect/ListChange" "added" "Ljava/util/List;" .null) (F3_ : Fld Z h0 b1 "com/example/bindwell/bindwell/collect/ListChange" "addedAt" "[I" .null) (F4_ : Fld Z h0 b1 "com/example/bindwell/bindwell/collect/ListChange" "movedTo" "[I" .null) (E1 : Exa Z h0 b1 "com/example/bindwell/bindwell/collect/ListChange") (g_b1 : n0 ≤ b1) :
    Does l Z (⟨"com/example/bindwell/bindwell/collect/ListChange", "<init>", "(Ljava/util/List;[ILjava/util/List;[I)V"⟩ : MethodName) prog_22_method_1_code 5 none [] ({ frames := 2, cells := 0, slots := 0, locals := 29 } : Room) #[(.ref b1), (.ref ar), (.ref ra), (.ref aa_), (.ref a4)] h0 (fun v h L => v = none ∧ Fr n0 L ∧ Keep h0 h [b1] ∧ Fld Z h b1 "com/example/bindwell/bindwell/collect/ListChange" "removedAt" "[I" (.ref ra) ∧ Fld Z h b1 "com/example/bindwell/bindwell/collect/ListChange" "addedAt" "[I" (.ref a4) ∧ Fld Z h b1 "com/example/bindwell/bindwell/collect/ListChange" "movedTo" "[I" .null) := by
  refine Does.intro (plainFor_of_name pn_com_example_bindwell_bindwell_collect_ListChange) (ef_rmLC1 b1 ar ra aa_ a4) ?_
  intro p e s m below meth c s₁ hx hby hml hown hnm hret hlk hZ e0 X0
  show Go p e below _ s₁ (mkF m 0 #[.val (.ref b1), .val (.ref ar), .val (.ref ra), .val (.ref aa_), .val (.ref a4)] [])
  have N0 := Fr.nil n0
  refine Go.st (fun _ h => XS.aloadN X0.here hx rfl (hb hby d_prog_22_method_1_code_0) rfl rfl h) ?_
  show Go p e below _ s₁ (mkF m 1 #[.val (.ref b1), .val (.ref ar), .val (.ref ra), .val (.ref aa_), .val (.ref a4)] [(.ref b1)])
  refine Go.st (fun _ h => XS.aloadN X0.here hx rfl (hb hby d_prog_22_method_1_code_1) rfl rfl h) ?_
  show Go p e below _ s₁ (mkF m 2 #[.val (.ref b1), .val (.ref ar), .val (.ref ra), .val (.ref aa_), .val (.ref a4)] [(.ref ar), (.ref b1)])
  refine Go.st (fun _ h => XS.aloadN X0.here hx rfl (hb hby d_prog_22_method_1_code_2) rfl rfl h) ?_
  show Go p e below _ s₁ (mkF m 3 #[.val (.ref b1), .val (.ref ar), .val (.ref ra), .val (.ref aa_), .val (.ref a4)] [(.ref ra), (.ref ar), (.ref b1)])
  refine Go.st (fun _ h => XS.aloadN X0.here hx rfl (hb hby d_prog_22_method_1_code_3) rfl rfl h) ?_
  show Go p e below _ s₁ (mkF m 4 #[.val (.ref b1), .val (.ref ar), .val (.ref ra), .val (.ref aa_), .val (.ref a4)] [(.ref aa_), (.ref ra), (.ref ar), (.ref b1)])
  refine Go.st (fun _ h => XS.aload X0.here hx rfl (hb hby d_prog_22_method_1_code_4) rfl rfl h) ?_
  show Go p e below _ s₁ (mkF m 6 #[.val (.ref b1), .val (.ref ar), .val (.ref ra), .val (.ref aa_), .val (.ref a4)] [(.ref a4), (.ref aa_), (.ref ra), (.ref ar), (.ref b1)])
  refine Go.st (fun _ h => XS.aconstNull X0.here hx rfl (hb hby d_prog_22_method_1_code_6) h) ?_
  show Go p e below _ s₁ (mkF m 7 #[.val (.ref b1), .val (.ref ar), .val (.ref ra), .val (.ref aa_), .val (.ref a4)] [.null, (.ref a4), (.ref aa_), (.ref ra), (.ref ar), (.ref b1)])
  obtain ⟨_, T1, L1, X1, ⟨rfl, Nc1, Kc1, Fc1_0, Fc1_1, Fc1_2⟩, st1⟩ := Does.special (y := (⟨"com/example/bindwell/bindwell/collect/ListChange", "<init>", "(Ljava/util/List;[ILjava/util/List;[I[I)V"⟩ : MethodName)) (g := (mkF m 7 #[.val (.ref b1), .val (.ref ar), .val (.ref ra), .val (.ref aa_), .val (.ref a4)] [.null, (.ref a4), (.ref aa_), (.ref ra), (.ref ar), (.ref b1)])) (a := b1) (rmLC2 l Z a0 hw b1 ar ra aa_ a4 h0 n0 Z0 F0_ F1_ F2_ F3_ F4_ E1 g_b1) X0 hx hZ hown e0 rfl (hw _ (List.mem_of_getElem? (i := 83) rfl)) (hw _ (List.mem_of_getElem? (i := 84) rfl)) (hw _ (List.mem_of_getElem? (i := 79) rfl)) (hw _ (List.mem_of_getElem? (i := 85) rfl)) (by decide) rfl (by rw [hml]; rfl) (argsL := [(.ref ar), (.ref ra), (.ref aa_), (.ref a4), .null]) (rest := []) (lenOf pd_28Ljava2futil2fList3b5bILjava2futil2fList3b5bI5bI29V rfl) rfl (hb hby d_prog_22_method_1_code_7) (W := 0) (by show 2 * 0 + _ ≤ _; exact Nat.le_of_eq rfl) (by decide) (by decide) (by decide) (by decide)
  have E1_0 := E1.keep Kc1
  have K1 := (Keep.refl _ [b1]).trans Kc1 (allS (Or.inl (List.mem_of_getElem? (i := 0) rfl)) all0)
  have N1 := Fr.app N0 Nc1
  refine Go.st st1 ?_
  show Go p e below _ T1 (mkF m 10 #[.val (.ref b1), .val (.ref ar), .val (.ref ra), .val (.ref aa_), .val (.ref a4)] [])
  refine Go.retV X1 hx hlk hret (hb hby d_prog_22_method_1_code_10) (by decide) (by decide) ?_
  exact ⟨rfl, N1, K1, Fc1_0, Fc1_1, Fc1_2⟩
theorem ef_rmOk (x0 : Addr) (x1 : Int32) (x2 : Int32) (x3 : Int32) (x4 : Int32) (x5 : Int32) (m : MethodId) : entryFrame m #[(.ref x0), (.int x1), (.int x2), (.int x3), (.int x4), (.int x5)] 9 = mkF m 0 #[.val (.ref x0), .val (.int x1), .val (.int x2), .val (.int x3), .val (.int x4), .val (.int x5), .unset, .unset, .unset] [] := by first | (simp [entryFrame, mkF, argsToLocals, Value.category]; done) | rfl
set_option maxRecDepth 65536 in
set_option maxHeartbeats 40000000 in
theorem rmOk (l : Launch) (Z : State) (a0 : Array Value) (hw : ∀ d ∈ tables_1, d.before a0 Z = true) (b1 : Addr) (kb : ClassId) (vs : List Value) (k r a f n g : Int32) (h0 : Heap) (hk0 : ¬ k < 0) (B_1 : Arv Z h0 b1 kb .int n vs (.int (0 : Int32))) (hg : k < n → vs.getD k.toNatClampNeg (.int (0 : Int32)) = .int g) :
    Does l Z (⟨"com/example/bindwell/bindwell/collect/ListChangeMovesFromPinLaw", "ok", "([IIIIII)Z"⟩ : MethodName) method_6_code 9 (some .boolean) [] ({ frames := 1, cells := 0, slots := 0, locals := 13 } : Room) #[(.ref b1), (.int k), (.int r), (.int a), (.int f), (.int n)] h0 (Val (some (.int (own_ok k r a f n g))) h0) := by
  refine Does.intro (plainFor_of_name pn_com_example_bindwell_bindwell_collect_ListChangeMovesFromPinLaw) (ef_rmOk b1 k r a f n) ?_
  intro p e s m below meth c s₁ hx hby hml hown hnm hret hlk hZ e0 X0
  show Go p e below _ s₁ (mkF m 0 #[.val (.ref b1), .val (.int k), .val (.int r), .val (.int a), .val (.int f), .val (.int n), .unset, .unset, .unset] [])
  refine Go.st (fun _ h => XS.iloadN X0.here hx rfl (hb hby d_method_6_code_0) rfl h) ?_
  show Go p e below _ s₁ (mkF m 1 #[.val (.ref b1), .val (.int k), .val (.int r), .val (.int a), .val (.int f), .val (.int n), .unset, .unset, .unset] [(.int k)])
  refine Go.st (fun _ h => XS.iload X0.here hx rfl (hb hby d_method_6_code_1) rfl h) ?_
  show Go p e below _ s₁ (mkF m 3 #[.val (.ref b1), .val (.int k), .val (.int r), .val (.int a), .val (.int f), .val (.int n), .unset, .unset, .unset] [(.int n), (.int k)])
  by_cases hc1 : k < n
  · refine Go.st (fun _ h => XS.icmpYes X0.here hx rfl (pc0 := 3) (pc' := 8) rfl (hb hby d_method_6_code_3) rfl ((tlt hc1).1) (by decide) (by decide) h) ?_
    show Go p e below _ s₁ (mkF m 8 #[.val (.ref b1), .val (.int k), .val (.int r), .val (.int a), .val (.int f), .val (.int n), .unset, .unset, .unset] [])
    refine Go.st (fun _ h => XS.aloadN X0.here hx rfl (hb hby d_method_6_code_8) rfl rfl h) ?_
    show Go p e below _ s₁ (mkF m 9 #[.val (.ref b1), .val (.int k), .val (.int r), .val (.int a), .val (.int f), .val (.int n), .unset, .unset, .unset] [(.ref b1)])
    refine Go.st (fun _ h => XS.iloadN X0.here hx rfl (hb hby d_method_6_code_9) rfl h) ?_
    show Go p e below _ s₁ (mkF m 10 #[.val (.ref b1), .val (.int k), .val (.int r), .val (.int a), .val (.int f), .val (.int n), .unset, .unset, .unset] [(.int k), (.ref b1)])
    refine Go.st (own_ldI X0 hx hZ e0 B_1 hk0 hc1 (hg hc1) rfl rfl (hb hby d_method_6_code_10)) ?_
    show Go p e below _ s₁ (mkF m 11 #[.val (.ref b1), .val (.int k), .val (.int r), .val (.int a), .val (.int f), .val (.int n), .unset, .unset, .unset] [(.int g)])
    refine Go.st (fun _ h => XS.istore X0.here hx rfl (hb hby d_method_6_code_11) rfl (l' := #[.val (.ref b1), .val (.int k), .val (.int r), .val (.int a), .val (.int f), .val (.int n), .val (.int g), .unset, .unset]) rfl h) ?_
    show Go p e below _ s₁ (mkF m 13 #[.val (.ref b1), .val (.int k), .val (.int r), .val (.int a), .val (.int f), .val (.int n), .val (.int g), .unset, .unset] [])
    refine Go.st (fun _ h => XS.iloadN X0.here hx rfl (hb hby d_method_6_code_13) rfl h) ?_
    show Go p e below _ s₁ (mkF m 14 #[.val (.ref b1), .val (.int k), .val (.int r), .val (.int a), .val (.int f), .val (.int n), .val (.int g), .unset, .unset] [(.int r)])
    refine Go.st (fun _ h => XS.iloadN X0.here hx rfl (hb hby d_method_6_code_14) rfl h) ?_
    show Go p e below _ s₁ (mkF m 15 #[.val (.ref b1), .val (.int k), .val (.int r), .val (.int a), .val (.int f), .val (.int n), .val (.int g), .unset, .unset] [(.int k), (.int r)])
    refine Go.st (fun _ h => XT.ishr X0.here hx rfl (hb hby d_method_6_code_15) rfl h) ?_
    show Go p e below _ s₁ (mkF m 16 #[.val (.ref b1), .val (.int k), .val (.int r), .val (.int a), .val (.int f), .val (.int n), .val (.int g), .unset, .unset] [(.int (r >>> (k &&& 31)))])
    refine Go.st (fun _ h => XT.iconstV X0.here hx rfl (1 : Int32) (hb hby d_method_6_code_16) (by decide) h) ?_
    show Go p e below _ s₁ (mkF m 17 #[.val (.ref b1), .val (.int k), .val (.int r), .val (.int a), .val (.int f), .val (.int n), .val (.int g), .unset, .unset] [(.int (1 : Int32)), (.int (r >>> (k &&& 31)))])
    refine Go.st (fun _ h => XS.iand X0.here hx rfl (hb hby d_method_6_code_17) rfl h) ?_
    show Go p e below _ s₁ (mkF m 18 #[.val (.ref b1), .val (.int k), .val (.int r), .val (.int a), .val (.int f), .val (.int n), .val (.int g), .unset, .unset] [(.int ((r >>> (k &&& 31)) &&& (1 : Int32)))])
    by_cases hc2 : ((r >>> (k &&& 31)) &&& (1 : Int32)) = (0 : Int32)
    · refine Go.st (fun _ h => XS.ifYes X0.here hx rfl (pc0 := 18) (pc' := 33) rfl (hb hby d_method_6_code_18) rfl ((if0 _ _).trans (teq hc2).1) (by decide) (by decide) h) ?_
      show Go p e below _ s₁ (mkF m 33 #[.val (.ref b1), .val (.int k), .val (.int r), .val (.int a), .val (.int f), .val (.int n), .val (.int g), .unset, .unset] [])
      refine Go.st (fun _ h => XS.iloadN X0.here hx rfl (hb hby d_method_6_code_33) rfl h) ?_
      show Go p e below _ s₁ (mkF m 34 #[.val (.ref b1), .val (.int k), .val (.int r), .val (.int a), .val (.int f), .val (.int n), .val (.int g), .unset, .unset] [(.int k)])
      refine Go.st (fun _ h => XS.iloadN X0.here hx rfl (hb hby d_method_6_code_34) rfl h) ?_
      show Go p e below _ s₁ (mkF m 35 #[.val (.ref b1), .val (.int k), .val (.int r), .val (.int a), .val (.int f), .val (.int n), .val (.int g), .unset, .unset] [(.int r), (.int k)])
      refine Go.st (fun _ h => XT.iconstV X0.here hx rfl (1 : Int32) (hb hby d_method_6_code_35) (by decide) h) ?_
      show Go p e below _ s₁ (mkF m 36 #[.val (.ref b1), .val (.int k), .val (.int r), .val (.int a), .val (.int f), .val (.int n), .val (.int g), .unset, .unset] [(.int (1 : Int32)), (.int r), (.int k)])
      refine Go.st (fun _ h => XS.iloadN X0.here hx rfl (hb hby d_method_6_code_36) rfl h) ?_
      show Go p e below _ s₁ (mkF m 37 #[.val (.ref b1), .val (.int k), .val (.int r), .val (.int a), .val (.int f), .val (.int n), .val (.int g), .unset, .unset] [(.int k), (.int (1 : Int32)), (.int r), (.int k)])
      refine Go.st (fun _ h => XT.ishl X0.here hx rfl (hb hby d_method_6_code_37) rfl h) ?_
      show Go p e below _ s₁ (mkF m 38 #[.val (.ref b1), .val (.int k), .val (.int r), .val (.int a), .val (.int f), .val (.int n), .val (.int g), .unset, .unset] [(.int ((1 : Int32) <<< (k &&& 31))), (.int r), (.int k)])
      refine Go.st (fun _ h => XT.iconstV X0.here hx rfl (1 : Int32) (hb hby d_method_6_code_38) (by decide) h) ?_
      show Go p e below _ s₁ (mkF m 39 #[.val (.ref b1), .val (.int k), .val (.int r), .val (.int a), .val (.int f), .val (.int n), .val (.int g), .unset, .unset] [(.int (1 : Int32)), (.int ((1 : Int32) <<< (k &&& 31))), (.int r), (.int k)])
      refine Go.st (fun _ h => XS.isub X0.here hx rfl (hb hby d_method_6_code_39) rfl h) ?_
      show Go p e below _ s₁ (mkF m 40 #[.val (.ref b1), .val (.int k), .val (.int r), .val (.int a), .val (.int f), .val (.int n), .val (.int g), .unset, .unset] [(.int (((1 : Int32) <<< (k &&& 31)) - (1 : Int32))), (.int r), (.int k)])
      refine Go.st (fun _ h => XS.iand X0.here hx rfl (hb hby d_method_6_code_40) rfl h) ?_
      show Go p e below _ s₁ (mkF m 41 #[.val (.ref b1), .val (.int k), .val (.int r), .val (.int a), .val (.int f), .val (.int n), .val (.int g), .unset, .unset] [(.int (r &&& (((1 : Int32) <<< (k &&& 31)) - (1 : Int32)))), (.int k)])
      obtain ⟨T3, X3, e3, st3⟩ := own_still rfl rfl (Does.static (y := (⟨"com/example/bindwell/bindwell/collect/ListChangeMovesFromPinLaw", "pc", "(I)I"⟩ : MethodName)) (g := (mkF m 41 #[.val (.ref b1), .val (.int k), .val (.int r), .val (.int a), .val (.int f), .val (.int n), .val (.int g), .unset, .unset] [(.int (r &&& (((1 : Int32) <<< (k &&& 31)) - (1 : Int32)))), (.int k)])) (rmPc l Z a0 hw (r &&& (((1 : Int32) <<< (k &&& 31)) - (1 : Int32))) h0) X0 hx hZ hown e0 (hw _ (List.mem_of_getElem? (i := 2) rfl)) (hw _ (List.mem_of_getElem? (i := 3) rfl)) (hw _ (List.mem_of_getElem? (i := 4) rfl)) (hw _ (List.mem_of_getElem? (i := 5) rfl)) (by decide) rfl (by rw [hml]; rfl) (argsL := [(.int (r &&& (((1 : Int32) <<< (k &&& 31)) - (1 : Int32))))]) (rest := [(.int k)]) (lenOf pd_28I29I rfl) rfl (hb hby d_method_6_code_41) (W := 1) (by show 2 * 0 + _ ≤ _; exact Nat.le_of_eq rfl) (by decide) (by decide) (by decide) (by decide))
      refine Go.st st3 ?_
      show Go p e below _ T3 (mkF m 44 #[.val (.ref b1), .val (.int k), .val (.int r), .val (.int a), .val (.int f), .val (.int n), .val (.int g), .unset, .unset] [(.int (own_pc (r &&& (((1 : Int32) <<< (k &&& 31)) - (1 : Int32))))), (.int k)])
      refine Go.st (fun _ h => XS.isub X3.here hx rfl (hb hby d_method_6_code_44) rfl h) ?_
      show Go p e below _ T3 (mkF m 45 #[.val (.ref b1), .val (.int k), .val (.int r), .val (.int a), .val (.int f), .val (.int n), .val (.int g), .unset, .unset] [(.int (k - (own_pc (r &&& (((1 : Int32) <<< (k &&& 31)) - (1 : Int32))))))])
      refine Go.st (fun _ h => XS.istore X3.here hx rfl (hb hby d_method_6_code_45) rfl (l' := #[.val (.ref b1), .val (.int k), .val (.int r), .val (.int a), .val (.int f), .val (.int n), .val (.int g), .val (.int (k - (own_pc (r &&& (((1 : Int32) <<< (k &&& 31)) - (1 : Int32)))))), .unset]) rfl h) ?_
      show Go p e below _ T3 (mkF m 47 #[.val (.ref b1), .val (.int k), .val (.int r), .val (.int a), .val (.int f), .val (.int n), .val (.int g), .val (.int (k - (own_pc (r &&& (((1 : Int32) <<< (k &&& 31)) - (1 : Int32)))))), .unset] [])
      refine Go.st (fun _ h => XS.iload X3.here hx rfl (hb hby d_method_6_code_47) rfl h) ?_
      show Go p e below _ T3 (mkF m 49 #[.val (.ref b1), .val (.int k), .val (.int r), .val (.int a), .val (.int f), .val (.int n), .val (.int g), .val (.int (k - (own_pc (r &&& (((1 : Int32) <<< (k &&& 31)) - (1 : Int32)))))), .unset] [(.int g)])
      refine Go.st (fun _ h => XS.iload X3.here hx rfl (hb hby d_method_6_code_49) rfl h) ?_
      show Go p e below _ T3 (mkF m 51 #[.val (.ref b1), .val (.int k), .val (.int r), .val (.int a), .val (.int f), .val (.int n), .val (.int g), .val (.int (k - (own_pc (r &&& (((1 : Int32) <<< (k &&& 31)) - (1 : Int32)))))), .unset] [(.int f), (.int g)])
      refine Go.st (fun _ h => XS.isub X3.here hx rfl (hb hby d_method_6_code_51) rfl h) ?_
      show Go p e below _ T3 (mkF m 52 #[.val (.ref b1), .val (.int k), .val (.int r), .val (.int a), .val (.int f), .val (.int n), .val (.int g), .val (.int (k - (own_pc (r &&& (((1 : Int32) <<< (k &&& 31)) - (1 : Int32)))))), .unset] [(.int (g - f))])
      refine Go.st (fun _ h => XS.istore X3.here hx rfl (hb hby d_method_6_code_52) rfl (l' := #[.val (.ref b1), .val (.int k), .val (.int r), .val (.int a), .val (.int f), .val (.int n), .val (.int g), .val (.int (k - (own_pc (r &&& (((1 : Int32) <<< (k &&& 31)) - (1 : Int32)))))), .val (.int (g - f))]) rfl h) ?_
      show Go p e below _ T3 (mkF m 54 #[.val (.ref b1), .val (.int k), .val (.int r), .val (.int a), .val (.int f), .val (.int n), .val (.int g), .val (.int (k - (own_pc (r &&& (((1 : Int32) <<< (k &&& 31)) - (1 : Int32)))))), .val (.int (g - f))] [])
      refine Go.st (fun _ h => XS.iload X3.here hx rfl (hb hby d_method_6_code_54) rfl h) ?_
      show Go p e below _ T3 (mkF m 56 #[.val (.ref b1), .val (.int k), .val (.int r), .val (.int a), .val (.int f), .val (.int n), .val (.int g), .val (.int (k - (own_pc (r &&& (((1 : Int32) <<< (k &&& 31)) - (1 : Int32)))))), .val (.int (g - f))] [(.int (g - f))])
      by_cases hc4 : (g - f) < (0 : Int32)
      · refine Go.st (fun _ h => XS.ifYes X3.here hx rfl (pc0 := 56) (pc' := 66) rfl (hb hby d_method_6_code_56) rfl ((if0 _ _).trans (tlt hc4).1) (by decide) (by decide) h) ?_
        show Go p e below _ T3 (mkF m 66 #[.val (.ref b1), .val (.int k), .val (.int r), .val (.int a), .val (.int f), .val (.int n), .val (.int g), .val (.int (k - (own_pc (r &&& (((1 : Int32) <<< (k &&& 31)) - (1 : Int32)))))), .val (.int (g - f))] [])
        refine Go.st (fun _ h => XT.iconstV X3.here hx rfl (0 : Int32) (hb hby d_method_6_code_66) (by decide) h) ?_
        show Go p e below _ T3 (mkF m 67 #[.val (.ref b1), .val (.int k), .val (.int r), .val (.int a), .val (.int f), .val (.int n), .val (.int g), .val (.int (k - (own_pc (r &&& (((1 : Int32) <<< (k &&& 31)) - (1 : Int32)))))), .val (.int (g - f))] [(.int (0 : Int32))])
        refine Go.retZ X3 hx hlk hret rfl (hb hby d_method_6_code_67) (by decide) (by decide) ?_
        exact ⟨by rw [own_ok, if_pos hc1, if_pos hc2, own_okp, if_pos hc4], rfl, e3⟩
      · refine Go.st (fun _ h => XS.ifNo X3.here hx rfl (hb hby d_method_6_code_56) rfl ((if0 _ _).trans (flt hc4).1) h) ?_
        show Go p e below _ T3 (mkF m 59 #[.val (.ref b1), .val (.int k), .val (.int r), .val (.int a), .val (.int f), .val (.int n), .val (.int g), .val (.int (k - (own_pc (r &&& (((1 : Int32) <<< (k &&& 31)) - (1 : Int32)))))), .val (.int (g - f))] [])
        refine Go.st (fun _ h => XS.iload X3.here hx rfl (hb hby d_method_6_code_59) rfl h) ?_
        show Go p e below _ T3 (mkF m 61 #[.val (.ref b1), .val (.int k), .val (.int r), .val (.int a), .val (.int f), .val (.int n), .val (.int g), .val (.int (k - (own_pc (r &&& (((1 : Int32) <<< (k &&& 31)) - (1 : Int32)))))), .val (.int (g - f))] [(.int (g - f))])
        refine Go.st (fun _ h => XT.bipushV X3.here hx rfl (7 : Int32) (hb hby d_method_6_code_61) (by decide) h) ?_
        show Go p e below _ T3 (mkF m 63 #[.val (.ref b1), .val (.int k), .val (.int r), .val (.int a), .val (.int f), .val (.int n), .val (.int g), .val (.int (k - (own_pc (r &&& (((1 : Int32) <<< (k &&& 31)) - (1 : Int32)))))), .val (.int (g - f))] [(.int (7 : Int32)), (.int (g - f))])
        by_cases hc5 : (7 : Int32) < (g - f)
        · refine Go.st (fun _ h => XS.icmpNo X3.here hx rfl (hb hby d_method_6_code_63) rfl ((tlt hc5).2.2.2) h) ?_
          show Go p e below _ T3 (mkF m 66 #[.val (.ref b1), .val (.int k), .val (.int r), .val (.int a), .val (.int f), .val (.int n), .val (.int g), .val (.int (k - (own_pc (r &&& (((1 : Int32) <<< (k &&& 31)) - (1 : Int32)))))), .val (.int (g - f))] [])
          refine Go.st (fun _ h => XT.iconstV X3.here hx rfl (0 : Int32) (hb hby d_method_6_code_66) (by decide) h) ?_
          show Go p e below _ T3 (mkF m 67 #[.val (.ref b1), .val (.int k), .val (.int r), .val (.int a), .val (.int f), .val (.int n), .val (.int g), .val (.int (k - (own_pc (r &&& (((1 : Int32) <<< (k &&& 31)) - (1 : Int32)))))), .val (.int (g - f))] [(.int (0 : Int32))])
          refine Go.retZ X3 hx hlk hret rfl (hb hby d_method_6_code_67) (by decide) (by decide) ?_
          exact ⟨by rw [own_ok, if_pos hc1, if_pos hc2, own_okp, if_neg hc4, if_pos hc5], rfl, e3⟩
        · refine Go.st (fun _ h => XS.icmpYes X3.here hx rfl (pc0 := 63) (pc' := 68) rfl (hb hby d_method_6_code_63) rfl ((flt hc5).2.2.2) (by decide) (by decide) h) ?_
          show Go p e below _ T3 (mkF m 68 #[.val (.ref b1), .val (.int k), .val (.int r), .val (.int a), .val (.int f), .val (.int n), .val (.int g), .val (.int (k - (own_pc (r &&& (((1 : Int32) <<< (k &&& 31)) - (1 : Int32)))))), .val (.int (g - f))] [])
          refine Go.st (fun _ h => XS.iloadN X3.here hx rfl (hb hby d_method_6_code_68) rfl h) ?_
          show Go p e below _ T3 (mkF m 69 #[.val (.ref b1), .val (.int k), .val (.int r), .val (.int a), .val (.int f), .val (.int n), .val (.int g), .val (.int (k - (own_pc (r &&& (((1 : Int32) <<< (k &&& 31)) - (1 : Int32)))))), .val (.int (g - f))] [(.int a)])
          refine Go.st (fun _ h => XS.iload X3.here hx rfl (hb hby d_method_6_code_69) rfl h) ?_
          show Go p e below _ T3 (mkF m 71 #[.val (.ref b1), .val (.int k), .val (.int r), .val (.int a), .val (.int f), .val (.int n), .val (.int g), .val (.int (k - (own_pc (r &&& (((1 : Int32) <<< (k &&& 31)) - (1 : Int32)))))), .val (.int (g - f))] [(.int (g - f)), (.int a)])
          refine Go.st (fun _ h => XT.ishr X3.here hx rfl (hb hby d_method_6_code_71) rfl h) ?_
          show Go p e below _ T3 (mkF m 72 #[.val (.ref b1), .val (.int k), .val (.int r), .val (.int a), .val (.int f), .val (.int n), .val (.int g), .val (.int (k - (own_pc (r &&& (((1 : Int32) <<< (k &&& 31)) - (1 : Int32)))))), .val (.int (g - f))] [(.int (a >>> ((g - f) &&& 31)))])
          refine Go.st (fun _ h => XT.iconstV X3.here hx rfl (1 : Int32) (hb hby d_method_6_code_72) (by decide) h) ?_
          show Go p e below _ T3 (mkF m 73 #[.val (.ref b1), .val (.int k), .val (.int r), .val (.int a), .val (.int f), .val (.int n), .val (.int g), .val (.int (k - (own_pc (r &&& (((1 : Int32) <<< (k &&& 31)) - (1 : Int32)))))), .val (.int (g - f))] [(.int (1 : Int32)), (.int (a >>> ((g - f) &&& 31)))])
          refine Go.st (fun _ h => XS.iand X3.here hx rfl (hb hby d_method_6_code_73) rfl h) ?_
          show Go p e below _ T3 (mkF m 74 #[.val (.ref b1), .val (.int k), .val (.int r), .val (.int a), .val (.int f), .val (.int n), .val (.int g), .val (.int (k - (own_pc (r &&& (((1 : Int32) <<< (k &&& 31)) - (1 : Int32)))))), .val (.int (g - f))] [(.int ((a >>> ((g - f) &&& 31)) &&& (1 : Int32)))])
          by_cases hc6 : ((a >>> ((g - f) &&& 31)) &&& (1 : Int32)) = (0 : Int32)
          · refine Go.st (fun _ h => XS.ifYes X3.here hx rfl (pc0 := 74) (pc' := 79) rfl (hb hby d_method_6_code_74) rfl ((if0 _ _).trans (teq hc6).1) (by decide) (by decide) h) ?_
            show Go p e below _ T3 (mkF m 79 #[.val (.ref b1), .val (.int k), .val (.int r), .val (.int a), .val (.int f), .val (.int n), .val (.int g), .val (.int (k - (own_pc (r &&& (((1 : Int32) <<< (k &&& 31)) - (1 : Int32)))))), .val (.int (g - f))] [])
            refine Go.st (fun _ h => XS.iload X3.here hx rfl (hb hby d_method_6_code_79) rfl h) ?_
            show Go p e below _ T3 (mkF m 81 #[.val (.ref b1), .val (.int k), .val (.int r), .val (.int a), .val (.int f), .val (.int n), .val (.int g), .val (.int (k - (own_pc (r &&& (((1 : Int32) <<< (k &&& 31)) - (1 : Int32)))))), .val (.int (g - f))] [(.int (g - f))])
            refine Go.st (fun _ h => XS.iloadN X3.here hx rfl (hb hby d_method_6_code_81) rfl h) ?_
            show Go p e below _ T3 (mkF m 82 #[.val (.ref b1), .val (.int k), .val (.int r), .val (.int a), .val (.int f), .val (.int n), .val (.int g), .val (.int (k - (own_pc (r &&& (((1 : Int32) <<< (k &&& 31)) - (1 : Int32)))))), .val (.int (g - f))] [(.int a), (.int (g - f))])
            refine Go.st (fun _ h => XT.iconstV X3.here hx rfl (1 : Int32) (hb hby d_method_6_code_82) (by decide) h) ?_
            show Go p e below _ T3 (mkF m 83 #[.val (.ref b1), .val (.int k), .val (.int r), .val (.int a), .val (.int f), .val (.int n), .val (.int g), .val (.int (k - (own_pc (r &&& (((1 : Int32) <<< (k &&& 31)) - (1 : Int32)))))), .val (.int (g - f))] [(.int (1 : Int32)), (.int a), (.int (g - f))])
            refine Go.st (fun _ h => XS.iload X3.here hx rfl (hb hby d_method_6_code_83) rfl h) ?_
            show Go p e below _ T3 (mkF m 85 #[.val (.ref b1), .val (.int k), .val (.int r), .val (.int a), .val (.int f), .val (.int n), .val (.int g), .val (.int (k - (own_pc (r &&& (((1 : Int32) <<< (k &&& 31)) - (1 : Int32)))))), .val (.int (g - f))] [(.int (g - f)), (.int (1 : Int32)), (.int a), (.int (g - f))])
            refine Go.st (fun _ h => XT.ishl X3.here hx rfl (hb hby d_method_6_code_85) rfl h) ?_
            show Go p e below _ T3 (mkF m 86 #[.val (.ref b1), .val (.int k), .val (.int r), .val (.int a), .val (.int f), .val (.int n), .val (.int g), .val (.int (k - (own_pc (r &&& (((1 : Int32) <<< (k &&& 31)) - (1 : Int32)))))), .val (.int (g - f))] [(.int ((1 : Int32) <<< ((g - f) &&& 31))), (.int a), (.int (g - f))])
            refine Go.st (fun _ h => XT.iconstV X3.here hx rfl (1 : Int32) (hb hby d_method_6_code_86) (by decide) h) ?_
            show Go p e below _ T3 (mkF m 87 #[.val (.ref b1), .val (.int k), .val (.int r), .val (.int a), .val (.int f), .val (.int n), .val (.int g), .val (.int (k - (own_pc (r &&& (((1 : Int32) <<< (k &&& 31)) - (1 : Int32)))))), .val (.int (g - f))] [(.int (1 : Int32)), (.int ((1 : Int32) <<< ((g - f) &&& 31))), (.int a), (.int (g - f))])
            refine Go.st (fun _ h => XS.isub X3.here hx rfl (hb hby d_method_6_code_87) rfl h) ?_
            show Go p e below _ T3 (mkF m 88 #[.val (.ref b1), .val (.int k), .val (.int r), .val (.int a), .val (.int f), .val (.int n), .val (.int g), .val (.int (k - (own_pc (r &&& (((1 : Int32) <<< (k &&& 31)) - (1 : Int32)))))), .val (.int (g - f))] [(.int (((1 : Int32) <<< ((g - f) &&& 31)) - (1 : Int32))), (.int a), (.int (g - f))])
            refine Go.st (fun _ h => XS.iand X3.here hx rfl (hb hby d_method_6_code_88) rfl h) ?_
            show Go p e below _ T3 (mkF m 89 #[.val (.ref b1), .val (.int k), .val (.int r), .val (.int a), .val (.int f), .val (.int n), .val (.int g), .val (.int (k - (own_pc (r &&& (((1 : Int32) <<< (k &&& 31)) - (1 : Int32)))))), .val (.int (g - f))] [(.int (a &&& (((1 : Int32) <<< ((g - f) &&& 31)) - (1 : Int32)))), (.int (g - f))])
            obtain ⟨T7, X7, e7, st7⟩ := own_still rfl rfl (Does.static (y := (⟨"com/example/bindwell/bindwell/collect/ListChangeMovesFromPinLaw", "pc", "(I)I"⟩ : MethodName)) (g := (mkF m 89 #[.val (.ref b1), .val (.int k), .val (.int r), .val (.int a), .val (.int f), .val (.int n), .val (.int g), .val (.int (k - (own_pc (r &&& (((1 : Int32) <<< (k &&& 31)) - (1 : Int32)))))), .val (.int (g - f))] [(.int (a &&& (((1 : Int32) <<< ((g - f) &&& 31)) - (1 : Int32)))), (.int (g - f))])) (rmPc l Z a0 hw (a &&& (((1 : Int32) <<< ((g - f) &&& 31)) - (1 : Int32))) h0) X3 hx hZ hown e3 (hw _ (List.mem_of_getElem? (i := 2) rfl)) (hw _ (List.mem_of_getElem? (i := 3) rfl)) (hw _ (List.mem_of_getElem? (i := 4) rfl)) (hw _ (List.mem_of_getElem? (i := 5) rfl)) (by decide) rfl (by rw [hml]; rfl) (argsL := [(.int (a &&& (((1 : Int32) <<< ((g - f) &&& 31)) - (1 : Int32))))]) (rest := [(.int (g - f))]) (lenOf pd_28I29I rfl) rfl (hb hby d_method_6_code_89) (W := 1) (by show 2 * 0 + _ ≤ _; exact Nat.le_of_eq rfl) (by decide) (by decide) (by decide) (by decide))
            refine Go.st st7 ?_
            show Go p e below _ T7 (mkF m 92 #[.val (.ref b1), .val (.int k), .val (.int r), .val (.int a), .val (.int f), .val (.int n), .val (.int g), .val (.int (k - (own_pc (r &&& (((1 : Int32) <<< (k &&& 31)) - (1 : Int32)))))), .val (.int (g - f))] [(.int (own_pc (a &&& (((1 : Int32) <<< ((g - f) &&& 31)) - (1 : Int32))))), (.int (g - f))])
            refine Go.st (fun _ h => XS.isub X7.here hx rfl (hb hby d_method_6_code_92) rfl h) ?_
            show Go p e below _ T7 (mkF m 93 #[.val (.ref b1), .val (.int k), .val (.int r), .val (.int a), .val (.int f), .val (.int n), .val (.int g), .val (.int (k - (own_pc (r &&& (((1 : Int32) <<< (k &&& 31)) - (1 : Int32)))))), .val (.int (g - f))] [(.int ((g - f) - (own_pc (a &&& (((1 : Int32) <<< ((g - f) &&& 31)) - (1 : Int32))))))])
            refine Go.st (fun _ h => XS.iload X7.here hx rfl (hb hby d_method_6_code_93) rfl h) ?_
            show Go p e below _ T7 (mkF m 95 #[.val (.ref b1), .val (.int k), .val (.int r), .val (.int a), .val (.int f), .val (.int n), .val (.int g), .val (.int (k - (own_pc (r &&& (((1 : Int32) <<< (k &&& 31)) - (1 : Int32)))))), .val (.int (g - f))] [(.int (k - (own_pc (r &&& (((1 : Int32) <<< (k &&& 31)) - (1 : Int32)))))), (.int ((g - f) - (own_pc (a &&& (((1 : Int32) <<< ((g - f) &&& 31)) - (1 : Int32))))))])
            by_cases hc8 : ((g - f) - (own_pc (a &&& (((1 : Int32) <<< ((g - f) &&& 31)) - (1 : Int32))))) = (k - (own_pc (r &&& (((1 : Int32) <<< (k &&& 31)) - (1 : Int32)))))
            · refine Go.st (fun _ h => XS.icmpNo X7.here hx rfl (hb hby d_method_6_code_95) rfl ((teq hc8).2) h) ?_
              show Go p e below _ T7 (mkF m 98 #[.val (.ref b1), .val (.int k), .val (.int r), .val (.int a), .val (.int f), .val (.int n), .val (.int g), .val (.int (k - (own_pc (r &&& (((1 : Int32) <<< (k &&& 31)) - (1 : Int32)))))), .val (.int (g - f))] [])
              refine Go.st (fun _ h => XT.iconstV X7.here hx rfl (1 : Int32) (hb hby d_method_6_code_98) (by decide) h) ?_
              show Go p e below _ T7 (mkF m 99 #[.val (.ref b1), .val (.int k), .val (.int r), .val (.int a), .val (.int f), .val (.int n), .val (.int g), .val (.int (k - (own_pc (r &&& (((1 : Int32) <<< (k &&& 31)) - (1 : Int32)))))), .val (.int (g - f))] [(.int (1 : Int32))])
              refine Go.st (fun _ h => XS.goto X7.here hx rfl (pc0 := 99) (pc' := 103) rfl (hb hby d_method_6_code_99) (by decide) (by decide) h) ?_
              show Go p e below _ T7 (mkF m 103 #[.val (.ref b1), .val (.int k), .val (.int r), .val (.int a), .val (.int f), .val (.int n), .val (.int g), .val (.int (k - (own_pc (r &&& (((1 : Int32) <<< (k &&& 31)) - (1 : Int32)))))), .val (.int (g - f))] [(.int (1 : Int32))])
              refine Go.retZ X7 hx hlk hret rfl (hb hby d_method_6_code_103) (by decide) (by decide) ?_
              exact ⟨by rw [own_ok, if_pos hc1, if_pos hc2, own_okp, if_neg hc4, if_neg hc5, if_pos hc6, if_pos hc8], rfl, e7⟩
            · refine Go.st (fun _ h => XS.icmpYes X7.here hx rfl (pc0 := 95) (pc' := 102) rfl (hb hby d_method_6_code_95) rfl ((feq hc8).2) (by decide) (by decide) h) ?_
              show Go p e below _ T7 (mkF m 102 #[.val (.ref b1), .val (.int k), .val (.int r), .val (.int a), .val (.int f), .val (.int n), .val (.int g), .val (.int (k - (own_pc (r &&& (((1 : Int32) <<< (k &&& 31)) - (1 : Int32)))))), .val (.int (g - f))] [])
              refine Go.st (fun _ h => XT.iconstV X7.here hx rfl (0 : Int32) (hb hby d_method_6_code_102) (by decide) h) ?_
              show Go p e below _ T7 (mkF m 103 #[.val (.ref b1), .val (.int k), .val (.int r), .val (.int a), .val (.int f), .val (.int n), .val (.int g), .val (.int (k - (own_pc (r &&& (((1 : Int32) <<< (k &&& 31)) - (1 : Int32)))))), .val (.int (g - f))] [(.int (0 : Int32))])
              refine Go.retZ X7 hx hlk hret rfl (hb hby d_method_6_code_103) (by decide) (by decide) ?_
              exact ⟨by rw [own_ok, if_pos hc1, if_pos hc2, own_okp, if_neg hc4, if_neg hc5, if_pos hc6, if_neg hc8], rfl, e7⟩
          · refine Go.st (fun _ h => XS.ifNo X3.here hx rfl (hb hby d_method_6_code_74) rfl ((if0 _ _).trans (feq hc6).1) h) ?_
            show Go p e below _ T3 (mkF m 77 #[.val (.ref b1), .val (.int k), .val (.int r), .val (.int a), .val (.int f), .val (.int n), .val (.int g), .val (.int (k - (own_pc (r &&& (((1 : Int32) <<< (k &&& 31)) - (1 : Int32)))))), .val (.int (g - f))] [])
            refine Go.st (fun _ h => XT.iconstV X3.here hx rfl (0 : Int32) (hb hby d_method_6_code_77) (by decide) h) ?_
            show Go p e below _ T3 (mkF m 78 #[.val (.ref b1), .val (.int k), .val (.int r), .val (.int a), .val (.int f), .val (.int n), .val (.int g), .val (.int (k - (own_pc (r &&& (((1 : Int32) <<< (k &&& 31)) - (1 : Int32)))))), .val (.int (g - f))] [(.int (0 : Int32))])
            refine Go.retZ X3 hx hlk hret rfl (hb hby d_method_6_code_78) (by decide) (by decide) ?_
            exact ⟨by rw [own_ok, if_pos hc1, if_pos hc2, own_okp, if_neg hc4, if_neg hc5, if_neg hc6], rfl, e3⟩
    · refine Go.st (fun _ h => XS.ifNo X0.here hx rfl (hb hby d_method_6_code_18) rfl ((if0 _ _).trans (feq hc2).1) h) ?_
      show Go p e below _ s₁ (mkF m 21 #[.val (.ref b1), .val (.int k), .val (.int r), .val (.int a), .val (.int f), .val (.int n), .val (.int g), .unset, .unset] [])
      refine Go.st (fun _ h => XS.iload X0.here hx rfl (hb hby d_method_6_code_21) rfl h) ?_
      show Go p e below _ s₁ (mkF m 23 #[.val (.ref b1), .val (.int k), .val (.int r), .val (.int a), .val (.int f), .val (.int n), .val (.int g), .unset, .unset] [(.int g)])
      refine Go.st (fun _ h => XT.iconstV X0.here hx rfl (-1 : Int32) (hb hby d_method_6_code_23) (by decide) h) ?_
      show Go p e below _ s₁ (mkF m 24 #[.val (.ref b1), .val (.int k), .val (.int r), .val (.int a), .val (.int f), .val (.int n), .val (.int g), .unset, .unset] [(.int (-1 : Int32)), (.int g)])
      by_cases hc9 : g = (-1 : Int32)
      · refine Go.st (fun _ h => XS.icmpNo X0.here hx rfl (hb hby d_method_6_code_24) rfl ((teq hc9).2) h) ?_
        show Go p e below _ s₁ (mkF m 27 #[.val (.ref b1), .val (.int k), .val (.int r), .val (.int a), .val (.int f), .val (.int n), .val (.int g), .unset, .unset] [])
        refine Go.st (fun _ h => XT.iconstV X0.here hx rfl (1 : Int32) (hb hby d_method_6_code_27) (by decide) h) ?_
        show Go p e below _ s₁ (mkF m 28 #[.val (.ref b1), .val (.int k), .val (.int r), .val (.int a), .val (.int f), .val (.int n), .val (.int g), .unset, .unset] [(.int (1 : Int32))])
        refine Go.st (fun _ h => XS.goto X0.here hx rfl (pc0 := 28) (pc' := 32) rfl (hb hby d_method_6_code_28) (by decide) (by decide) h) ?_
        show Go p e below _ s₁ (mkF m 32 #[.val (.ref b1), .val (.int k), .val (.int r), .val (.int a), .val (.int f), .val (.int n), .val (.int g), .unset, .unset] [(.int (1 : Int32))])
        refine Go.retZ X0 hx hlk hret rfl (hb hby d_method_6_code_32) (by decide) (by decide) ?_
        exact ⟨by rw [own_ok, if_pos hc1, if_neg hc2, if_pos hc9], rfl, e0⟩
      · refine Go.st (fun _ h => XS.icmpYes X0.here hx rfl (pc0 := 24) (pc' := 31) rfl (hb hby d_method_6_code_24) rfl ((feq hc9).2) (by decide) (by decide) h) ?_
        show Go p e below _ s₁ (mkF m 31 #[.val (.ref b1), .val (.int k), .val (.int r), .val (.int a), .val (.int f), .val (.int n), .val (.int g), .unset, .unset] [])
        refine Go.st (fun _ h => XT.iconstV X0.here hx rfl (0 : Int32) (hb hby d_method_6_code_31) (by decide) h) ?_
        show Go p e below _ s₁ (mkF m 32 #[.val (.ref b1), .val (.int k), .val (.int r), .val (.int a), .val (.int f), .val (.int n), .val (.int g), .unset, .unset] [(.int (0 : Int32))])
        refine Go.retZ X0 hx hlk hret rfl (hb hby d_method_6_code_32) (by decide) (by decide) ?_
        exact ⟨by rw [own_ok, if_pos hc1, if_neg hc2, if_neg hc9], rfl, e0⟩
  · refine Go.st (fun _ h => XS.icmpNo X0.here hx rfl (hb hby d_method_6_code_3) rfl ((flt hc1).1) h) ?_
    show Go p e below _ s₁ (mkF m 6 #[.val (.ref b1), .val (.int k), .val (.int r), .val (.int a), .val (.int f), .val (.int n), .unset, .unset, .unset] [])
    refine Go.st (fun _ h => XT.iconstV X0.here hx rfl (1 : Int32) (hb hby d_method_6_code_6) (by decide) h) ?_
    show Go p e below _ s₁ (mkF m 7 #[.val (.ref b1), .val (.int k), .val (.int r), .val (.int a), .val (.int f), .val (.int n), .unset, .unset, .unset] [(.int (1 : Int32))])
    refine Go.retZ X0 hx hlk hret rfl (hb hby d_method_6_code_7) (by decide) (by decide) ?_
    exact ⟨by rw [own_ok, if_neg hc1], rfl, e0⟩
theorem ef_rmMoves (x0 : Addr) (x1 : Int32) (x2 : Int32) (m : MethodId) : entryFrame m #[(.ref x0), (.int x1), (.int x2)] 8 = mkF m 0 #[.val (.ref x0), .val (.int x1), .val (.int x2), .unset, .unset, .unset, .unset, .unset] [] := by first | (simp [entryFrame, mkF, argsToLocals, Value.category]; done) | rfl
set_option maxRecDepth 65536 in
set_option maxHeartbeats 40000000 in
theorem rmMoves (l : Launch) (Z : State) (a0 : Array Value) (hw : ∀ d ∈ tables_1, d.before a0 Z = true) (b1 ra a4 : Addr) (k1 k2 : ClassId) (rs ss : List Nat) (n : Nat) (fs : Int32) (hn : n ≤ 4) (hf0 : 0 ≤ fs.toInt) (hf1 : fs.toInt < 2 ^ 30) (hrl : rs.length ≤ 4) (hsl : ss.length ≤ 4) (hr4 : ∀ b ∈ rs, b < 4) (hs4 : ∀ b ∈ ss, b < 4) (h0 : Heap) (n0 : Nat) (Z0 : n0 ≤ h0.size) (F_r : Fld Z h0 b1 "com/example/bindwell/bindwell/collect/ListChange" "removedAt" "[I" (.ref ra)) (F_a : Fld Z h0 b1 "com/example/bindwell/bindwell/collect/ListChange" "addedAt" "[I" (.ref a4)) (F_m : Fld Z h0 b1 "com/example/bindwell/bindwell/collect/ListChange" "movedTo" "[I" .null) (B_r : Arv Z h0 ra k1 .int (Int32.ofNat rs.length) (rs.map (own_pos fs)) (.int (0 : Int32))) (B_a : Arv Z h0 a4 k2 .int (Int32.ofNat ss.length) (ss.map (own_pos fs)) (.int (0 : Int32))) :
    Does l Z (⟨"com/example/bindwell/bindwell/collect/ListChange", "movesFrom", "(II)[I"⟩ : MethodName) prog_22_method_18_code 8 (some (.array .int)) [] ({ frames := 0, cells := 1, slots := 4, locals := 0 } : Room) #[(.ref b1), (.int fs), (.int (fs + Int32.ofNat n))] h0 (fun v h L => ∃ r kk, v = some (.ref r) ∧ Fr n0 L ∧ Keep h0 h [] ∧ Arv Z h r kk .int (Int32.ofNat n) ((own_mv rs ss n 0 0 0 0).map (own_val fs)) (.int (0 : Int32))) := by
  refine Does.intro (plainFor_of_name pn_com_example_bindwell_bindwell_collect_ListChange) (ef_rmMoves b1 fs (fs + Int32.ofNat n)) ?_
  intro p e s m below meth c s₁ hx hby hml hown hnm hret hlk hZ e0 X0
  show Go p e below _ s₁ (mkF m 0 #[.val (.ref b1), .val (.int fs), .val (.int (fs + Int32.ofNat n)), .unset, .unset, .unset, .unset, .unset] [])
  have N0 := Fr.nil n0
  refine Go.st (fun _ h => XS.iloadN X0.here hx rfl (hb hby d_prog_22_method_18_code_0) rfl h) ?_
  show Go p e below _ s₁ (mkF m 1 #[.val (.ref b1), .val (.int fs), .val (.int (fs + Int32.ofNat n)), .unset, .unset, .unset, .unset, .unset] [(.int (fs + Int32.ofNat n))])
  refine Go.st (fun _ h => XS.iloadN X0.here hx rfl (hb hby d_prog_22_method_18_code_1) rfl h) ?_
  show Go p e below _ s₁ (mkF m 2 #[.val (.ref b1), .val (.int fs), .val (.int (fs + Int32.ofNat n)), .unset, .unset, .unset, .unset, .unset] [(.int fs), (.int (fs + Int32.ofNat n))])
  refine Go.st (fun _ h => XS.isub X0.here hx rfl (hb hby d_prog_22_method_18_code_2) rfl h) ?_
  show Go p e below _ s₁ (mkF m 3 #[.val (.ref b1), .val (.int fs), .val (.int (fs + Int32.ofNat n)), .unset, .unset, .unset, .unset, .unset] [(.int ((fs + Int32.ofNat n) - fs))])
  rw [own_subc]
  show Go p e below _ s₁ (mkF m 3 #[.val (.ref b1), .val (.int fs), .val (.int (fs + Int32.ofNat n)), .unset, .unset, .unset, .unset, .unset] [(.int (Int32.ofNat n))])
  obtain ⟨T1, h1, k1, X1, e1, E1, A1, st1⟩ := newP X0 hx hZ (hw _ (List.mem_of_getElem? (i := 6) rfl)) e0 (g := (mkF m 3 #[.val (.ref b1), .val (.int fs), .val (.int (fs + Int32.ofNat n)), .unset, .unset, .unset, .unset, .unset] [(.int (Int32.ofNat n))])) rfl (hb hby d_prog_22_method_18_code_3) rfl (own_nneg (by omega)) (cap := 4) (by rw [own_clamp (by omega)]; exact hn) (by decide) (by decide) (by decide)
  obtain ⟨o1, g1⟩ : ∃ z, z = h0.size := ⟨_, rfl⟩
  rw [← g1] at A1 st1
  have ne_a4_o1 : a4 ≠ o1 := by rw [g1]; exact Nat.ne_of_lt B_a.lt
  have ne_ra_o1 : ra ≠ o1 := by rw [g1]; exact Nat.ne_of_lt B_r.lt
  have le_o1 : h0.size ≤ o1 := by rw [g1]; exact (Keep.refl _ []).1
  have K1 := (Keep.refl _ []).ext E1
  have V1 := Arv.new A1 (own_nneg (by omega))
  refine Go.st st1 ?_
  show Go p e below _ T1 (mkF m 5 #[.val (.ref b1), .val (.int fs), .val (.int (fs + Int32.ofNat n)), .unset, .unset, .unset, .unset, .unset] [(.ref o1)])
  refine Go.st (fun _ h => XS.astoreN X1.here hx rfl (hb hby d_prog_22_method_18_code_5) rfl rfl (l' := #[.val (.ref b1), .val (.int fs), .val (.int (fs + Int32.ofNat n)), .val (.ref o1), .unset, .unset, .unset, .unset]) rfl h) ?_
  show Go p e below _ T1 (mkF m 6 #[.val (.ref b1), .val (.int fs), .val (.int (fs + Int32.ofNat n)), .val (.ref o1), .unset, .unset, .unset, .unset] [])
  refine Go.st (fun _ h => XT.iconstV X1.here hx rfl (0 : Int32) (hb hby d_prog_22_method_18_code_6) (by decide) h) ?_
  show Go p e below _ T1 (mkF m 7 #[.val (.ref b1), .val (.int fs), .val (.int (fs + Int32.ofNat n)), .val (.ref o1), .unset, .unset, .unset, .unset] [(.int (0 : Int32))])
  refine Go.st (fun _ h => XS.istore X1.here hx rfl (hb hby d_prog_22_method_18_code_7) rfl (l' := #[.val (.ref b1), .val (.int fs), .val (.int (fs + Int32.ofNat n)), .val (.ref o1), .val (.int (0 : Int32)), .unset, .unset, .unset]) rfl h) ?_
  show Go p e below _ T1 (mkF m 9 #[.val (.ref b1), .val (.int fs), .val (.int (fs + Int32.ofNat n)), .val (.ref o1), .val (.int (0 : Int32)), .unset, .unset, .unset] [])
  refine Go.st (fun _ h => XT.iconstV X1.here hx rfl (0 : Int32) (hb hby d_prog_22_method_18_code_9) (by decide) h) ?_
  show Go p e below _ T1 (mkF m 10 #[.val (.ref b1), .val (.int fs), .val (.int (fs + Int32.ofNat n)), .val (.ref o1), .val (.int (0 : Int32)), .unset, .unset, .unset] [(.int (0 : Int32))])
  refine Go.st (fun _ h => XS.istore X1.here hx rfl (hb hby d_prog_22_method_18_code_10) rfl (l' := #[.val (.ref b1), .val (.int fs), .val (.int (fs + Int32.ofNat n)), .val (.ref o1), .val (.int (0 : Int32)), .val (.int (0 : Int32)), .unset, .unset]) rfl h) ?_
  show Go p e below _ T1 (mkF m 12 #[.val (.ref b1), .val (.int fs), .val (.int (fs + Int32.ofNat n)), .val (.ref o1), .val (.int (0 : Int32)), .val (.int (0 : Int32)), .unset, .unset] [])
  refine Go.st (fun _ h => XS.iloadN X1.here hx rfl (hb hby d_prog_22_method_18_code_12) rfl h) ?_
  show Go p e below _ T1 (mkF m 13 #[.val (.ref b1), .val (.int fs), .val (.int (fs + Int32.ofNat n)), .val (.ref o1), .val (.int (0 : Int32)), .val (.int (0 : Int32)), .unset, .unset] [(.int fs)])
  refine Go.st (fun _ h => XS.istore X1.here hx rfl (hb hby d_prog_22_method_18_code_13) rfl (l' := #[.val (.ref b1), .val (.int fs), .val (.int (fs + Int32.ofNat n)), .val (.ref o1), .val (.int (0 : Int32)), .val (.int (0 : Int32)), .val (.int fs), .unset]) rfl h) ?_
  show Go p e below _ T1 (mkF m 15 #[.val (.ref b1), .val (.int fs), .val (.int (fs + Int32.ofNat n)), .val (.ref o1), .val (.int (0 : Int32)), .val (.int (0 : Int32)), .val (.int fs), .unset] [])
  refine Go.st (fun _ h => XS.iloadN X1.here hx rfl (hb hby d_prog_22_method_18_code_15) rfl h) ?_
  show Go p e below _ T1 (mkF m 16 #[.val (.ref b1), .val (.int fs), .val (.int (fs + Int32.ofNat n)), .val (.ref o1), .val (.int (0 : Int32)), .val (.int (0 : Int32)), .val (.int fs), .unset] [(.int fs)])
  refine Go.st (fun _ h => XS.istore X1.here hx rfl (hb hby d_prog_22_method_18_code_16) rfl (l' := #[.val (.ref b1), .val (.int fs), .val (.int (fs + Int32.ofNat n)), .val (.ref o1), .val (.int (0 : Int32)), .val (.int (0 : Int32)), .val (.int fs), .val (.int fs)]) rfl h) ?_
  show Go p e below _ T1 (mkF m 18 #[.val (.ref b1), .val (.int fs), .val (.int (fs + Int32.ofNat n)), .val (.ref o1), .val (.int (0 : Int32)), .val (.int (0 : Int32)), .val (.int fs), .val (.int fs)] [])
  have LOOP : ∀ (t k i j x : Nat) (dn : List (Option Nat)) (T : State) (h : Heap) (locs : List Loc), t + k = n → dn.length = k → dn ++ own_mv rs ss t k i j x = own_mv rs ss n 0 0 0 0 → i ≤ rs.length → j ≤ ss.length → x ≤ k + j → Stand p l e ({ frames := 0, cells := 1, slots := 4, locals := 0 } : Room) s m #[(.ref b1), (.int fs), (.int (fs + Int32.ofNat n))] below meth c T locs 1 4 → T.heap = h → Fr n0 locs → Keep h0 h [] → Arv Z h o1 k1 .int (Int32.ofNat n) (dn.map (own_val fs)) (.int (0 : Int32)) → Go p e below (Ends s ({ frames := 0, cells := 1, slots := 4, locals := 0 } : Room).cells ({ frames := 0, cells := 1, slots := 4, locals := 0 } : Room).slots (fun v h L => ∃ r kk, v = some (.ref r) ∧ Fr n0 L ∧ Keep h0 h [] ∧ Arv Z h r kk .int (Int32.ofNat n) ((own_mv rs ss n 0 0 0 0).map (own_val fs)) (.int (0 : Int32)))) T (mkF m 18 #[.val (.ref b1), .val (.int fs), .val (.int (fs + Int32.ofNat n)), .val (.ref o1), .val (.int (Int32.ofNat i)), .val (.int (Int32.ofNat j)), .val (.int (fs + Int32.ofNat x)), .val (.int (fs + Int32.ofNat k))] []) := by
    intro t
    induction t with
    | zero =>
      intro k i j x dn T h locs hk hd hm hi hj hx_ X eT N K VV
      obtain rfl : n = k := by omega
      show Go p e below _ T (mkF m 18 #[.val (.ref b1), .val (.int fs), .val (.int (fs + Int32.ofNat n)), .val (.ref o1), .val (.int (Int32.ofNat i)), .val (.int (Int32.ofNat j)), .val (.int (fs + Int32.ofNat x)), .val (.int (fs + Int32.ofNat n))] [])
      refine Go.st (fun _ h => XS.iload X.here hx rfl (hb hby d_prog_22_method_18_code_18) rfl h) ?_
      show Go p e below _ T (mkF m 20 #[.val (.ref b1), .val (.int fs), .val (.int (fs + Int32.ofNat n)), .val (.ref o1), .val (.int (Int32.ofNat i)), .val (.int (Int32.ofNat j)), .val (.int (fs + Int32.ofNat x)), .val (.int (fs + Int32.ofNat n))] [(.int (fs + Int32.ofNat n))])
      refine Go.st (fun _ h => XS.iloadN X.here hx rfl (hb hby d_prog_22_method_18_code_20) rfl h) ?_
      show Go p e below _ T (mkF m 21 #[.val (.ref b1), .val (.int fs), .val (.int (fs + Int32.ofNat n)), .val (.ref o1), .val (.int (Int32.ofNat i)), .val (.int (Int32.ofNat j)), .val (.int (fs + Int32.ofNat x)), .val (.int (fs + Int32.ofNat n))] [(.int (fs + Int32.ofNat n)), (.int (fs + Int32.ofNat n))])
      refine Go.st (fun _ h => XS.icmpYes X.here hx rfl (pc0 := 21) (pc' := 124) rfl (hb hby d_prog_22_method_18_code_21) rfl ((flt (Int32.lt_irrefl : ¬ ((fs + Int32.ofNat n) < (fs + Int32.ofNat n)))).2.1) (by decide) (by decide) h) ?_
      show Go p e below _ T (mkF m 124 #[.val (.ref b1), .val (.int fs), .val (.int (fs + Int32.ofNat n)), .val (.ref o1), .val (.int (Int32.ofNat i)), .val (.int (Int32.ofNat j)), .val (.int (fs + Int32.ofNat x)), .val (.int (fs + Int32.ofNat n))] [])
      refine Go.st (fun _ h => XS.aloadN X.here hx rfl (hb hby d_prog_22_method_18_code_124) rfl rfl h) ?_
      show Go p e below _ T (mkF m 125 #[.val (.ref b1), .val (.int fs), .val (.int (fs + Int32.ofNat n)), .val (.ref o1), .val (.int (Int32.ofNat i)), .val (.int (Int32.ofNat j)), .val (.int (fs + Int32.ofNat x)), .val (.int (fs + Int32.ofNat n))] [(.ref o1)])
      refine Go.retA X hx hlk hret rfl rfl rfl (hb hby d_prog_22_method_18_code_125) (by decide) (by decide) ?_
      rw [eT]
      have hm' : dn = own_mv rs ss n 0 0 0 0 := by rw [← hm, own_mv, List.append_nil]
      rw [hm'] at VV
      exact ⟨o1, k1, rfl, N, K, VV⟩
    | succ t ih =>
      intro k i j x dn T h locs hk hd hm hi hj hx_ X eT N K VV
      show Go p e below _ T (mkF m 18 #[.val (.ref b1), .val (.int fs), .val (.int (fs + Int32.ofNat n)), .val (.ref o1), .val (.int (Int32.ofNat i)), .val (.int (Int32.ofNat j)), .val (.int (fs + Int32.ofNat x)), .val (.int (fs + Int32.ofNat k))] [])
      have STORE : ∀ (j' x' : Nat) (T : State), ¬ rs[i]? = some k → j' ≤ ss.length → (j', x') = own_adv ss (ss.length - j) j x → x' ≤ k + j' → Stand p l e ({ frames := 0, cells := 1, slots := 4, locals := 0 } : Room) s m #[(.ref b1), (.int fs), (.int (fs + Int32.ofNat n))] below meth c T locs 1 4 → T.heap = h → Go p e below (Ends s ({ frames := 0, cells := 1, slots := 4, locals := 0 } : Room).cells ({ frames := 0, cells := 1, slots := 4, locals := 0 } : Room).slots (fun v h L => ∃ r kk, v = some (.ref r) ∧ Fr n0 L ∧ Keep h0 h [] ∧ Arv Z h r kk .int (Int32.ofNat n) ((own_mv rs ss n 0 0 0 0).map (own_val fs)) (.int (0 : Int32)))) T (mkF m 107 #[.val (.ref b1), .val (.int fs), .val (.int (fs + Int32.ofNat n)), .val (.ref o1), .val (.int (Int32.ofNat i)), .val (.int (Int32.ofNat j')), .val (.int (fs + Int32.ofNat x')), .val (.int (fs + Int32.ofNat k))] []) := by
        intro j' x' T hnr hj' hadv hx' X eT
        show Go p e below _ T (mkF m 107 #[.val (.ref b1), .val (.int fs), .val (.int (fs + Int32.ofNat n)), .val (.ref o1), .val (.int (Int32.ofNat i)), .val (.int (Int32.ofNat j')), .val (.int (fs + Int32.ofNat x')), .val (.int (fs + Int32.ofNat k))] [])
        refine Go.st (fun _ h => XS.aloadN X.here hx rfl (hb hby d_prog_22_method_18_code_107) rfl rfl h) ?_
        show Go p e below _ T (mkF m 108 #[.val (.ref b1), .val (.int fs), .val (.int (fs + Int32.ofNat n)), .val (.ref o1), .val (.int (Int32.ofNat i)), .val (.int (Int32.ofNat j')), .val (.int (fs + Int32.ofNat x')), .val (.int (fs + Int32.ofNat k))] [(.ref o1)])
        refine Go.st (fun _ h => XS.iload X.here hx rfl (hb hby d_prog_22_method_18_code_108) rfl h) ?_
        show Go p e below _ T (mkF m 110 #[.val (.ref b1), .val (.int fs), .val (.int (fs + Int32.ofNat n)), .val (.ref o1), .val (.int (Int32.ofNat i)), .val (.int (Int32.ofNat j')), .val (.int (fs + Int32.ofNat x')), .val (.int (fs + Int32.ofNat k))] [(.int (fs + Int32.ofNat k)), (.ref o1)])
        refine Go.st (fun _ h => XS.iloadN X.here hx rfl (hb hby d_prog_22_method_18_code_110) rfl h) ?_
        show Go p e below _ T (mkF m 111 #[.val (.ref b1), .val (.int fs), .val (.int (fs + Int32.ofNat n)), .val (.ref o1), .val (.int (Int32.ofNat i)), .val (.int (Int32.ofNat j')), .val (.int (fs + Int32.ofNat x')), .val (.int (fs + Int32.ofNat k))] [(.int fs), (.int (fs + Int32.ofNat k)), (.ref o1)])
        refine Go.st (fun _ h => XS.isub X.here hx rfl (hb hby d_prog_22_method_18_code_111) rfl h) ?_
        show Go p e below _ T (mkF m 112 #[.val (.ref b1), .val (.int fs), .val (.int (fs + Int32.ofNat n)), .val (.ref o1), .val (.int (Int32.ofNat i)), .val (.int (Int32.ofNat j')), .val (.int (fs + Int32.ofNat x')), .val (.int (fs + Int32.ofNat k))] [(.int ((fs + Int32.ofNat k) - fs)), (.ref o1)])
        rw [own_subc]
        show Go p e below _ T (mkF m 112 #[.val (.ref b1), .val (.int fs), .val (.int (fs + Int32.ofNat n)), .val (.ref o1), .val (.int (Int32.ofNat i)), .val (.int (Int32.ofNat j')), .val (.int (fs + Int32.ofNat x')), .val (.int (fs + Int32.ofNat k))] [(.int (Int32.ofNat k)), (.ref o1)])
        refine Go.st (fun _ h => XS.iload X.here hx rfl (hb hby d_prog_22_method_18_code_112) rfl h) ?_
        show Go p e below _ T (mkF m 114 #[.val (.ref b1), .val (.int fs), .val (.int (fs + Int32.ofNat n)), .val (.ref o1), .val (.int (Int32.ofNat i)), .val (.int (Int32.ofNat j')), .val (.int (fs + Int32.ofNat x')), .val (.int (fs + Int32.ofNat k))] [(.int (fs + Int32.ofNat x')), (.int (Int32.ofNat k)), (.ref o1)])
        refine Go.st (fun _ h => XT.iincV X.here hx rfl (1 : Int32) (hb hby d_prog_22_method_18_code_114) (by decide) rfl (l' := #[.val (.ref b1), .val (.int fs), .val (.int (fs + Int32.ofNat n)), .val (.ref o1), .val (.int (Int32.ofNat i)), .val (.int (Int32.ofNat j')), .val (.int ((fs + Int32.ofNat x') + (1 : Int32))), .val (.int (fs + Int32.ofNat k))]) rfl h) ?_
        show Go p e below _ T (mkF m 117 #[.val (.ref b1), .val (.int fs), .val (.int (fs + Int32.ofNat n)), .val (.ref o1), .val (.int (Int32.ofNat i)), .val (.int (Int32.ofNat j')), .val (.int ((fs + Int32.ofNat x') + (1 : Int32))), .val (.int (fs + Int32.ofNat k))] [(.int (fs + Int32.ofNat x')), (.int (Int32.ofNat k)), (.ref o1)])
        have V' : Arv Z h o1 k1 .int (Int32.ofNat n) (dn.map (own_val fs) ++ [.int (0 : Int32)]) (.int (0 : Int32)) := VV.pad (pad_rep _ _ 1)
        obtain ⟨T2, h2, X2, e2, W2, V2, st2⟩ := own_stI X hx hZ eT (j := Int32.ofNat k) V' (own_nneg (by omega)) (own_lt (by omega) (by omega)) k (own_clamp (by omega)) (by simp [hd]) (g := (mkF m 117 #[.val (.ref b1), .val (.int fs), .val (.int (fs + Int32.ofNat n)), .val (.ref o1), .val (.int (Int32.ofNat i)), .val (.int (Int32.ofNat j')), .val (.int ((fs + Int32.ofNat x') + (1 : Int32))), .val (.int (fs + Int32.ofNat k))] [(.int (fs + Int32.ofNat x')), (.int (Int32.ofNat k)), (.ref o1)])) rfl rfl (hb hby d_prog_22_method_18_code_117)
        have V2' : Arv Z h2 o1 k1 .int (Int32.ofNat n) ((dn ++ [(some x')]).map (own_val fs)) (.int (0 : Int32)) := by have q := own_set fs dn (some x') (.int (0 : Int32)) k hd; rw [← q]; exact V2
        have N2 := Fr.snoc X2 N (Nat.le_trans Z0 le_o1)
        have K2 := K.wr W2 (Or.inr le_o1)
        refine Go.st st2 ?_
        show Go p e below _ T2 (mkF m 118 #[.val (.ref b1), .val (.int fs), .val (.int (fs + Int32.ofNat n)), .val (.ref o1), .val (.int (Int32.ofNat i)), .val (.int (Int32.ofNat j')), .val (.int ((fs + Int32.ofNat x') + (1 : Int32))), .val (.int (fs + Int32.ofNat k))] [])
        refine Go.st (fun _ h => XT.iincV X2.here hx rfl (1 : Int32) (hb hby d_prog_22_method_18_code_118) (by decide) rfl (l' := #[.val (.ref b1), .val (.int fs), .val (.int (fs + Int32.ofNat n)), .val (.ref o1), .val (.int (Int32.ofNat i)), .val (.int (Int32.ofNat j')), .val (.int ((fs + Int32.ofNat x') + (1 : Int32))), .val (.int ((fs + Int32.ofNat k) + (1 : Int32)))]) rfl h) ?_
        show Go p e below _ T2 (mkF m 121 #[.val (.ref b1), .val (.int fs), .val (.int (fs + Int32.ofNat n)), .val (.ref o1), .val (.int (Int32.ofNat i)), .val (.int (Int32.ofNat j')), .val (.int ((fs + Int32.ofNat x') + (1 : Int32))), .val (.int ((fs + Int32.ofNat k) + (1 : Int32)))] [])
        refine Go.st (fun _ h => XS.goto X2.here hx rfl (pc0 := 121) (pc' := 18) rfl (hb hby d_prog_22_method_18_code_121) (by decide) (by decide) h) ?_
        show Go p e below _ T2 (mkF m 18 #[.val (.ref b1), .val (.int fs), .val (.int (fs + Int32.ofNat n)), .val (.ref o1), .val (.int (Int32.ofNat i)), .val (.int (Int32.ofNat j')), .val (.int ((fs + Int32.ofNat x') + (1 : Int32))), .val (.int ((fs + Int32.ofNat k) + (1 : Int32)))] [])
        rw [own_fsucc, own_fsucc]
        rw [own_mv_add hnr hadv] at hm
        exact ih (k + 1) i j' (x' + 1) (dn ++ [some x']) _ _ _ (by omega) (by simp [hd]) (by rw [← hm]; simp) hi hj' (by omega) X2 e2 N2 K2 V2'
      have INNER : ¬ rs[i]? = some k → ∀ (f j' x' : Nat) (T : State), j' + f = ss.length → own_adv ss f j' x' = own_adv ss (ss.length - j) j x → x' ≤ k + j' → Stand p l e ({ frames := 0, cells := 1, slots := 4, locals := 0 } : Room) s m #[(.ref b1), (.int fs), (.int (fs + Int32.ofNat n))] below meth c T locs 1 4 → T.heap = h → Go p e below (Ends s ({ frames := 0, cells := 1, slots := 4, locals := 0 } : Room).cells ({ frames := 0, cells := 1, slots := 4, locals := 0 } : Room).slots (fun v h L => ∃ r kk, v = some (.ref r) ∧ Fr n0 L ∧ Keep h0 h [] ∧ Arv Z h r kk .int (Int32.ofNat n) ((own_mv rs ss n 0 0 0 0).map (own_val fs)) (.int (0 : Int32)))) T (mkF m 76 #[.val (.ref b1), .val (.int fs), .val (.int (fs + Int32.ofNat n)), .val (.ref o1), .val (.int (Int32.ofNat i)), .val (.int (Int32.ofNat j')), .val (.int (fs + Int32.ofNat x')), .val (.int (fs + Int32.ofNat k))] []) := by
        intro hnr f
        induction f with
        | zero =>
          intro j' x' T hjf hadv hx' X eT
          show Go p e below _ T (mkF m 76 #[.val (.ref b1), .val (.int fs), .val (.int (fs + Int32.ofNat n)), .val (.ref o1), .val (.int (Int32.ofNat i)), .val (.int (Int32.ofNat j')), .val (.int (fs + Int32.ofNat x')), .val (.int (fs + Int32.ofNat k))] [])
          refine Go.st (fun _ h => XS.iload X.here hx rfl (hb hby d_prog_22_method_18_code_76) rfl h) ?_
          show Go p e below _ T (mkF m 78 #[.val (.ref b1), .val (.int fs), .val (.int (fs + Int32.ofNat n)), .val (.ref o1), .val (.int (Int32.ofNat i)), .val (.int (Int32.ofNat j')), .val (.int (fs + Int32.ofNat x')), .val (.int (fs + Int32.ofNat k))] [(.int (Int32.ofNat j'))])
          refine Go.st (fun _ h => XS.aloadN X.here hx rfl (hb hby d_prog_22_method_18_code_78) rfl rfl h) ?_
          show Go p e below _ T (mkF m 79 #[.val (.ref b1), .val (.int fs), .val (.int (fs + Int32.ofNat n)), .val (.ref o1), .val (.int (Int32.ofNat i)), .val (.int (Int32.ofNat j')), .val (.int (fs + Int32.ofNat x')), .val (.int (fs + Int32.ofNat k))] [(.ref b1), (.int (Int32.ofNat j'))])
          obtain ⟨T3, X3, e3, st3⟩ := getF X hx hZ hown (host := "") (Or.inl (hw _ (List.mem_of_getElem? (i := 93) rfl))) Via.refl eT (F_a.keep K nin0) (g := (mkF m 79 #[.val (.ref b1), .val (.int fs), .val (.int (fs + Int32.ofNat n)), .val (.ref o1), .val (.int (Int32.ofNat i)), .val (.int (Int32.ofNat j')), .val (.int (fs + Int32.ofNat x')), .val (.int (fs + Int32.ofNat k))] [(.ref b1), (.int (Int32.ofNat j'))])) rfl rfl (hb hby d_prog_22_method_18_code_79)
          refine Go.st st3 ?_
          show Go p e below _ T3 (mkF m 82 #[.val (.ref b1), .val (.int fs), .val (.int (fs + Int32.ofNat n)), .val (.ref o1), .val (.int (Int32.ofNat i)), .val (.int (Int32.ofNat j')), .val (.int (fs + Int32.ofNat x')), .val (.int (fs + Int32.ofNat k))] [(.ref a4), (.int (Int32.ofNat j'))])
          refine Go.st (own_len X3 hx hZ e3 (B_a.keep K nin0) rfl rfl (hb hby d_prog_22_method_18_code_82)) ?_
          show Go p e below _ T3 (mkF m 83 #[.val (.ref b1), .val (.int fs), .val (.int (fs + Int32.ofNat n)), .val (.ref o1), .val (.int (Int32.ofNat i)), .val (.int (Int32.ofNat j')), .val (.int (fs + Int32.ofNat x')), .val (.int (fs + Int32.ofNat k))] [(.int (Int32.ofNat ss.length)), (.int (Int32.ofNat j'))])
          refine Go.st (fun _ h => XS.icmpYes X3.here hx rfl (pc0 := 83) (pc' := 107) rfl (hb hby d_prog_22_method_18_code_83) rfl ((flt (own_nlt (by omega) (by omega) (by omega) : ¬ ((Int32.ofNat j') < (Int32.ofNat ss.length)))).2.1) (by decide) (by decide) h) ?_
          show Go p e below _ T3 (mkF m 107 #[.val (.ref b1), .val (.int fs), .val (.int (fs + Int32.ofNat n)), .val (.ref o1), .val (.int (Int32.ofNat i)), .val (.int (Int32.ofNat j')), .val (.int (fs + Int32.ofNat x')), .val (.int (fs + Int32.ofNat k))] [])
          exact STORE j' x' T3 hnr (by omega) (by rw [← hadv, own_adv]) hx' X3 e3
        | succ f ihf =>
          intro j' x' T hjf hadv hx' X eT
          show Go p e below _ T (mkF m 76 #[.val (.ref b1), .val (.int fs), .val (.int (fs + Int32.ofNat n)), .val (.ref o1), .val (.int (Int32.ofNat i)), .val (.int (Int32.ofNat j')), .val (.int (fs + Int32.ofNat x')), .val (.int (fs + Int32.ofNat k))] [])
          refine Go.st (fun _ h => XS.iload X.here hx rfl (hb hby d_prog_22_method_18_code_76) rfl h) ?_
          show Go p e below _ T (mkF m 78 #[.val (.ref b1), .val (.int fs), .val (.int (fs + Int32.ofNat n)), .val (.ref o1), .val (.int (Int32.ofNat i)), .val (.int (Int32.ofNat j')), .val (.int (fs + Int32.ofNat x')), .val (.int (fs + Int32.ofNat k))] [(.int (Int32.ofNat j'))])
          refine Go.st (fun _ h => XS.aloadN X.here hx rfl (hb hby d_prog_22_method_18_code_78) rfl rfl h) ?_
          show Go p e below _ T (mkF m 79 #[.val (.ref b1), .val (.int fs), .val (.int (fs + Int32.ofNat n)), .val (.ref o1), .val (.int (Int32.ofNat i)), .val (.int (Int32.ofNat j')), .val (.int (fs + Int32.ofNat x')), .val (.int (fs + Int32.ofNat k))] [(.ref b1), (.int (Int32.ofNat j'))])
          obtain ⟨T4, X4, e4, st4⟩ := getF X hx hZ hown (host := "") (Or.inl (hw _ (List.mem_of_getElem? (i := 93) rfl))) Via.refl eT (F_a.keep K nin0) (g := (mkF m 79 #[.val (.ref b1), .val (.int fs), .val (.int (fs + Int32.ofNat n)), .val (.ref o1), .val (.int (Int32.ofNat i)), .val (.int (Int32.ofNat j')), .val (.int (fs + Int32.ofNat x')), .val (.int (fs + Int32.ofNat k))] [(.ref b1), (.int (Int32.ofNat j'))])) rfl rfl (hb hby d_prog_22_method_18_code_79)
          refine Go.st st4 ?_
          show Go p e below _ T4 (mkF m 82 #[.val (.ref b1), .val (.int fs), .val (.int (fs + Int32.ofNat n)), .val (.ref o1), .val (.int (Int32.ofNat i)), .val (.int (Int32.ofNat j')), .val (.int (fs + Int32.ofNat x')), .val (.int (fs + Int32.ofNat k))] [(.ref a4), (.int (Int32.ofNat j'))])
          refine Go.st (own_len X4 hx hZ e4 (B_a.keep K nin0) rfl rfl (hb hby d_prog_22_method_18_code_82)) ?_
          show Go p e below _ T4 (mkF m 83 #[.val (.ref b1), .val (.int fs), .val (.int (fs + Int32.ofNat n)), .val (.ref o1), .val (.int (Int32.ofNat i)), .val (.int (Int32.ofNat j')), .val (.int (fs + Int32.ofNat x')), .val (.int (fs + Int32.ofNat k))] [(.int (Int32.ofNat ss.length)), (.int (Int32.ofNat j'))])
          refine Go.st (fun _ h => XS.icmpNo X4.here hx rfl (hb hby d_prog_22_method_18_code_83) rfl ((tlt (own_lt (by omega) (by omega) : (Int32.ofNat j') < (Int32.ofNat ss.length))).2.1) h) ?_
          show Go p e below _ T4 (mkF m 86 #[.val (.ref b1), .val (.int fs), .val (.int (fs + Int32.ofNat n)), .val (.ref o1), .val (.int (Int32.ofNat i)), .val (.int (Int32.ofNat j')), .val (.int (fs + Int32.ofNat x')), .val (.int (fs + Int32.ofNat k))] [])
          obtain ⟨sj, hsj⟩ : ∃ z, ss[j']? = some z := ⟨_, List.getElem?_eq_getElem (by omega)⟩
          have hsj4 := hs4 _ (List.mem_of_getElem? hsj)
          refine Go.st (fun _ h => XS.aloadN X4.here hx rfl (hb hby d_prog_22_method_18_code_86) rfl rfl h) ?_
          show Go p e below _ T4 (mkF m 87 #[.val (.ref b1), .val (.int fs), .val (.int (fs + Int32.ofNat n)), .val (.ref o1), .val (.int (Int32.ofNat i)), .val (.int (Int32.ofNat j')), .val (.int (fs + Int32.ofNat x')), .val (.int (fs + Int32.ofNat k))] [(.ref b1)])
          obtain ⟨T5, X5, e5, st5⟩ := getF X4 hx hZ hown (host := "") (Or.inl (hw _ (List.mem_of_getElem? (i := 93) rfl))) Via.refl e4 (F_a.keep K nin0) (g := (mkF m 87 #[.val (.ref b1), .val (.int fs), .val (.int (fs + Int32.ofNat n)), .val (.ref o1), .val (.int (Int32.ofNat i)), .val (.int (Int32.ofNat j')), .val (.int (fs + Int32.ofNat x')), .val (.int (fs + Int32.ofNat k))] [(.ref b1)])) rfl rfl (hb hby d_prog_22_method_18_code_87)
          refine Go.st st5 ?_
          show Go p e below _ T5 (mkF m 90 #[.val (.ref b1), .val (.int fs), .val (.int (fs + Int32.ofNat n)), .val (.ref o1), .val (.int (Int32.ofNat i)), .val (.int (Int32.ofNat j')), .val (.int (fs + Int32.ofNat x')), .val (.int (fs + Int32.ofNat k))] [(.ref a4)])
          refine Go.st (fun _ h => XS.iload X5.here hx rfl (hb hby d_prog_22_method_18_code_90) rfl h) ?_
          show Go p e below _ T5 (mkF m 92 #[.val (.ref b1), .val (.int fs), .val (.int (fs + Int32.ofNat n)), .val (.ref o1), .val (.int (Int32.ofNat i)), .val (.int (Int32.ofNat j')), .val (.int (fs + Int32.ofNat x')), .val (.int (fs + Int32.ofNat k))] [(.int (Int32.ofNat j')), (.ref a4)])
          refine Go.st (own_ldI X5 hx hZ e5 (B_a.keep K nin0) (own_nneg (by omega)) (own_lt (by omega) (by omega)) (own_at (by omega) hsj) rfl rfl (hb hby d_prog_22_method_18_code_92)) ?_
          show Go p e below _ T5 (mkF m 93 #[.val (.ref b1), .val (.int fs), .val (.int (fs + Int32.ofNat n)), .val (.ref o1), .val (.int (Int32.ofNat i)), .val (.int (Int32.ofNat j')), .val (.int (fs + Int32.ofNat x')), .val (.int (fs + Int32.ofNat k))] [(.int (fs + Int32.ofNat sj))])
          refine Go.st (fun _ h => XS.iload X5.here hx rfl (hb hby d_prog_22_method_18_code_93) rfl h) ?_
          show Go p e below _ T5 (mkF m 95 #[.val (.ref b1), .val (.int fs), .val (.int (fs + Int32.ofNat n)), .val (.ref o1), .val (.int (Int32.ofNat i)), .val (.int (Int32.ofNat j')), .val (.int (fs + Int32.ofNat x')), .val (.int (fs + Int32.ofNat k))] [(.int (fs + Int32.ofNat x')), (.int (fs + Int32.ofNat sj))])
          by_cases hq : sj = x'
          ·
            refine Go.st (fun _ h => XS.icmpNo X5.here hx rfl (hb hby d_prog_22_method_18_code_95) rfl ((teq (by rw [hq] : (fs + Int32.ofNat sj) = (fs + Int32.ofNat x'))).2) h) ?_
            show Go p e below _ T5 (mkF m 98 #[.val (.ref b1), .val (.int fs), .val (.int (fs + Int32.ofNat n)), .val (.ref o1), .val (.int (Int32.ofNat i)), .val (.int (Int32.ofNat j')), .val (.int (fs + Int32.ofNat x')), .val (.int (fs + Int32.ofNat k))] [])
            refine Go.st (fun _ h => XT.iincV X5.here hx rfl (1 : Int32) (hb hby d_prog_22_method_18_code_98) (by decide) rfl (l' := #[.val (.ref b1), .val (.int fs), .val (.int (fs + Int32.ofNat n)), .val (.ref o1), .val (.int (Int32.ofNat i)), .val (.int ((Int32.ofNat j') + (1 : Int32))), .val (.int (fs + Int32.ofNat x')), .val (.int (fs + Int32.ofNat k))]) rfl h) ?_
            show Go p e below _ T5 (mkF m 101 #[.val (.ref b1), .val (.int fs), .val (.int (fs + Int32.ofNat n)), .val (.ref o1), .val (.int (Int32.ofNat i)), .val (.int ((Int32.ofNat j') + (1 : Int32))), .val (.int (fs + Int32.ofNat x')), .val (.int (fs + Int32.ofNat k))] [])
            refine Go.st (fun _ h => XT.iincV X5.here hx rfl (1 : Int32) (hb hby d_prog_22_method_18_code_101) (by decide) rfl (l' := #[.val (.ref b1), .val (.int fs), .val (.int (fs + Int32.ofNat n)), .val (.ref o1), .val (.int (Int32.ofNat i)), .val (.int ((Int32.ofNat j') + (1 : Int32))), .val (.int ((fs + Int32.ofNat x') + (1 : Int32))), .val (.int (fs + Int32.ofNat k))]) rfl h) ?_
            show Go p e below _ T5 (mkF m 104 #[.val (.ref b1), .val (.int fs), .val (.int (fs + Int32.ofNat n)), .val (.ref o1), .val (.int (Int32.ofNat i)), .val (.int ((Int32.ofNat j') + (1 : Int32))), .val (.int ((fs + Int32.ofNat x') + (1 : Int32))), .val (.int (fs + Int32.ofNat k))] [])
            refine Go.st (fun _ h => XS.goto X5.here hx rfl (pc0 := 104) (pc' := 76) rfl (hb hby d_prog_22_method_18_code_104) (by decide) (by decide) h) ?_
            show Go p e below _ T5 (mkF m 76 #[.val (.ref b1), .val (.int fs), .val (.int (fs + Int32.ofNat n)), .val (.ref o1), .val (.int (Int32.ofNat i)), .val (.int ((Int32.ofNat j') + (1 : Int32))), .val (.int ((fs + Int32.ofNat x') + (1 : Int32))), .val (.int (fs + Int32.ofNat k))] [])
            rw [own_fsucc, own_succ]
            exact ihf (j' + 1) (x' + 1) T5 (by omega) (by rw [← hadv, own_adv, if_pos (by rw [hsj, hq])]) (by omega) X5 e5
          ·
            refine Go.st (fun _ h => XS.icmpYes X5.here hx rfl (pc0 := 95) (pc' := 107) rfl (hb hby d_prog_22_method_18_code_95) rfl ((feq (own_feq (by omega) (by omega) hq : ¬ ((fs + Int32.ofNat sj) = (fs + Int32.ofNat x')))).2) (by decide) (by decide) h) ?_
            show Go p e below _ T5 (mkF m 107 #[.val (.ref b1), .val (.int fs), .val (.int (fs + Int32.ofNat n)), .val (.ref o1), .val (.int (Int32.ofNat i)), .val (.int (Int32.ofNat j')), .val (.int (fs + Int32.ofNat x')), .val (.int (fs + Int32.ofNat k))] [])
            exact STORE j' x' T5 hnr (by omega) (by rw [← hadv, own_adv, if_neg (by rw [hsj]; exact fun q => hq (Option.some.inj q))]) hx' X5 e5
      refine Go.st (fun _ h => XS.iload X.here hx rfl (hb hby d_prog_22_method_18_code_18) rfl h) ?_
      show Go p e below _ T (mkF m 20 #[.val (.ref b1), .val (.int fs), .val (.int (fs + Int32.ofNat n)), .val (.ref o1), .val (.int (Int32.ofNat i)), .val (.int (Int32.ofNat j)), .val (.int (fs + Int32.ofNat x)), .val (.int (fs + Int32.ofNat k))] [(.int (fs + Int32.ofNat k))])
      refine Go.st (fun _ h => XS.iloadN X.here hx rfl (hb hby d_prog_22_method_18_code_20) rfl h) ?_
      show Go p e below _ T (mkF m 21 #[.val (.ref b1), .val (.int fs), .val (.int (fs + Int32.ofNat n)), .val (.ref o1), .val (.int (Int32.ofNat i)), .val (.int (Int32.ofNat j)), .val (.int (fs + Int32.ofNat x)), .val (.int (fs + Int32.ofNat k))] [(.int (fs + Int32.ofNat n)), (.int (fs + Int32.ofNat k))])
      refine Go.st (fun _ h => XS.icmpNo X.here hx rfl (hb hby d_prog_22_method_18_code_21) rfl ((tlt (own_flt hf0 hf1 (by omega) (by omega) : (fs + Int32.ofNat k) < (fs + Int32.ofNat n))).2.1) h) ?_
      show Go p e below _ T (mkF m 24 #[.val (.ref b1), .val (.int fs), .val (.int (fs + Int32.ofNat n)), .val (.ref o1), .val (.int (Int32.ofNat i)), .val (.int (Int32.ofNat j)), .val (.int (fs + Int32.ofNat x)), .val (.int (fs + Int32.ofNat k))] [])
      refine Go.st (fun _ h => XS.iload X.here hx rfl (hb hby d_prog_22_method_18_code_24) rfl h) ?_
      show Go p e below _ T (mkF m 26 #[.val (.ref b1), .val (.int fs), .val (.int (fs + Int32.ofNat n)), .val (.ref o1), .val (.int (Int32.ofNat i)), .val (.int (Int32.ofNat j)), .val (.int (fs + Int32.ofNat x)), .val (.int (fs + Int32.ofNat k))] [(.int (Int32.ofNat i))])
      refine Go.st (fun _ h => XS.aloadN X.here hx rfl (hb hby d_prog_22_method_18_code_26) rfl rfl h) ?_
      show Go p e below _ T (mkF m 27 #[.val (.ref b1), .val (.int fs), .val (.int (fs + Int32.ofNat n)), .val (.ref o1), .val (.int (Int32.ofNat i)), .val (.int (Int32.ofNat j)), .val (.int (fs + Int32.ofNat x)), .val (.int (fs + Int32.ofNat k))] [(.ref b1), (.int (Int32.ofNat i))])
      obtain ⟨T6, X6, e6, st6⟩ := getF X hx hZ hown (host := "") (Or.inl (hw _ (List.mem_of_getElem? (i := 89) rfl))) Via.refl eT (F_r.keep K nin0) (g := (mkF m 27 #[.val (.ref b1), .val (.int fs), .val (.int (fs + Int32.ofNat n)), .val (.ref o1), .val (.int (Int32.ofNat i)), .val (.int (Int32.ofNat j)), .val (.int (fs + Int32.ofNat x)), .val (.int (fs + Int32.ofNat k))] [(.ref b1), (.int (Int32.ofNat i))])) rfl rfl (hb hby d_prog_22_method_18_code_27)
      refine Go.st st6 ?_
      show Go p e below _ T6 (mkF m 30 #[.val (.ref b1), .val (.int fs), .val (.int (fs + Int32.ofNat n)), .val (.ref o1), .val (.int (Int32.ofNat i)), .val (.int (Int32.ofNat j)), .val (.int (fs + Int32.ofNat x)), .val (.int (fs + Int32.ofNat k))] [(.ref ra), (.int (Int32.ofNat i))])
      refine Go.st (own_len X6 hx hZ e6 (B_r.keep K nin0) rfl rfl (hb hby d_prog_22_method_18_code_30)) ?_
      show Go p e below _ T6 (mkF m 31 #[.val (.ref b1), .val (.int fs), .val (.int (fs + Int32.ofNat n)), .val (.ref o1), .val (.int (Int32.ofNat i)), .val (.int (Int32.ofNat j)), .val (.int (fs + Int32.ofNat x)), .val (.int (fs + Int32.ofNat k))] [(.int (Int32.ofNat rs.length)), (.int (Int32.ofNat i))])
      by_cases hi2 : i < rs.length
      ·
        refine Go.st (fun _ h => XS.icmpNo X6.here hx rfl (hb hby d_prog_22_method_18_code_31) rfl ((tlt (own_lt (by omega) hi2 : (Int32.ofNat i) < (Int32.ofNat rs.length))).2.1) h) ?_
        show Go p e below _ T6 (mkF m 34 #[.val (.ref b1), .val (.int fs), .val (.int (fs + Int32.ofNat n)), .val (.ref o1), .val (.int (Int32.ofNat i)), .val (.int (Int32.ofNat j)), .val (.int (fs + Int32.ofNat x)), .val (.int (fs + Int32.ofNat k))] [])
        obtain ⟨ri, hri⟩ : ∃ z, rs[i]? = some z := ⟨_, List.getElem?_eq_getElem hi2⟩
        have hri4 := hr4 _ (List.mem_of_getElem? hri)
        refine Go.st (fun _ h => XS.aloadN X6.here hx rfl (hb hby d_prog_22_method_18_code_34) rfl rfl h) ?_
        show Go p e below _ T6 (mkF m 35 #[.val (.ref b1), .val (.int fs), .val (.int (fs + Int32.ofNat n)), .val (.ref o1), .val (.int (Int32.ofNat i)), .val (.int (Int32.ofNat j)), .val (.int (fs + Int32.ofNat x)), .val (.int (fs + Int32.ofNat k))] [(.ref b1)])
        obtain ⟨T7, X7, e7, st7⟩ := getF X6 hx hZ hown (host := "") (Or.inl (hw _ (List.mem_of_getElem? (i := 89) rfl))) Via.refl e6 (F_r.keep K nin0) (g := (mkF m 35 #[.val (.ref b1), .val (.int fs), .val (.int (fs + Int32.ofNat n)), .val (.ref o1), .val (.int (Int32.ofNat i)), .val (.int (Int32.ofNat j)), .val (.int (fs + Int32.ofNat x)), .val (.int (fs + Int32.ofNat k))] [(.ref b1)])) rfl rfl (hb hby d_prog_22_method_18_code_35)
        refine Go.st st7 ?_
        show Go p e below _ T7 (mkF m 38 #[.val (.ref b1), .val (.int fs), .val (.int (fs + Int32.ofNat n)), .val (.ref o1), .val (.int (Int32.ofNat i)), .val (.int (Int32.ofNat j)), .val (.int (fs + Int32.ofNat x)), .val (.int (fs + Int32.ofNat k))] [(.ref ra)])
        refine Go.st (fun _ h => XS.iload X7.here hx rfl (hb hby d_prog_22_method_18_code_38) rfl h) ?_
        show Go p e below _ T7 (mkF m 40 #[.val (.ref b1), .val (.int fs), .val (.int (fs + Int32.ofNat n)), .val (.ref o1), .val (.int (Int32.ofNat i)), .val (.int (Int32.ofNat j)), .val (.int (fs + Int32.ofNat x)), .val (.int (fs + Int32.ofNat k))] [(.int (Int32.ofNat i)), (.ref ra)])
        refine Go.st (own_ldI X7 hx hZ e7 (B_r.keep K nin0) (own_nneg (by omega)) (own_lt (by omega) (by omega)) (own_at (by omega) hri) rfl rfl (hb hby d_prog_22_method_18_code_40)) ?_
        show Go p e below _ T7 (mkF m 41 #[.val (.ref b1), .val (.int fs), .val (.int (fs + Int32.ofNat n)), .val (.ref o1), .val (.int (Int32.ofNat i)), .val (.int (Int32.ofNat j)), .val (.int (fs + Int32.ofNat x)), .val (.int (fs + Int32.ofNat k))] [(.int (fs + Int32.ofNat ri))])
        refine Go.st (fun _ h => XS.iload X7.here hx rfl (hb hby d_prog_22_method_18_code_41) rfl h) ?_
        show Go p e below _ T7 (mkF m 43 #[.val (.ref b1), .val (.int fs), .val (.int (fs + Int32.ofNat n)), .val (.ref o1), .val (.int (Int32.ofNat i)), .val (.int (Int32.ofNat j)), .val (.int (fs + Int32.ofNat x)), .val (.int (fs + Int32.ofNat k))] [(.int (fs + Int32.ofNat k)), (.int (fs + Int32.ofNat ri))])
        by_cases hq : ri = k
        ·
          refine Go.st (fun _ h => XS.icmpNo X7.here hx rfl (hb hby d_prog_22_method_18_code_43) rfl ((teq (by rw [hq] : (fs + Int32.ofNat ri) = (fs + Int32.ofNat k))).2) h) ?_
          show Go p e below _ T7 (mkF m 46 #[.val (.ref b1), .val (.int fs), .val (.int (fs + Int32.ofNat n)), .val (.ref o1), .val (.int (Int32.ofNat i)), .val (.int (Int32.ofNat j)), .val (.int (fs + Int32.ofNat x)), .val (.int (fs + Int32.ofNat k))] [])
          refine Go.st (fun _ h => XS.aloadN X7.here hx rfl (hb hby d_prog_22_method_18_code_46) rfl rfl h) ?_
          show Go p e below _ T7 (mkF m 47 #[.val (.ref b1), .val (.int fs), .val (.int (fs + Int32.ofNat n)), .val (.ref o1), .val (.int (Int32.ofNat i)), .val (.int (Int32.ofNat j)), .val (.int (fs + Int32.ofNat x)), .val (.int (fs + Int32.ofNat k))] [(.ref o1)])
          refine Go.st (fun _ h => XS.iload X7.here hx rfl (hb hby d_prog_22_method_18_code_47) rfl h) ?_
          show Go p e below _ T7 (mkF m 49 #[.val (.ref b1), .val (.int fs), .val (.int (fs + Int32.ofNat n)), .val (.ref o1), .val (.int (Int32.ofNat i)), .val (.int (Int32.ofNat j)), .val (.int (fs + Int32.ofNat x)), .val (.int (fs + Int32.ofNat k))] [(.int (fs + Int32.ofNat k)), (.ref o1)])
          refine Go.st (fun _ h => XS.iloadN X7.here hx rfl (hb hby d_prog_22_method_18_code_49) rfl h) ?_
          show Go p e below _ T7 (mkF m 50 #[.val (.ref b1), .val (.int fs), .val (.int (fs + Int32.ofNat n)), .val (.ref o1), .val (.int (Int32.ofNat i)), .val (.int (Int32.ofNat j)), .val (.int (fs + Int32.ofNat x)), .val (.int (fs + Int32.ofNat k))] [(.int fs), (.int (fs + Int32.ofNat k)), (.ref o1)])
          refine Go.st (fun _ h => XS.isub X7.here hx rfl (hb hby d_prog_22_method_18_code_50) rfl h) ?_
          show Go p e below _ T7 (mkF m 51 #[.val (.ref b1), .val (.int fs), .val (.int (fs + Int32.ofNat n)), .val (.ref o1), .val (.int (Int32.ofNat i)), .val (.int (Int32.ofNat j)), .val (.int (fs + Int32.ofNat x)), .val (.int (fs + Int32.ofNat k))] [(.int ((fs + Int32.ofNat k) - fs)), (.ref o1)])
          rw [own_subc]
          show Go p e below _ T7 (mkF m 51 #[.val (.ref b1), .val (.int fs), .val (.int (fs + Int32.ofNat n)), .val (.ref o1), .val (.int (Int32.ofNat i)), .val (.int (Int32.ofNat j)), .val (.int (fs + Int32.ofNat x)), .val (.int (fs + Int32.ofNat k))] [(.int (Int32.ofNat k)), (.ref o1)])
          refine Go.st (fun _ h => XS.aloadN X7.here hx rfl (hb hby d_prog_22_method_18_code_51) rfl rfl h) ?_
          show Go p e below _ T7 (mkF m 52 #[.val (.ref b1), .val (.int fs), .val (.int (fs + Int32.ofNat n)), .val (.ref o1), .val (.int (Int32.ofNat i)), .val (.int (Int32.ofNat j)), .val (.int (fs + Int32.ofNat x)), .val (.int (fs + Int32.ofNat k))] [(.ref b1), (.int (Int32.ofNat k)), (.ref o1)])
          obtain ⟨T8, X8, e8, st8⟩ := getF X7 hx hZ hown (host := "") (Or.inl (hw _ (List.mem_of_getElem? (i := 95) rfl))) Via.refl e7 (F_m.keep K nin0) (g := (mkF m 52 #[.val (.ref b1), .val (.int fs), .val (.int (fs + Int32.ofNat n)), .val (.ref o1), .val (.int (Int32.ofNat i)), .val (.int (Int32.ofNat j)), .val (.int (fs + Int32.ofNat x)), .val (.int (fs + Int32.ofNat k))] [(.ref b1), (.int (Int32.ofNat k)), (.ref o1)])) rfl rfl (hb hby d_prog_22_method_18_code_52)
          refine Go.st st8 ?_
          show Go p e below _ T8 (mkF m 55 #[.val (.ref b1), .val (.int fs), .val (.int (fs + Int32.ofNat n)), .val (.ref o1), .val (.int (Int32.ofNat i)), .val (.int (Int32.ofNat j)), .val (.int (fs + Int32.ofNat x)), .val (.int (fs + Int32.ofNat k))] [.null, (.int (Int32.ofNat k)), (.ref o1)])
          refine Go.st (fun _ h => XT.ifnonnullNo X8.here hx rfl (hb hby d_prog_22_method_18_code_55) rfl h) ?_
          show Go p e below _ T8 (mkF m 58 #[.val (.ref b1), .val (.int fs), .val (.int (fs + Int32.ofNat n)), .val (.ref o1), .val (.int (Int32.ofNat i)), .val (.int (Int32.ofNat j)), .val (.int (fs + Int32.ofNat x)), .val (.int (fs + Int32.ofNat k))] [(.int (Int32.ofNat k)), (.ref o1)])
          refine Go.st (fun _ h => XT.iconstV X8.here hx rfl (-1 : Int32) (hb hby d_prog_22_method_18_code_58) (by decide) h) ?_
          show Go p e below _ T8 (mkF m 59 #[.val (.ref b1), .val (.int fs), .val (.int (fs + Int32.ofNat n)), .val (.ref o1), .val (.int (Int32.ofNat i)), .val (.int (Int32.ofNat j)), .val (.int (fs + Int32.ofNat x)), .val (.int (fs + Int32.ofNat k))] [(.int (-1 : Int32)), (.int (Int32.ofNat k)), (.ref o1)])
          refine Go.st (fun _ h => XS.goto X8.here hx rfl (pc0 := 59) (pc' := 69) rfl (hb hby d_prog_22_method_18_code_59) (by decide) (by decide) h) ?_
          show Go p e below _ T8 (mkF m 69 #[.val (.ref b1), .val (.int fs), .val (.int (fs + Int32.ofNat n)), .val (.ref o1), .val (.int (Int32.ofNat i)), .val (.int (Int32.ofNat j)), .val (.int (fs + Int32.ofNat x)), .val (.int (fs + Int32.ofNat k))] [(.int (-1 : Int32)), (.int (Int32.ofNat k)), (.ref o1)])
          have V' : Arv Z h o1 k1 .int (Int32.ofNat n) (dn.map (own_val fs) ++ [.int (0 : Int32)]) (.int (0 : Int32)) := VV.pad (pad_rep _ _ 1)
          obtain ⟨T9, h9, X9, e9, W9, V9, st9⟩ := own_stI X8 hx hZ e8 (j := Int32.ofNat k) V' (own_nneg (by omega)) (own_lt (by omega) (by omega)) k (own_clamp (by omega)) (by simp [hd]) (g := (mkF m 69 #[.val (.ref b1), .val (.int fs), .val (.int (fs + Int32.ofNat n)), .val (.ref o1), .val (.int (Int32.ofNat i)), .val (.int (Int32.ofNat j)), .val (.int (fs + Int32.ofNat x)), .val (.int (fs + Int32.ofNat k))] [(.int (-1 : Int32)), (.int (Int32.ofNat k)), (.ref o1)])) rfl rfl (hb hby d_prog_22_method_18_code_69)
          have V9' : Arv Z h9 o1 k1 .int (Int32.ofNat n) ((dn ++ [none]).map (own_val fs)) (.int (0 : Int32)) := by have q := own_set fs dn none (.int (0 : Int32)) k hd; rw [← q]; exact V9
          have N9 := Fr.snoc X9 N (Nat.le_trans Z0 le_o1)
          have K9 := K.wr W9 (Or.inr le_o1)
          refine Go.st st9 ?_
          show Go p e below _ T9 (mkF m 70 #[.val (.ref b1), .val (.int fs), .val (.int (fs + Int32.ofNat n)), .val (.ref o1), .val (.int (Int32.ofNat i)), .val (.int (Int32.ofNat j)), .val (.int (fs + Int32.ofNat x)), .val (.int (fs + Int32.ofNat k))] [])
          refine Go.st (fun _ h => XT.iincV X9.here hx rfl (1 : Int32) (hb hby d_prog_22_method_18_code_70) (by decide) rfl (l' := #[.val (.ref b1), .val (.int fs), .val (.int (fs + Int32.ofNat n)), .val (.ref o1), .val (.int ((Int32.ofNat i) + (1 : Int32))), .val (.int (Int32.ofNat j)), .val (.int (fs + Int32.ofNat x)), .val (.int (fs + Int32.ofNat k))]) rfl h) ?_
          show Go p e below _ T9 (mkF m 73 #[.val (.ref b1), .val (.int fs), .val (.int (fs + Int32.ofNat n)), .val (.ref o1), .val (.int ((Int32.ofNat i) + (1 : Int32))), .val (.int (Int32.ofNat j)), .val (.int (fs + Int32.ofNat x)), .val (.int (fs + Int32.ofNat k))] [])
          refine Go.st (fun _ h => XS.goto X9.here hx rfl (pc0 := 73) (pc' := 118) rfl (hb hby d_prog_22_method_18_code_73) (by decide) (by decide) h) ?_
          show Go p e below _ T9 (mkF m 118 #[.val (.ref b1), .val (.int fs), .val (.int (fs + Int32.ofNat n)), .val (.ref o1), .val (.int ((Int32.ofNat i) + (1 : Int32))), .val (.int (Int32.ofNat j)), .val (.int (fs + Int32.ofNat x)), .val (.int (fs + Int32.ofNat k))] [])
          refine Go.st (fun _ h => XT.iincV X9.here hx rfl (1 : Int32) (hb hby d_prog_22_method_18_code_118) (by decide) rfl (l' := #[.val (.ref b1), .val (.int fs), .val (.int (fs + Int32.ofNat n)), .val (.ref o1), .val (.int ((Int32.ofNat i) + (1 : Int32))), .val (.int (Int32.ofNat j)), .val (.int (fs + Int32.ofNat x)), .val (.int ((fs + Int32.ofNat k) + (1 : Int32)))]) rfl h) ?_
          show Go p e below _ T9 (mkF m 121 #[.val (.ref b1), .val (.int fs), .val (.int (fs + Int32.ofNat n)), .val (.ref o1), .val (.int ((Int32.ofNat i) + (1 : Int32))), .val (.int (Int32.ofNat j)), .val (.int (fs + Int32.ofNat x)), .val (.int ((fs + Int32.ofNat k) + (1 : Int32)))] [])
          refine Go.st (fun _ h => XS.goto X9.here hx rfl (pc0 := 121) (pc' := 18) rfl (hb hby d_prog_22_method_18_code_121) (by decide) (by decide) h) ?_
          show Go p e below _ T9 (mkF m 18 #[.val (.ref b1), .val (.int fs), .val (.int (fs + Int32.ofNat n)), .val (.ref o1), .val (.int ((Int32.ofNat i) + (1 : Int32))), .val (.int (Int32.ofNat j)), .val (.int (fs + Int32.ofNat x)), .val (.int ((fs + Int32.ofNat k) + (1 : Int32)))] [])
          rw [own_fsucc, own_succ]
          rw [own_mv_rem (by rw [hri, hq])] at hm
          exact ih (k + 1) (i + 1) j x (dn ++ [none]) _ _ _ (by omega) (by simp [hd]) (by rw [← hm]; simp) (by omega) hj (by omega) X9 e9 N9 K9 V9'
        ·
          refine Go.st (fun _ h => XS.icmpYes X7.here hx rfl (pc0 := 43) (pc' := 76) rfl (hb hby d_prog_22_method_18_code_43) rfl ((feq (own_feq (by omega) (by omega) hq : ¬ ((fs + Int32.ofNat ri) = (fs + Int32.ofNat k)))).2) (by decide) (by decide) h) ?_
          show Go p e below _ T7 (mkF m 76 #[.val (.ref b1), .val (.int fs), .val (.int (fs + Int32.ofNat n)), .val (.ref o1), .val (.int (Int32.ofNat i)), .val (.int (Int32.ofNat j)), .val (.int (fs + Int32.ofNat x)), .val (.int (fs + Int32.ofNat k))] [])
          exact INNER (by rw [hri]; exact fun q => hq (Option.some.inj q)) (ss.length - j) j x T7 (by omega) rfl hx_ X7 e7
      ·
        refine Go.st (fun _ h => XS.icmpYes X6.here hx rfl (pc0 := 31) (pc' := 76) rfl (hb hby d_prog_22_method_18_code_31) rfl ((flt (own_nlt (by omega) (by omega) hi2 : ¬ ((Int32.ofNat i) < (Int32.ofNat rs.length)))).2.1) (by decide) (by decide) h) ?_
        show Go p e below _ T6 (mkF m 76 #[.val (.ref b1), .val (.int fs), .val (.int (fs + Int32.ofNat n)), .val (.ref o1), .val (.int (Int32.ofNat i)), .val (.int (Int32.ofNat j)), .val (.int (fs + Int32.ofNat x)), .val (.int (fs + Int32.ofNat k))] [])
        exact INNER (by rw [List.getElem?_eq_none (by omega)]; exact fun q => nomatch q) (ss.length - j) j x T6 (by omega) rfl hx_ X6 e6
  have L0 := LOOP n 0 0 0 0 [] _ _ _ (by omega) rfl rfl (by omega) (by omega) (by omega) X1 e1 N0 K1 V1
  rw [show fs + Int32.ofNat 0 = fs from Int32.add_zero fs] at L0
  exact L0
theorem ef_rmLaw (x0 : Int32) (x1 : Int32) (x2 : Int32) (x3 : Int32) (m : MethodId) : entryFrame m #[(.int x0), (.int x1), (.int x2), (.int x3)] maxLocals = mkF m 0 #[.val (.int x0), .val (.int x1), .val (.int x2), .val (.int x3), .unset, .unset, .unset, .unset, .unset, .unset, .unset, .unset, .unset, .unset] [] := by first | (simp [entryFrame, mkF, argsToLocals, Value.category, maxLocals]; done) | rfl
set_option maxRecDepth 65536 in
set_option maxHeartbeats 40000000 in
theorem rmLaw (l : Launch) (Z : State) (a0 : Array Value) (hw : ∀ d ∈ tables_1, d.before a0 Z = true) (p1 p2 p3 p4 : Int32) (d0 ca y0 y1 y2 y3 : Addr) (kd : ClassId) (cc : Cell) (h0 : Heap) (n0 : Nat) (Z0 : n0 ≤ h0.size) (S_D : Sta Z h0 "java/util/ArrayList" "DEFAULTCAPACITY_EMPTY_ELEMENTDATA" "[Ljava/lang/Object;" (.ref d0)) (B_d0 : Arv Z h0 d0 kd (.object "java/lang/Object") (0 : Int32) [] .null) (S_H : Sta Z h0 "java/lang/Integer$IntegerCache" "high" "I" (.int (127 : Int32))) (S_C : Sta Z h0 "java/lang/Integer$IntegerCache" "cache" "[Ljava/lang/Integer;" (.ref ca)) (A_c : Arr Z h0 ca cc (.object "java/lang/Integer")) (hcc : cc.slots.size = 256) (hy0 : cc.slots[128]? = some (.ref y0)) (E_y0 : Exa Z h0 y0 "java/lang/Integer") (hy1 : cc.slots[129]? = some (.ref y1)) (E_y1 : Exa Z h0 y1 "java/lang/Integer") (hy2 : cc.slots[130]? = some (.ref y2)) (E_y2 : Exa Z h0 y2 "java/lang/Integer") (hy3 : cc.slots[131]? = some (.ref y3)) (E_y3 : Exa Z h0 y3 "java/lang/Integer") :
    Does l Z x code maxLocals ret tables_1 room_1 #[(.int p1), (.int p2), (.int p3), (.int p4)] h0 (fun v h L => v = some (.int 1) ∧ Fr n0 L) := by
  refine Does.intro (plainFor_of_name pn_com_example_bindwell_bindwell_collect_ListChangeMovesFromPinLaw) (ef_rmLaw p1 p2 p3 p4) ?_
  intro p e s m below meth c s₁ hx hby hml hown hnm hret hlk hZ e0 X0
  show Go p e below _ s₁ (mkF m 0 #[.val (.int p1), .val (.int p2), .val (.int p3), .val (.int p4), .unset, .unset, .unset, .unset, .unset, .unset, .unset, .unset, .unset, .unset] [])
  have N0 := Fr.nil n0
  obtain ⟨fs, hfs⟩ : ∃ z, z = (p1 &&& (1073741823 : Int32)) := ⟨_, rfl⟩
  have hfb := own_first p1
  rw [← hfs] at hfb
  obtain ⟨nn, hnn, hne⟩ := own_five p2
  obtain ⟨q, hq, hqe⟩ := own_mask15 p3
  obtain ⟨an, han, hae⟩ := own_mask15 p4
  obtain ⟨rn, hrn⟩ : ∃ z, z = q % 2 ^ nn := ⟨_, rfl⟩
  have hcut := own_cut q hq nn hnn
  rw [← hrn] at hcut
  have hrp : rn < 2 ^ nn := by rw [hrn]; exact Nat.mod_lt _ (Nat.two_pow_pos nn)
  have hr16 : rn < 16 := by rw [hrn]; exact Nat.lt_of_le_of_lt (Nat.mod_le _ _) hq
  refine Go.st (fun _ h => XS.iloadN X0.here hx rfl (hb hby at_0) rfl h) ?_
  show Go p e below _ s₁ (mkF m 1 #[.val (.int p1), .val (.int p2), .val (.int p3), .val (.int p4), .unset, .unset, .unset, .unset, .unset, .unset, .unset, .unset, .unset, .unset] [(.int p1)])
  refine Go.st (fun _ h => X0.ldcI hx hown (mvT hZ (hw _ (List.mem_of_getElem? (i := 0) rfl))) rfl (hb hby at_1) h) ?_
  show Go p e below _ s₁ (mkF m 3 #[.val (.int p1), .val (.int p2), .val (.int p3), .val (.int p4), .unset, .unset, .unset, .unset, .unset, .unset, .unset, .unset, .unset, .unset] [(.int (1073741823 : Int32)), (.int p1)])
  refine Go.st (fun _ h => XS.iand X0.here hx rfl (hb hby at_3) rfl h) ?_
  show Go p e below _ s₁ (mkF m 4 #[.val (.int p1), .val (.int p2), .val (.int p3), .val (.int p4), .unset, .unset, .unset, .unset, .unset, .unset, .unset, .unset, .unset, .unset] [(.int (p1 &&& (1073741823 : Int32)))])
  refine Go.st (fun _ h => XS.istore X0.here hx rfl (hb hby at_4) rfl (l' := #[.val (.int p1), .val (.int p2), .val (.int p3), .val (.int p4), .val (.int (p1 &&& (1073741823 : Int32))), .unset, .unset, .unset, .unset, .unset, .unset, .unset, .unset, .unset]) rfl h) ?_
  show Go p e below _ s₁ (mkF m 6 #[.val (.int p1), .val (.int p2), .val (.int p3), .val (.int p4), .val (.int (p1 &&& (1073741823 : Int32))), .unset, .unset, .unset, .unset, .unset, .unset, .unset, .unset, .unset] [])
  rw [← hfs]
  show Go p e below _ s₁ (mkF m 6 #[.val (.int p1), .val (.int p2), .val (.int p3), .val (.int p4), .val (.int fs), .unset, .unset, .unset, .unset, .unset, .unset, .unset, .unset, .unset] [])
  refine Go.st (fun _ h => XS.iloadN X0.here hx rfl (hb hby at_6) rfl h) ?_
  show Go p e below _ s₁ (mkF m 7 #[.val (.int p1), .val (.int p2), .val (.int p3), .val (.int p4), .val (.int fs), .unset, .unset, .unset, .unset, .unset, .unset, .unset, .unset, .unset] [(.int p2)])
  refine Go.st (fun _ h => X0.ldcI hx hown (mvT hZ (hw _ (List.mem_of_getElem? (i := 1) rfl))) rfl (hb hby at_7) h) ?_
  show Go p e below _ s₁ (mkF m 9 #[.val (.int p1), .val (.int p2), .val (.int p3), .val (.int p4), .val (.int fs), .unset, .unset, .unset, .unset, .unset, .unset, .unset, .unset, .unset] [(.int (2147483647 : Int32)), (.int p2)])
  refine Go.st (fun _ h => XS.iand X0.here hx rfl (hb hby at_9) rfl h) ?_
  show Go p e below _ s₁ (mkF m 10 #[.val (.int p1), .val (.int p2), .val (.int p3), .val (.int p4), .val (.int fs), .unset, .unset, .unset, .unset, .unset, .unset, .unset, .unset, .unset] [(.int (p2 &&& (2147483647 : Int32)))])
  refine Go.st (fun _ h => XT.iconstV X0.here hx rfl (5 : Int32) (hb hby at_10) (by decide) h) ?_
  show Go p e below _ s₁ (mkF m 11 #[.val (.int p1), .val (.int p2), .val (.int p3), .val (.int p4), .val (.int fs), .unset, .unset, .unset, .unset, .unset, .unset, .unset, .unset, .unset] [(.int (5 : Int32)), (.int (p2 &&& (2147483647 : Int32)))])
  refine Go.st (fun _ h => iremM X0 hx rfl (hb hby at_11) rfl (by decide) h) ?_
  show Go p e below _ s₁ (mkF m 12 #[.val (.int p1), .val (.int p2), .val (.int p3), .val (.int p4), .val (.int fs), .unset, .unset, .unset, .unset, .unset, .unset, .unset, .unset, .unset] [(.int ((p2 &&& (2147483647 : Int32)) % (5 : Int32)))])
  refine Go.st (fun _ h => XS.istore X0.here hx rfl (hb hby at_12) rfl (l' := #[.val (.int p1), .val (.int p2), .val (.int p3), .val (.int p4), .val (.int fs), .val (.int ((p2 &&& (2147483647 : Int32)) % (5 : Int32))), .unset, .unset, .unset, .unset, .unset, .unset, .unset, .unset]) rfl h) ?_
  show Go p e below _ s₁ (mkF m 14 #[.val (.int p1), .val (.int p2), .val (.int p3), .val (.int p4), .val (.int fs), .val (.int ((p2 &&& (2147483647 : Int32)) % (5 : Int32))), .unset, .unset, .unset, .unset, .unset, .unset, .unset, .unset] [])
  rw [hne]
  show Go p e below _ s₁ (mkF m 14 #[.val (.int p1), .val (.int p2), .val (.int p3), .val (.int p4), .val (.int fs), .val (.int (Int32.ofNat nn)), .unset, .unset, .unset, .unset, .unset, .unset, .unset, .unset] [])
  refine Go.st (fun _ h => XS.iloadN X0.here hx rfl (hb hby at_14) rfl h) ?_
  show Go p e below _ s₁ (mkF m 15 #[.val (.int p1), .val (.int p2), .val (.int p3), .val (.int p4), .val (.int fs), .val (.int (Int32.ofNat nn)), .unset, .unset, .unset, .unset, .unset, .unset, .unset, .unset] [(.int p3)])
  refine Go.st (fun _ h => XT.bipushV X0.here hx rfl (15 : Int32) (hb hby at_15) (by decide) h) ?_
  show Go p e below _ s₁ (mkF m 17 #[.val (.int p1), .val (.int p2), .val (.int p3), .val (.int p4), .val (.int fs), .val (.int (Int32.ofNat nn)), .unset, .unset, .unset, .unset, .unset, .unset, .unset, .unset] [(.int (15 : Int32)), (.int p3)])
  refine Go.st (fun _ h => XS.iand X0.here hx rfl (hb hby at_17) rfl h) ?_
  show Go p e below _ s₁ (mkF m 18 #[.val (.int p1), .val (.int p2), .val (.int p3), .val (.int p4), .val (.int fs), .val (.int (Int32.ofNat nn)), .unset, .unset, .unset, .unset, .unset, .unset, .unset, .unset] [(.int (p3 &&& (15 : Int32)))])
  rw [hqe]
  show Go p e below _ s₁ (mkF m 18 #[.val (.int p1), .val (.int p2), .val (.int p3), .val (.int p4), .val (.int fs), .val (.int (Int32.ofNat nn)), .unset, .unset, .unset, .unset, .unset, .unset, .unset, .unset] [(.int (Int32.ofNat q))])
  refine Go.st (fun _ h => XT.iconstV X0.here hx rfl (1 : Int32) (hb hby at_18) (by decide) h) ?_
  show Go p e below _ s₁ (mkF m 19 #[.val (.int p1), .val (.int p2), .val (.int p3), .val (.int p4), .val (.int fs), .val (.int (Int32.ofNat nn)), .unset, .unset, .unset, .unset, .unset, .unset, .unset, .unset] [(.int (1 : Int32)), (.int (Int32.ofNat q))])
  refine Go.st (fun _ h => XS.iload X0.here hx rfl (hb hby at_19) rfl h) ?_
  show Go p e below _ s₁ (mkF m 21 #[.val (.int p1), .val (.int p2), .val (.int p3), .val (.int p4), .val (.int fs), .val (.int (Int32.ofNat nn)), .unset, .unset, .unset, .unset, .unset, .unset, .unset, .unset] [(.int (Int32.ofNat nn)), (.int (1 : Int32)), (.int (Int32.ofNat q))])
  refine Go.st (fun _ h => XT.ishl X0.here hx rfl (hb hby at_21) rfl h) ?_
  show Go p e below _ s₁ (mkF m 22 #[.val (.int p1), .val (.int p2), .val (.int p3), .val (.int p4), .val (.int fs), .val (.int (Int32.ofNat nn)), .unset, .unset, .unset, .unset, .unset, .unset, .unset, .unset] [(.int ((1 : Int32) <<< ((Int32.ofNat nn) &&& 31))), (.int (Int32.ofNat q))])
  refine Go.st (fun _ h => XT.iconstV X0.here hx rfl (1 : Int32) (hb hby at_22) (by decide) h) ?_
  show Go p e below _ s₁ (mkF m 23 #[.val (.int p1), .val (.int p2), .val (.int p3), .val (.int p4), .val (.int fs), .val (.int (Int32.ofNat nn)), .unset, .unset, .unset, .unset, .unset, .unset, .unset, .unset] [(.int (1 : Int32)), (.int ((1 : Int32) <<< ((Int32.ofNat nn) &&& 31))), (.int (Int32.ofNat q))])
  refine Go.st (fun _ h => XS.isub X0.here hx rfl (hb hby at_23) rfl h) ?_
  show Go p e below _ s₁ (mkF m 24 #[.val (.int p1), .val (.int p2), .val (.int p3), .val (.int p4), .val (.int fs), .val (.int (Int32.ofNat nn)), .unset, .unset, .unset, .unset, .unset, .unset, .unset, .unset] [(.int (((1 : Int32) <<< ((Int32.ofNat nn) &&& 31)) - (1 : Int32))), (.int (Int32.ofNat q))])
  refine Go.st (fun _ h => XS.iand X0.here hx rfl (hb hby at_24) rfl h) ?_
  show Go p e below _ s₁ (mkF m 25 #[.val (.int p1), .val (.int p2), .val (.int p3), .val (.int p4), .val (.int fs), .val (.int (Int32.ofNat nn)), .unset, .unset, .unset, .unset, .unset, .unset, .unset, .unset] [(.int ((Int32.ofNat q) &&& (((1 : Int32) <<< ((Int32.ofNat nn) &&& 31)) - (1 : Int32))))])
  rw [hcut]
  show Go p e below _ s₁ (mkF m 25 #[.val (.int p1), .val (.int p2), .val (.int p3), .val (.int p4), .val (.int fs), .val (.int (Int32.ofNat nn)), .unset, .unset, .unset, .unset, .unset, .unset, .unset, .unset] [(.int (Int32.ofNat rn))])
  refine Go.st (fun _ h => XS.istore X0.here hx rfl (hb hby at_25) rfl (l' := #[.val (.int p1), .val (.int p2), .val (.int p3), .val (.int p4), .val (.int fs), .val (.int (Int32.ofNat nn)), .val (.int (Int32.ofNat rn)), .unset, .unset, .unset, .unset, .unset, .unset, .unset]) rfl h) ?_
  show Go p e below _ s₁ (mkF m 27 #[.val (.int p1), .val (.int p2), .val (.int p3), .val (.int p4), .val (.int fs), .val (.int (Int32.ofNat nn)), .val (.int (Int32.ofNat rn)), .unset, .unset, .unset, .unset, .unset, .unset, .unset] [])
  refine Go.st (fun _ h => XS.iloadN X0.here hx rfl (hb hby at_27) rfl h) ?_
  show Go p e below _ s₁ (mkF m 28 #[.val (.int p1), .val (.int p2), .val (.int p3), .val (.int p4), .val (.int fs), .val (.int (Int32.ofNat nn)), .val (.int (Int32.ofNat rn)), .unset, .unset, .unset, .unset, .unset, .unset, .unset] [(.int p4)])
  refine Go.st (fun _ h => XT.bipushV X0.here hx rfl (15 : Int32) (hb hby at_28) (by decide) h) ?_
  show Go p e below _ s₁ (mkF m 30 #[.val (.int p1), .val (.int p2), .val (.int p3), .val (.int p4), .val (.int fs), .val (.int (Int32.ofNat nn)), .val (.int (Int32.ofNat rn)), .unset, .unset, .unset, .unset, .unset, .unset, .unset] [(.int (15 : Int32)), (.int p4)])
  refine Go.st (fun _ h => XS.iand X0.here hx rfl (hb hby at_30) rfl h) ?_
  show Go p e below _ s₁ (mkF m 31 #[.val (.int p1), .val (.int p2), .val (.int p3), .val (.int p4), .val (.int fs), .val (.int (Int32.ofNat nn)), .val (.int (Int32.ofNat rn)), .unset, .unset, .unset, .unset, .unset, .unset, .unset] [(.int (p4 &&& (15 : Int32)))])
  rw [hae]
  show Go p e below _ s₁ (mkF m 31 #[.val (.int p1), .val (.int p2), .val (.int p3), .val (.int p4), .val (.int fs), .val (.int (Int32.ofNat nn)), .val (.int (Int32.ofNat rn)), .unset, .unset, .unset, .unset, .unset, .unset, .unset] [(.int (Int32.ofNat an))])
  refine Go.st (fun _ h => XS.istore X0.here hx rfl (hb hby at_31) rfl (l' := #[.val (.int p1), .val (.int p2), .val (.int p3), .val (.int p4), .val (.int fs), .val (.int (Int32.ofNat nn)), .val (.int (Int32.ofNat rn)), .val (.int (Int32.ofNat an)), .unset, .unset, .unset, .unset, .unset, .unset]) rfl h) ?_
  show Go p e below _ s₁ (mkF m 33 #[.val (.int p1), .val (.int p2), .val (.int p3), .val (.int p4), .val (.int fs), .val (.int (Int32.ofNat nn)), .val (.int (Int32.ofNat rn)), .val (.int (Int32.ofNat an)), .unset, .unset, .unset, .unset, .unset, .unset] [])
  refine Go.st (fun _ h => XS.iload X0.here hx rfl (hb hby at_33) rfl h) ?_
  show Go p e below _ s₁ (mkF m 35 #[.val (.int p1), .val (.int p2), .val (.int p3), .val (.int p4), .val (.int fs), .val (.int (Int32.ofNat nn)), .val (.int (Int32.ofNat rn)), .val (.int (Int32.ofNat an)), .unset, .unset, .unset, .unset, .unset, .unset] [(.int (Int32.ofNat rn))])
  obtain ⟨T1, X1, e1, st1⟩ := own_still rfl rfl (Does.static (y := (⟨"com/example/bindwell/bindwell/collect/ListChangeMovesFromPinLaw", "pc", "(I)I"⟩ : MethodName)) (g := (mkF m 35 #[.val (.int p1), .val (.int p2), .val (.int p3), .val (.int p4), .val (.int fs), .val (.int (Int32.ofNat nn)), .val (.int (Int32.ofNat rn)), .val (.int (Int32.ofNat an)), .unset, .unset, .unset, .unset, .unset, .unset] [(.int (Int32.ofNat rn))])) (rmPc l Z a0 hw (Int32.ofNat rn) h0) X0 hx hZ hown e0 (hw _ (List.mem_of_getElem? (i := 2) rfl)) (hw _ (List.mem_of_getElem? (i := 3) rfl)) (hw _ (List.mem_of_getElem? (i := 4) rfl)) (hw _ (List.mem_of_getElem? (i := 5) rfl)) (by decide) rfl (by rw [hml]; rfl) (argsL := [(.int (Int32.ofNat rn))]) (rest := []) (lenOf pd_28I29I rfl) rfl (hb hby at_35) (W := 0) (by show 2 * 0 + _ ≤ _; exact Nat.le_of_eq rfl) (by decide) (by decide) (by decide) (by decide))
  refine Go.st st1 ?_
  show Go p e below _ T1 (mkF m 38 #[.val (.int p1), .val (.int p2), .val (.int p3), .val (.int p4), .val (.int fs), .val (.int (Int32.ofNat nn)), .val (.int (Int32.ofNat rn)), .val (.int (Int32.ofNat an)), .unset, .unset, .unset, .unset, .unset, .unset] [(.int (own_pc (Int32.ofNat rn)))])
  rw [own_pcof hr16]
  show Go p e below _ T1 (mkF m 38 #[.val (.int p1), .val (.int p2), .val (.int p3), .val (.int p4), .val (.int fs), .val (.int (Int32.ofNat nn)), .val (.int (Int32.ofNat rn)), .val (.int (Int32.ofNat an)), .unset, .unset, .unset, .unset, .unset, .unset] [(.int (Int32.ofNat (own_cnt rn)))])
  obtain ⟨T2, h2, k2, X2, e2, E2, A2, st2⟩ := newP X1 hx hZ (hw _ (List.mem_of_getElem? (i := 6) rfl)) e1 (g := (mkF m 38 #[.val (.int p1), .val (.int p2), .val (.int p3), .val (.int p4), .val (.int fs), .val (.int (Int32.ofNat nn)), .val (.int (Int32.ofNat rn)), .val (.int (Int32.ofNat an)), .unset, .unset, .unset, .unset, .unset, .unset] [(.int (Int32.ofNat (own_cnt rn)))])) rfl (hb hby at_38) rfl (own_nneg (Nat.le_trans (own_cnt4 hr16) (by decide))) (cap := 4) (by rw [own_clamp (Nat.le_trans (own_cnt4 hr16) (by decide))]; exact own_cnt4 hr16) (by decide) (by decide) (by decide)
  obtain ⟨o2, g2⟩ : ∃ z, z = h0.size := ⟨_, rfl⟩
  rw [← g2] at A2 st2
  have ne_d0_o2 : d0 ≠ o2 := by rw [g2]; exact Nat.ne_of_lt B_d0.lt
  have ne_y0_o2 : y0 ≠ o2 := by rw [g2]; exact Nat.ne_of_lt E_y0.lt
  have ne_y1_o2 : y1 ≠ o2 := by rw [g2]; exact Nat.ne_of_lt E_y1.lt
  have ne_y2_o2 : y2 ≠ o2 := by rw [g2]; exact Nat.ne_of_lt E_y2.lt
  have ne_y3_o2 : y3 ≠ o2 := by rw [g2]; exact Nat.ne_of_lt E_y3.lt
  have le_o2 : h0.size ≤ o2 := by rw [g2]; exact (Keep.refl _ []).1
  have K2 := (Keep.refl _ []).ext E2
  have V2 := Arv.new A2 (own_nneg (Nat.le_trans (own_cnt4 hr16) (by decide)))
  refine Go.st st2 ?_
  show Go p e below _ T2 (mkF m 40 #[.val (.int p1), .val (.int p2), .val (.int p3), .val (.int p4), .val (.int fs), .val (.int (Int32.ofNat nn)), .val (.int (Int32.ofNat rn)), .val (.int (Int32.ofNat an)), .unset, .unset, .unset, .unset, .unset, .unset] [(.ref o2)])
  have V2' : Arv Z h2 o2 k2 .int (Int32.ofNat (own_cnt rn)) (List.replicate (own_cnt rn) (.int (0 : Int32))) (.int (0 : Int32)) := V2.pad (pad_rep [] (.int (0 : Int32)) (own_cnt rn))
  refine Go.st (fun _ h => XS.astore X2.here hx rfl (hb hby at_40) rfl rfl (l' := #[.val (.int p1), .val (.int p2), .val (.int p3), .val (.int p4), .val (.int fs), .val (.int (Int32.ofNat nn)), .val (.int (Int32.ofNat rn)), .val (.int (Int32.ofNat an)), .val (.ref o2), .unset, .unset, .unset, .unset, .unset]) rfl h) ?_
  show Go p e below _ T2 (mkF m 42 #[.val (.int p1), .val (.int p2), .val (.int p3), .val (.int p4), .val (.int fs), .val (.int (Int32.ofNat nn)), .val (.int (Int32.ofNat rn)), .val (.int (Int32.ofNat an)), .val (.ref o2), .unset, .unset, .unset, .unset, .unset] [])
  refine Go.st (fun _ h => XS.iload X2.here hx rfl (hb hby at_42) rfl h) ?_
  show Go p e below _ T2 (mkF m 44 #[.val (.int p1), .val (.int p2), .val (.int p3), .val (.int p4), .val (.int fs), .val (.int (Int32.ofNat nn)), .val (.int (Int32.ofNat rn)), .val (.int (Int32.ofNat an)), .val (.ref o2), .unset, .unset, .unset, .unset, .unset] [(.int (Int32.ofNat an))])
  obtain ⟨T3, X3, e3, st3⟩ := own_still rfl rfl (Does.static (y := (⟨"com/example/bindwell/bindwell/collect/ListChangeMovesFromPinLaw", "pc", "(I)I"⟩ : MethodName)) (g := (mkF m 44 #[.val (.int p1), .val (.int p2), .val (.int p3), .val (.int p4), .val (.int fs), .val (.int (Int32.ofNat nn)), .val (.int (Int32.ofNat rn)), .val (.int (Int32.ofNat an)), .val (.ref o2), .unset, .unset, .unset, .unset, .unset] [(.int (Int32.ofNat an))])) (rmPc l Z a0 hw (Int32.ofNat an) h2) X2 hx hZ hown e2 (hw _ (List.mem_of_getElem? (i := 2) rfl)) (hw _ (List.mem_of_getElem? (i := 3) rfl)) (hw _ (List.mem_of_getElem? (i := 4) rfl)) (hw _ (List.mem_of_getElem? (i := 5) rfl)) (by decide) rfl (by rw [hml]; rfl) (argsL := [(.int (Int32.ofNat an))]) (rest := []) (lenOf pd_28I29I rfl) rfl (hb hby at_44) (W := 0) (by show 2 * 0 + _ ≤ _; exact Nat.le_of_eq rfl) (by decide) (by decide) (by decide) (by decide))
  refine Go.st st3 ?_
  show Go p e below _ T3 (mkF m 47 #[.val (.int p1), .val (.int p2), .val (.int p3), .val (.int p4), .val (.int fs), .val (.int (Int32.ofNat nn)), .val (.int (Int32.ofNat rn)), .val (.int (Int32.ofNat an)), .val (.ref o2), .unset, .unset, .unset, .unset, .unset] [(.int (own_pc (Int32.ofNat an)))])
  rw [own_pcof han]
  show Go p e below _ T3 (mkF m 47 #[.val (.int p1), .val (.int p2), .val (.int p3), .val (.int p4), .val (.int fs), .val (.int (Int32.ofNat nn)), .val (.int (Int32.ofNat rn)), .val (.int (Int32.ofNat an)), .val (.ref o2), .unset, .unset, .unset, .unset, .unset] [(.int (Int32.ofNat (own_cnt an)))])
  obtain ⟨T4, h4, k4, X4, e4, E4, A4, st4⟩ := newP X3 hx hZ (hw _ (List.mem_of_getElem? (i := 6) rfl)) e3 (g := (mkF m 47 #[.val (.int p1), .val (.int p2), .val (.int p3), .val (.int p4), .val (.int fs), .val (.int (Int32.ofNat nn)), .val (.int (Int32.ofNat rn)), .val (.int (Int32.ofNat an)), .val (.ref o2), .unset, .unset, .unset, .unset, .unset] [(.int (Int32.ofNat (own_cnt an)))])) rfl (hb hby at_47) rfl (own_nneg (Nat.le_trans (own_cnt4 han) (by decide))) (cap := 4) (by rw [own_clamp (Nat.le_trans (own_cnt4 han) (by decide))]; exact own_cnt4 han) (by decide) (by decide) (by decide)
  obtain ⟨o4, g4⟩ : ∃ z, z = h2.size := ⟨_, rfl⟩
  rw [← g4] at A4 st4
  have ne_d0_o4 : d0 ≠ o4 := by rw [g4]; exact Nat.ne_of_lt (B_d0.keep K2 nin0).lt
  have ne_o2_o4 : o2 ≠ o4 := by rw [g4]; exact Nat.ne_of_lt V2'.lt
  have ne_y0_o4 : y0 ≠ o4 := by rw [g4]; exact Nat.ne_of_lt (E_y0.keep K2).lt
  have ne_y1_o4 : y1 ≠ o4 := by rw [g4]; exact Nat.ne_of_lt (E_y1.keep K2).lt
  have ne_y2_o4 : y2 ≠ o4 := by rw [g4]; exact Nat.ne_of_lt (E_y2.keep K2).lt
  have ne_y3_o4 : y3 ≠ o4 := by rw [g4]; exact Nat.ne_of_lt (E_y3.keep K2).lt
  have le_o4 : h0.size ≤ o4 := by rw [g4]; exact K2.1
  have V4_0 := V2'.ext E4
  have K4 := K2.ext E4
  have V4 := Arv.new A4 (own_nneg (Nat.le_trans (own_cnt4 han) (by decide)))
  refine Go.st st4 ?_
  show Go p e below _ T4 (mkF m 49 #[.val (.int p1), .val (.int p2), .val (.int p3), .val (.int p4), .val (.int fs), .val (.int (Int32.ofNat nn)), .val (.int (Int32.ofNat rn)), .val (.int (Int32.ofNat an)), .val (.ref o2), .unset, .unset, .unset, .unset, .unset] [(.ref o4)])
  have V4' : Arv Z h4 o4 k4 .int (Int32.ofNat (own_cnt an)) (List.replicate (own_cnt an) (.int (0 : Int32))) (.int (0 : Int32)) := V4.pad (pad_rep [] (.int (0 : Int32)) (own_cnt an))
  refine Go.st (fun _ h => XS.astore X4.here hx rfl (hb hby at_49) rfl rfl (l' := #[.val (.int p1), .val (.int p2), .val (.int p3), .val (.int p4), .val (.int fs), .val (.int (Int32.ofNat nn)), .val (.int (Int32.ofNat rn)), .val (.int (Int32.ofNat an)), .val (.ref o2), .val (.ref o4), .unset, .unset, .unset, .unset]) rfl h) ?_
  show Go p e below _ T4 (mkF m 51 #[.val (.int p1), .val (.int p2), .val (.int p3), .val (.int p4), .val (.int fs), .val (.int (Int32.ofNat nn)), .val (.int (Int32.ofNat rn)), .val (.int (Int32.ofNat an)), .val (.ref o2), .val (.ref o4), .unset, .unset, .unset, .unset] [])
  refine Go.st (fun _ h => XS.aload X4.here hx rfl (hb hby at_51) rfl rfl h) ?_
  show Go p e below _ T4 (mkF m 53 #[.val (.int p1), .val (.int p2), .val (.int p3), .val (.int p4), .val (.int fs), .val (.int (Int32.ofNat nn)), .val (.int (Int32.ofNat rn)), .val (.int (Int32.ofNat an)), .val (.ref o2), .val (.ref o4), .unset, .unset, .unset, .unset] [(.ref o2)])
  refine Go.st (fun _ h => XS.iload X4.here hx rfl (hb hby at_53) rfl h) ?_
  show Go p e below _ T4 (mkF m 55 #[.val (.int p1), .val (.int p2), .val (.int p3), .val (.int p4), .val (.int fs), .val (.int (Int32.ofNat nn)), .val (.int (Int32.ofNat rn)), .val (.int (Int32.ofNat an)), .val (.ref o2), .val (.ref o4), .unset, .unset, .unset, .unset] [(.int (Int32.ofNat rn)), (.ref o2)])
  refine Go.st (fun _ h => XS.iload X4.here hx rfl (hb hby at_55) rfl h) ?_
  show Go p e below _ T4 (mkF m 57 #[.val (.int p1), .val (.int p2), .val (.int p3), .val (.int p4), .val (.int fs), .val (.int (Int32.ofNat nn)), .val (.int (Int32.ofNat rn)), .val (.int (Int32.ofNat an)), .val (.ref o2), .val (.ref o4), .unset, .unset, .unset, .unset] [(.int fs), (.int (Int32.ofNat rn)), (.ref o2)])
  obtain ⟨_, T5, L5, X5, ⟨rfl, Nc5, Kc5, Vc5⟩, st5⟩ := Does.static (y := (⟨"com/example/bindwell/bindwell/collect/ListChangeMovesFromPinLaw", "fill", "([III)V"⟩ : MethodName)) (g := (mkF m 57 #[.val (.int p1), .val (.int p2), .val (.int p3), .val (.int p4), .val (.int fs), .val (.int (Int32.ofNat nn)), .val (.int (Int32.ofNat rn)), .val (.int (Int32.ofNat an)), .val (.ref o2), .val (.ref o4), .unset, .unset, .unset, .unset] [(.int fs), (.int (Int32.ofNat rn)), (.ref o2)])) (rmFill l Z a0 hw rn hr16 o2 k2 fs h4 n0 (Nat.le_trans Z0 K4.1) V4_0 (Nat.le_trans Z0 le_o2)) X4 hx hZ hown e4 (hw _ (List.mem_of_getElem? (i := 7) rfl)) (hw _ (List.mem_of_getElem? (i := 8) rfl)) (hw _ (List.mem_of_getElem? (i := 4) rfl)) (hw _ (List.mem_of_getElem? (i := 9) rfl)) (by decide) rfl (by rw [hml]; rfl) (argsL := [(.ref o2), (.int (Int32.ofNat rn)), (.int fs)]) (rest := []) (lenOf pd_285bIII29V rfl) rfl (hb hby at_57) (W := 0) (by show 2 * 0 + _ ≤ _; exact Nat.le_of_eq rfl) (by decide) (by decide) (by decide) (by decide)
  have V5_1 := V4'.keep Kc5 (ninS (Ne.symm ne_o2_o4) nin0)
  have K5 := K4.trans Kc5 (allS (Or.inr le_o2) all0)
  have N5 := Fr.app N0 Nc5
  refine Go.st st5 ?_
  show Go p e below _ T5 (mkF m 60 #[.val (.int p1), .val (.int p2), .val (.int p3), .val (.int p4), .val (.int fs), .val (.int (Int32.ofNat nn)), .val (.int (Int32.ofNat rn)), .val (.int (Int32.ofNat an)), .val (.ref o2), .val (.ref o4), .unset, .unset, .unset, .unset] [])
  refine Go.st (fun _ h => XS.aload X5.here hx rfl (hb hby at_60) rfl rfl h) ?_
  show Go p e below _ T5 (mkF m 62 #[.val (.int p1), .val (.int p2), .val (.int p3), .val (.int p4), .val (.int fs), .val (.int (Int32.ofNat nn)), .val (.int (Int32.ofNat rn)), .val (.int (Int32.ofNat an)), .val (.ref o2), .val (.ref o4), .unset, .unset, .unset, .unset] [(.ref o4)])
  refine Go.st (fun _ h => XS.iload X5.here hx rfl (hb hby at_62) rfl h) ?_
  show Go p e below _ T5 (mkF m 64 #[.val (.int p1), .val (.int p2), .val (.int p3), .val (.int p4), .val (.int fs), .val (.int (Int32.ofNat nn)), .val (.int (Int32.ofNat rn)), .val (.int (Int32.ofNat an)), .val (.ref o2), .val (.ref o4), .unset, .unset, .unset, .unset] [(.int (Int32.ofNat an)), (.ref o4)])
  refine Go.st (fun _ h => XS.iload X5.here hx rfl (hb hby at_64) rfl h) ?_
  show Go p e below _ T5 (mkF m 66 #[.val (.int p1), .val (.int p2), .val (.int p3), .val (.int p4), .val (.int fs), .val (.int (Int32.ofNat nn)), .val (.int (Int32.ofNat rn)), .val (.int (Int32.ofNat an)), .val (.ref o2), .val (.ref o4), .unset, .unset, .unset, .unset] [(.int fs), (.int (Int32.ofNat an)), (.ref o4)])
  obtain ⟨_, T6, L6, X6, ⟨rfl, Nc6, Kc6, Vc6⟩, st6⟩ := Does.static (y := (⟨"com/example/bindwell/bindwell/collect/ListChangeMovesFromPinLaw", "fill", "([III)V"⟩ : MethodName)) (g := (mkF m 66 #[.val (.int p1), .val (.int p2), .val (.int p3), .val (.int p4), .val (.int fs), .val (.int (Int32.ofNat nn)), .val (.int (Int32.ofNat rn)), .val (.int (Int32.ofNat an)), .val (.ref o2), .val (.ref o4), .unset, .unset, .unset, .unset] [(.int fs), (.int (Int32.ofNat an)), (.ref o4)])) (rmFill l Z a0 hw an han o4 k4 fs T5.heap n0 (Nat.le_trans Z0 K5.1) V5_1 (Nat.le_trans Z0 le_o4)) X5 hx hZ hown rfl (hw _ (List.mem_of_getElem? (i := 7) rfl)) (hw _ (List.mem_of_getElem? (i := 8) rfl)) (hw _ (List.mem_of_getElem? (i := 4) rfl)) (hw _ (List.mem_of_getElem? (i := 9) rfl)) (by decide) rfl (by rw [hml]; rfl) (argsL := [(.ref o4), (.int (Int32.ofNat an)), (.int fs)]) (rest := []) (lenOf pd_285bIII29V rfl) rfl (hb hby at_66) (W := 0) (by show 2 * 0 + _ ≤ _; exact Nat.le_of_eq rfl) (by decide) (by decide) (by decide) (by decide)
  have V6_0 := Vc5.keep Kc6 (ninS ne_o2_o4 nin0)
  have K6 := K5.trans Kc6 (allS (Or.inr le_o4) all0)
  have N6 := Fr.app N5 Nc6
  refine Go.st st6 ?_
  show Go p e below _ T6 (mkF m 69 #[.val (.int p1), .val (.int p2), .val (.int p3), .val (.int p4), .val (.int fs), .val (.int (Int32.ofNat nn)), .val (.int (Int32.ofNat rn)), .val (.int (Int32.ofNat an)), .val (.ref o2), .val (.ref o4), .unset, .unset, .unset, .unset] [])
  refine Go.st (fun _ h => XS.iload X6.here hx rfl (hb hby at_69) rfl h) ?_
  show Go p e below _ T6 (mkF m 71 #[.val (.int p1), .val (.int p2), .val (.int p3), .val (.int p4), .val (.int fs), .val (.int (Int32.ofNat nn)), .val (.int (Int32.ofNat rn)), .val (.int (Int32.ofNat an)), .val (.ref o2), .val (.ref o4), .unset, .unset, .unset, .unset] [(.int (Int32.ofNat rn))])
  obtain ⟨_, T7, L7, X7, ⟨it7, rfl, Nc7, Kc7⟩, st7⟩ := Does.static (y := (⟨"com/example/bindwell/bindwell/collect/ListChangeMovesFromPinLaw", "items", "(I)Ljava/util/ArrayList;"⟩ : MethodName)) (g := (mkF m 71 #[.val (.int p1), .val (.int p2), .val (.int p3), .val (.int p4), .val (.int fs), .val (.int (Int32.ofNat nn)), .val (.int (Int32.ofNat rn)), .val (.int (Int32.ofNat an)), .val (.ref o2), .val (.ref o4), .unset, .unset, .unset, .unset] [(.int (Int32.ofNat rn))])) (rmItems l Z a0 hw (Int32.ofNat rn) d0 ca y0 y1 y2 y3 kd cc T6.heap n0 (Nat.le_trans Z0 K6.1) (S_D.ext (own_ext K6)) (B_d0.keep K6 nin0) (S_H.ext (own_ext K6)) (S_C.ext (own_ext K6)) (A_c.ext (own_ext K6)) hcc hy0 (E_y0.keep K6) hy1 (E_y1.keep K6) hy2 (E_y2.keep K6) hy3 (E_y3.keep K6)) X6 hx hZ hown rfl (hw _ (List.mem_of_getElem? (i := 10) rfl)) (hw _ (List.mem_of_getElem? (i := 11) rfl)) (hw _ (List.mem_of_getElem? (i := 4) rfl)) (hw _ (List.mem_of_getElem? (i := 12) rfl)) (by decide) rfl (by rw [hml]; rfl) (argsL := [(.int (Int32.ofNat rn))]) (rest := []) (lenOf pd_28I29Ljava2futil2fArrayList3b rfl) rfl (hb hby at_71) (W := 0) (by show 2 * 0 + _ ≤ _; exact Nat.le_of_eq rfl) (by decide) (by decide) (by decide) (by decide)
  have V7_0 := V6_0.keep Kc7 nin0
  have V7_1 := Vc6.keep Kc7 nin0
  have K7 := K6.trans Kc7 all0
  have N7 := Fr.app N6 Nc7
  refine Go.st st7 ?_
  show Go p e below _ T7 (mkF m 74 #[.val (.int p1), .val (.int p2), .val (.int p3), .val (.int p4), .val (.int fs), .val (.int (Int32.ofNat nn)), .val (.int (Int32.ofNat rn)), .val (.int (Int32.ofNat an)), .val (.ref o2), .val (.ref o4), .unset, .unset, .unset, .unset] [(.ref it7)])
  refine Go.st (fun _ h => XS.astore X7.here hx rfl (hb hby at_74) rfl rfl (l' := #[.val (.int p1), .val (.int p2), .val (.int p3), .val (.int p4), .val (.int fs), .val (.int (Int32.ofNat nn)), .val (.int (Int32.ofNat rn)), .val (.int (Int32.ofNat an)), .val (.ref o2), .val (.ref o4), .val (.ref it7), .unset, .unset, .unset]) rfl h) ?_
  show Go p e below _ T7 (mkF m 76 #[.val (.int p1), .val (.int p2), .val (.int p3), .val (.int p4), .val (.int fs), .val (.int (Int32.ofNat nn)), .val (.int (Int32.ofNat rn)), .val (.int (Int32.ofNat an)), .val (.ref o2), .val (.ref o4), .val (.ref it7), .unset, .unset, .unset] [])
  refine Go.st (fun _ h => XS.iload X7.here hx rfl (hb hby at_76) rfl h) ?_
  show Go p e below _ T7 (mkF m 78 #[.val (.int p1), .val (.int p2), .val (.int p3), .val (.int p4), .val (.int fs), .val (.int (Int32.ofNat nn)), .val (.int (Int32.ofNat rn)), .val (.int (Int32.ofNat an)), .val (.ref o2), .val (.ref o4), .val (.ref it7), .unset, .unset, .unset] [(.int (Int32.ofNat an))])
  obtain ⟨_, T8, L8, X8, ⟨it8, rfl, Nc8, Kc8⟩, st8⟩ := Does.static (y := (⟨"com/example/bindwell/bindwell/collect/ListChangeMovesFromPinLaw", "items", "(I)Ljava/util/ArrayList;"⟩ : MethodName)) (g := (mkF m 78 #[.val (.int p1), .val (.int p2), .val (.int p3), .val (.int p4), .val (.int fs), .val (.int (Int32.ofNat nn)), .val (.int (Int32.ofNat rn)), .val (.int (Int32.ofNat an)), .val (.ref o2), .val (.ref o4), .val (.ref it7), .unset, .unset, .unset] [(.int (Int32.ofNat an))])) (rmItems l Z a0 hw (Int32.ofNat an) d0 ca y0 y1 y2 y3 kd cc T7.heap n0 (Nat.le_trans Z0 K7.1) (S_D.ext (own_ext K7)) (B_d0.keep K7 nin0) (S_H.ext (own_ext K7)) (S_C.ext (own_ext K7)) (A_c.ext (own_ext K7)) hcc hy0 (E_y0.keep K7) hy1 (E_y1.keep K7) hy2 (E_y2.keep K7) hy3 (E_y3.keep K7)) X7 hx hZ hown rfl (hw _ (List.mem_of_getElem? (i := 10) rfl)) (hw _ (List.mem_of_getElem? (i := 11) rfl)) (hw _ (List.mem_of_getElem? (i := 4) rfl)) (hw _ (List.mem_of_getElem? (i := 12) rfl)) (by decide) rfl (by rw [hml]; rfl) (argsL := [(.int (Int32.ofNat an))]) (rest := []) (lenOf pd_28I29Ljava2futil2fArrayList3b rfl) rfl (hb hby at_78) (W := 0) (by show 2 * 0 + _ ≤ _; exact Nat.le_of_eq rfl) (by decide) (by decide) (by decide) (by decide)
  have V8_0 := V7_0.keep Kc8 nin0
  have V8_1 := V7_1.keep Kc8 nin0
  have K8 := K7.trans Kc8 all0
  have N8 := Fr.app N7 Nc8
  refine Go.st st8 ?_
  show Go p e below _ T8 (mkF m 81 #[.val (.int p1), .val (.int p2), .val (.int p3), .val (.int p4), .val (.int fs), .val (.int (Int32.ofNat nn)), .val (.int (Int32.ofNat rn)), .val (.int (Int32.ofNat an)), .val (.ref o2), .val (.ref o4), .val (.ref it7), .unset, .unset, .unset] [(.ref it8)])
  refine Go.st (fun _ h => XS.astore X8.here hx rfl (hb hby at_81) rfl rfl (l' := #[.val (.int p1), .val (.int p2), .val (.int p3), .val (.int p4), .val (.int fs), .val (.int (Int32.ofNat nn)), .val (.int (Int32.ofNat rn)), .val (.int (Int32.ofNat an)), .val (.ref o2), .val (.ref o4), .val (.ref it7), .val (.ref it8), .unset, .unset]) rfl h) ?_
  show Go p e below _ T8 (mkF m 83 #[.val (.int p1), .val (.int p2), .val (.int p3), .val (.int p4), .val (.int fs), .val (.int (Int32.ofNat nn)), .val (.int (Int32.ofNat rn)), .val (.int (Int32.ofNat an)), .val (.ref o2), .val (.ref o4), .val (.ref it7), .val (.ref it8), .unset, .unset] [])
  obtain ⟨T9, h9, X9, e9, E9, A9, D9, -, st9⟩ := newO X8 hx hZ hown (hw _ (List.mem_of_getElem? (i := 77) rfl)) (hw _ (List.mem_of_getElem? (i := 78) rfl)) (hw _ (List.mem_of_getElem? (i := 79) rfl)) rfl (g := (mkF m 83 #[.val (.int p1), .val (.int p2), .val (.int p3), .val (.int p4), .val (.int fs), .val (.int (Int32.ofNat nn)), .val (.int (Int32.ofNat rn)), .val (.int (Int32.ofNat an)), .val (.ref o2), .val (.ref o4), .val (.ref it7), .val (.ref it8), .unset, .unset] [])) rfl (hb hby at_83) (by decide) (by decide)
  obtain ⟨o9, g9⟩ : ∃ z, z = T8.heap.size := ⟨_, rfl⟩
  rw [← g9] at A9 D9 st9
  have ne_d0_o9 : d0 ≠ o9 := by rw [g9]; exact Nat.ne_of_lt (B_d0.keep K8 nin0).lt
  have ne_o2_o9 : o2 ≠ o9 := by rw [g9]; exact Nat.ne_of_lt V8_0.lt
  have ne_o4_o9 : o4 ≠ o9 := by rw [g9]; exact Nat.ne_of_lt V8_1.lt
  have ne_y0_o9 : y0 ≠ o9 := by rw [g9]; exact Nat.ne_of_lt (E_y0.keep K8).lt
  have ne_y1_o9 : y1 ≠ o9 := by rw [g9]; exact Nat.ne_of_lt (E_y1.keep K8).lt
  have ne_y2_o9 : y2 ≠ o9 := by rw [g9]; exact Nat.ne_of_lt (E_y2.keep K8).lt
  have ne_y3_o9 : y3 ≠ o9 := by rw [g9]; exact Nat.ne_of_lt (E_y3.keep K8).lt
  have le_o9 : h0.size ≤ o9 := by rw [g9]; exact K8.1
  have V9_0 := V8_0.ext E9
  have V9_1 := V8_1.ext E9
  have K9 := K8.ext E9
  have F9_removed : Fld Z h9 o9 "com/example/bindwell/bindwell/collect/ListChange" "removed" "Ljava/util/List;" .null := D9 (Or.inr (hw _ (List.mem_of_getElem? (i := 88) rfl))) (ty := (.object "java/util/List")) (by decide)
  have F9_removedAt : Fld Z h9 o9 "com/example/bindwell/bindwell/collect/ListChange" "removedAt" "[I" .null := D9 (Or.inr (hw _ (List.mem_of_getElem? (i := 90) rfl))) (ty := (.array .int)) (by decide)
  have F9_added : Fld Z h9 o9 "com/example/bindwell/bindwell/collect/ListChange" "added" "Ljava/util/List;" .null := D9 (Or.inr (hw _ (List.mem_of_getElem? (i := 92) rfl))) (ty := (.object "java/util/List")) (by decide)
  have F9_addedAt : Fld Z h9 o9 "com/example/bindwell/bindwell/collect/ListChange" "addedAt" "[I" .null := D9 (Or.inr (hw _ (List.mem_of_getElem? (i := 94) rfl))) (ty := (.array .int)) (by decide)
  have F9_movedTo : Fld Z h9 o9 "com/example/bindwell/bindwell/collect/ListChange" "movedTo" "[I" .null := D9 (Or.inr (hw _ (List.mem_of_getElem? (i := 96) rfl))) (ty := (.array .int)) (by decide)
  refine Go.st st9 ?_
  show Go p e below _ T9 (mkF m 86 #[.val (.int p1), .val (.int p2), .val (.int p3), .val (.int p4), .val (.int fs), .val (.int (Int32.ofNat nn)), .val (.int (Int32.ofNat rn)), .val (.int (Int32.ofNat an)), .val (.ref o2), .val (.ref o4), .val (.ref it7), .val (.ref it8), .unset, .unset] [(.ref o9)])
  refine Go.st (fun _ h => XS.dup X9.here hx rfl (hb hby at_86) rfl rfl h) ?_
  show Go p e below _ T9 (mkF m 87 #[.val (.int p1), .val (.int p2), .val (.int p3), .val (.int p4), .val (.int fs), .val (.int (Int32.ofNat nn)), .val (.int (Int32.ofNat rn)), .val (.int (Int32.ofNat an)), .val (.ref o2), .val (.ref o4), .val (.ref it7), .val (.ref it8), .unset, .unset] [(.ref o9), (.ref o9)])
  refine Go.st (fun _ h => XS.aload X9.here hx rfl (hb hby at_87) rfl rfl h) ?_
  show Go p e below _ T9 (mkF m 89 #[.val (.int p1), .val (.int p2), .val (.int p3), .val (.int p4), .val (.int fs), .val (.int (Int32.ofNat nn)), .val (.int (Int32.ofNat rn)), .val (.int (Int32.ofNat an)), .val (.ref o2), .val (.ref o4), .val (.ref it7), .val (.ref it8), .unset, .unset] [(.ref it7), (.ref o9), (.ref o9)])
  refine Go.st (fun _ h => XS.aload X9.here hx rfl (hb hby at_89) rfl rfl h) ?_
  show Go p e below _ T9 (mkF m 91 #[.val (.int p1), .val (.int p2), .val (.int p3), .val (.int p4), .val (.int fs), .val (.int (Int32.ofNat nn)), .val (.int (Int32.ofNat rn)), .val (.int (Int32.ofNat an)), .val (.ref o2), .val (.ref o4), .val (.ref it7), .val (.ref it8), .unset, .unset] [(.ref o2), (.ref it7), (.ref o9), (.ref o9)])
  refine Go.st (fun _ h => XS.aload X9.here hx rfl (hb hby at_91) rfl rfl h) ?_
  show Go p e below _ T9 (mkF m 93 #[.val (.int p1), .val (.int p2), .val (.int p3), .val (.int p4), .val (.int fs), .val (.int (Int32.ofNat nn)), .val (.int (Int32.ofNat rn)), .val (.int (Int32.ofNat an)), .val (.ref o2), .val (.ref o4), .val (.ref it7), .val (.ref it8), .unset, .unset] [(.ref it8), (.ref o2), (.ref it7), (.ref o9), (.ref o9)])
  refine Go.st (fun _ h => XS.aload X9.here hx rfl (hb hby at_93) rfl rfl h) ?_
  show Go p e below _ T9 (mkF m 95 #[.val (.int p1), .val (.int p2), .val (.int p3), .val (.int p4), .val (.int fs), .val (.int (Int32.ofNat nn)), .val (.int (Int32.ofNat rn)), .val (.int (Int32.ofNat an)), .val (.ref o2), .val (.ref o4), .val (.ref it7), .val (.ref it8), .unset, .unset] [(.ref o4), (.ref it8), (.ref o2), (.ref it7), (.ref o9), (.ref o9)])
  obtain ⟨_, T10, L10, X10, ⟨rfl, Nc10, Kc10, Fc10_0, Fc10_1, Fc10_2⟩, st10⟩ := Does.special (y := (⟨"com/example/bindwell/bindwell/collect/ListChange", "<init>", "(Ljava/util/List;[ILjava/util/List;[I)V"⟩ : MethodName)) (g := (mkF m 95 #[.val (.int p1), .val (.int p2), .val (.int p3), .val (.int p4), .val (.int fs), .val (.int (Int32.ofNat nn)), .val (.int (Int32.ofNat rn)), .val (.int (Int32.ofNat an)), .val (.ref o2), .val (.ref o4), .val (.ref it7), .val (.ref it8), .unset, .unset] [(.ref o4), (.ref it8), (.ref o2), (.ref it7), (.ref o9), (.ref o9)])) (a := o9) (rmLC1 l Z a0 hw o9 it7 o2 it8 o4 h9 n0 (Nat.le_trans Z0 K9.1) F9_removed F9_removedAt F9_added F9_addedAt F9_movedTo A9 (Nat.le_trans Z0 le_o9)) X9 hx hZ hown e9 rfl (hw _ (List.mem_of_getElem? (i := 80) rfl)) (hw _ (List.mem_of_getElem? (i := 81) rfl)) (hw _ (List.mem_of_getElem? (i := 79) rfl)) (hw _ (List.mem_of_getElem? (i := 82) rfl)) (by decide) rfl (by rw [hml]; rfl) (argsL := [(.ref it7), (.ref o2), (.ref it8), (.ref o4)]) (rest := [(.ref o9)]) (lenOf pd_28Ljava2futil2fList3b5bILjava2futil2fList3b5bI29V rfl) rfl (hb hby at_95) (W := 1) (by show 2 * 0 + _ ≤ _; exact Nat.le_of_eq rfl) (by decide) (by decide) (by decide) (by decide)
  have E10_0 := A9.keep Kc10
  have V10_6 := V9_0.keep Kc10 (ninS ne_o2_o9 nin0)
  have V10_7 := V9_1.keep Kc10 (ninS ne_o4_o9 nin0)
  have K10 := K9.trans Kc10 (allS (Or.inr le_o9) all0)
  have N10 := Fr.app N8 Nc10
  refine Go.st st10 ?_
  show Go p e below _ T10 (mkF m 98 #[.val (.int p1), .val (.int p2), .val (.int p3), .val (.int p4), .val (.int fs), .val (.int (Int32.ofNat nn)), .val (.int (Int32.ofNat rn)), .val (.int (Int32.ofNat an)), .val (.ref o2), .val (.ref o4), .val (.ref it7), .val (.ref it8), .unset, .unset] [(.ref o9)])
  refine Go.st (fun _ h => XS.astore X10.here hx rfl (hb hby at_98) rfl rfl (l' := #[.val (.int p1), .val (.int p2), .val (.int p3), .val (.int p4), .val (.int fs), .val (.int (Int32.ofNat nn)), .val (.int (Int32.ofNat rn)), .val (.int (Int32.ofNat an)), .val (.ref o2), .val (.ref o4), .val (.ref it7), .val (.ref it8), .val (.ref o9), .unset]) rfl h) ?_
  show Go p e below _ T10 (mkF m 100 #[.val (.int p1), .val (.int p2), .val (.int p3), .val (.int p4), .val (.int fs), .val (.int (Int32.ofNat nn)), .val (.int (Int32.ofNat rn)), .val (.int (Int32.ofNat an)), .val (.ref o2), .val (.ref o4), .val (.ref it7), .val (.ref it8), .val (.ref o9), .unset] [])
  refine Go.st (fun _ h => XS.aload X10.here hx rfl (hb hby at_100) rfl rfl h) ?_
  show Go p e below _ T10 (mkF m 102 #[.val (.int p1), .val (.int p2), .val (.int p3), .val (.int p4), .val (.int fs), .val (.int (Int32.ofNat nn)), .val (.int (Int32.ofNat rn)), .val (.int (Int32.ofNat an)), .val (.ref o2), .val (.ref o4), .val (.ref it7), .val (.ref it8), .val (.ref o9), .unset] [(.ref o9)])
  refine Go.st (fun _ h => XS.iload X10.here hx rfl (hb hby at_102) rfl h) ?_
  show Go p e below _ T10 (mkF m 104 #[.val (.int p1), .val (.int p2), .val (.int p3), .val (.int p4), .val (.int fs), .val (.int (Int32.ofNat nn)), .val (.int (Int32.ofNat rn)), .val (.int (Int32.ofNat an)), .val (.ref o2), .val (.ref o4), .val (.ref it7), .val (.ref it8), .val (.ref o9), .unset] [(.int fs), (.ref o9)])
  refine Go.st (fun _ h => XS.iload X10.here hx rfl (hb hby at_104) rfl h) ?_
  show Go p e below _ T10 (mkF m 106 #[.val (.int p1), .val (.int p2), .val (.int p3), .val (.int p4), .val (.int fs), .val (.int (Int32.ofNat nn)), .val (.int (Int32.ofNat rn)), .val (.int (Int32.ofNat an)), .val (.ref o2), .val (.ref o4), .val (.ref it7), .val (.ref it8), .val (.ref o9), .unset] [(.int fs), (.int fs), (.ref o9)])
  refine Go.st (fun _ h => XS.iload X10.here hx rfl (hb hby at_106) rfl h) ?_
  show Go p e below _ T10 (mkF m 108 #[.val (.int p1), .val (.int p2), .val (.int p3), .val (.int p4), .val (.int fs), .val (.int (Int32.ofNat nn)), .val (.int (Int32.ofNat rn)), .val (.int (Int32.ofNat an)), .val (.ref o2), .val (.ref o4), .val (.ref it7), .val (.ref it8), .val (.ref o9), .unset] [(.int (Int32.ofNat nn)), (.int fs), (.int fs), (.ref o9)])
  refine Go.st (fun _ h => XS.iadd X10.here hx rfl (hb hby at_108) rfl h) ?_
  show Go p e below _ T10 (mkF m 109 #[.val (.int p1), .val (.int p2), .val (.int p3), .val (.int p4), .val (.int fs), .val (.int (Int32.ofNat nn)), .val (.int (Int32.ofNat rn)), .val (.int (Int32.ofNat an)), .val (.ref o2), .val (.ref o4), .val (.ref it7), .val (.ref it8), .val (.ref o9), .unset] [(.int (fs + (Int32.ofNat nn))), (.int fs), (.ref o9)])
  obtain ⟨_, T11, L11, X11, ⟨mv11, km11, rfl, Nc11, Kc11, Vc11⟩, st11⟩ := Does.virtual (y := (⟨"com/example/bindwell/bindwell/collect/ListChange", "movesFrom", "(II)[I"⟩ : MethodName)) (g := (mkF m 109 #[.val (.int p1), .val (.int p2), .val (.int p3), .val (.int p4), .val (.int fs), .val (.int (Int32.ofNat nn)), .val (.int (Int32.ofNat rn)), .val (.int (Int32.ofNat an)), .val (.ref o2), .val (.ref o4), .val (.ref it7), .val (.ref it8), .val (.ref o9), .unset] [(.int (fs + (Int32.ofNat nn))), (.int fs), (.ref o9)])) (a := o9) (rmMoves l Z a0 hw o9 o2 o4 k2 k4 (own_bits rn) (own_bits an) nn fs (by omega) hfb.1 hfb.2 (own_cnt4 hr16) (own_cnt4 han) (own_bits4 hr16) (own_bits4 han) T10.heap n0 (Nat.le_trans Z0 K10.1) Fc10_0 Fc10_1 Fc10_2 V10_6 V10_7) X10 hx hZ hown rfl E10_0 (hw _ (List.mem_of_getElem? (i := 97) rfl)) (hw _ (List.mem_of_getElem? (i := 98) rfl)) (hw _ (List.mem_of_getElem? (i := 100) rfl)) (hw _ (List.mem_of_getElem? (i := 99) rfl)) (hw _ (List.mem_of_getElem? (i := 79) rfl)) (hw _ (List.mem_of_getElem? (i := 101) rfl)) (by decide) rfl (by rw [hml]; rfl) (argsL := [(.int fs), (.int (fs + (Int32.ofNat nn)))]) (rest := []) (lenOf pd_28II295bI rfl) rfl (hb hby at_109) (W := 0) (by show 2 * 0 + _ ≤ _; exact Nat.le_of_eq rfl) (by decide) (by decide) (by decide) (by decide)
  have E11_0 := E10_0.keep Kc11
  have F11_1 := Fc10_1.keep Kc11 nin0
  have F11_2 := Fc10_2.keep Kc11 nin0
  have F11_3 := Fc10_0.keep Kc11 nin0
  have V11_4 := V10_6.keep Kc11 nin0
  have V11_5 := V10_7.keep Kc11 nin0
  have K11 := K10.trans Kc11 all0
  have N11 := Fr.app N10 Nc11
  refine Go.st st11 ?_
  show Go p e below _ T11 (mkF m 112 #[.val (.int p1), .val (.int p2), .val (.int p3), .val (.int p4), .val (.int fs), .val (.int (Int32.ofNat nn)), .val (.int (Int32.ofNat rn)), .val (.int (Int32.ofNat an)), .val (.ref o2), .val (.ref o4), .val (.ref it7), .val (.ref it8), .val (.ref o9), .unset] [(.ref mv11)])
  refine Go.st (fun _ h => XS.astore X11.here hx rfl (hb hby at_112) rfl rfl (l' := #[.val (.int p1), .val (.int p2), .val (.int p3), .val (.int p4), .val (.int fs), .val (.int (Int32.ofNat nn)), .val (.int (Int32.ofNat rn)), .val (.int (Int32.ofNat an)), .val (.ref o2), .val (.ref o4), .val (.ref it7), .val (.ref it8), .val (.ref o9), .val (.ref mv11)]) rfl h) ?_
  show Go p e below _ T11 (mkF m 114 #[.val (.int p1), .val (.int p2), .val (.int p3), .val (.int p4), .val (.int fs), .val (.int (Int32.ofNat nn)), .val (.int (Int32.ofNat rn)), .val (.int (Int32.ofNat an)), .val (.ref o2), .val (.ref o4), .val (.ref it7), .val (.ref it8), .val (.ref o9), .val (.ref mv11)] [])
  refine Go.st (fun _ h => XS.aload X11.here hx rfl (hb hby at_114) rfl rfl h) ?_
  show Go p e below _ T11 (mkF m 116 #[.val (.int p1), .val (.int p2), .val (.int p3), .val (.int p4), .val (.int fs), .val (.int (Int32.ofNat nn)), .val (.int (Int32.ofNat rn)), .val (.int (Int32.ofNat an)), .val (.ref o2), .val (.ref o4), .val (.ref it7), .val (.ref it8), .val (.ref o9), .val (.ref mv11)] [(.ref mv11)])
  refine Go.st (own_len X11 hx hZ rfl Vc11 rfl rfl (hb hby at_116)) ?_
  show Go p e below _ T11 (mkF m 117 #[.val (.int p1), .val (.int p2), .val (.int p3), .val (.int p4), .val (.int fs), .val (.int (Int32.ofNat nn)), .val (.int (Int32.ofNat rn)), .val (.int (Int32.ofNat an)), .val (.ref o2), .val (.ref o4), .val (.ref it7), .val (.ref it8), .val (.ref o9), .val (.ref mv11)] [(.int (Int32.ofNat nn))])
  refine Go.st (fun _ h => XS.iload X11.here hx rfl (hb hby at_117) rfl h) ?_
  show Go p e below _ T11 (mkF m 119 #[.val (.int p1), .val (.int p2), .val (.int p3), .val (.int p4), .val (.int fs), .val (.int (Int32.ofNat nn)), .val (.int (Int32.ofNat rn)), .val (.int (Int32.ofNat an)), .val (.ref o2), .val (.ref o4), .val (.ref it7), .val (.ref it8), .val (.ref o9), .val (.ref mv11)] [(.int (Int32.ofNat nn)), (.int (Int32.ofNat nn))])
  refine Go.st (fun _ h => XS.icmpYes X11.here hx rfl (pc0 := 119) (pc' := 124) rfl (hb hby at_119) rfl ((teq (rfl : (Int32.ofNat nn) = (Int32.ofNat nn))).1) (by decide) (by decide) h) ?_
  show Go p e below _ T11 (mkF m 124 #[.val (.int p1), .val (.int p2), .val (.int p3), .val (.int p4), .val (.int fs), .val (.int (Int32.ofNat nn)), .val (.int (Int32.ofNat rn)), .val (.int (Int32.ofNat an)), .val (.ref o2), .val (.ref o4), .val (.ref it7), .val (.ref it8), .val (.ref o9), .val (.ref mv11)] [])
  refine Go.st (fun _ h => XS.aload X11.here hx rfl (hb hby at_124) rfl rfl h) ?_
  show Go p e below _ T11 (mkF m 126 #[.val (.int p1), .val (.int p2), .val (.int p3), .val (.int p4), .val (.int fs), .val (.int (Int32.ofNat nn)), .val (.int (Int32.ofNat rn)), .val (.int (Int32.ofNat an)), .val (.ref o2), .val (.ref o4), .val (.ref it7), .val (.ref it8), .val (.ref o9), .val (.ref mv11)] [(.ref mv11)])
  refine Go.st (fun _ h => XT.iconstV X11.here hx rfl (0 : Int32) (hb hby at_126) (by decide) h) ?_
  show Go p e below _ T11 (mkF m 127 #[.val (.int p1), .val (.int p2), .val (.int p3), .val (.int p4), .val (.int fs), .val (.int (Int32.ofNat nn)), .val (.int (Int32.ofNat rn)), .val (.int (Int32.ofNat an)), .val (.ref o2), .val (.ref o4), .val (.ref it7), .val (.ref it8), .val (.ref o9), .val (.ref mv11)] [(.int (0 : Int32)), (.ref mv11)])
  refine Go.st (fun _ h => XS.iload X11.here hx rfl (hb hby at_127) rfl h) ?_
  show Go p e below _ T11 (mkF m 129 #[.val (.int p1), .val (.int p2), .val (.int p3), .val (.int p4), .val (.int fs), .val (.int (Int32.ofNat nn)), .val (.int (Int32.ofNat rn)), .val (.int (Int32.ofNat an)), .val (.ref o2), .val (.ref o4), .val (.ref it7), .val (.ref it8), .val (.ref o9), .val (.ref mv11)] [(.int (Int32.ofNat rn)), (.int (0 : Int32)), (.ref mv11)])
  refine Go.st (fun _ h => XS.iload X11.here hx rfl (hb hby at_129) rfl h) ?_
  show Go p e below _ T11 (mkF m 131 #[.val (.int p1), .val (.int p2), .val (.int p3), .val (.int p4), .val (.int fs), .val (.int (Int32.ofNat nn)), .val (.int (Int32.ofNat rn)), .val (.int (Int32.ofNat an)), .val (.ref o2), .val (.ref o4), .val (.ref it7), .val (.ref it8), .val (.ref o9), .val (.ref mv11)] [(.int (Int32.ofNat an)), (.int (Int32.ofNat rn)), (.int (0 : Int32)), (.ref mv11)])
  refine Go.st (fun _ h => XS.iload X11.here hx rfl (hb hby at_131) rfl h) ?_
  show Go p e below _ T11 (mkF m 133 #[.val (.int p1), .val (.int p2), .val (.int p3), .val (.int p4), .val (.int fs), .val (.int (Int32.ofNat nn)), .val (.int (Int32.ofNat rn)), .val (.int (Int32.ofNat an)), .val (.ref o2), .val (.ref o4), .val (.ref it7), .val (.ref it8), .val (.ref o9), .val (.ref mv11)] [(.int fs), (.int (Int32.ofNat an)), (.int (Int32.ofNat rn)), (.int (0 : Int32)), (.ref mv11)])
  refine Go.st (fun _ h => XS.iload X11.here hx rfl (hb hby at_133) rfl h) ?_
  show Go p e below _ T11 (mkF m 135 #[.val (.int p1), .val (.int p2), .val (.int p3), .val (.int p4), .val (.int fs), .val (.int (Int32.ofNat nn)), .val (.int (Int32.ofNat rn)), .val (.int (Int32.ofNat an)), .val (.ref o2), .val (.ref o4), .val (.ref it7), .val (.ref it8), .val (.ref o9), .val (.ref mv11)] [(.int (Int32.ofNat nn)), (.int fs), (.int (Int32.ofNat an)), (.int (Int32.ofNat rn)), (.int (0 : Int32)), (.ref mv11)])
  obtain ⟨g_0, hg_0, hk_0⟩ := own_fin hnn hrp han 0 (by decide) fs
  have hk_0' : ¬ own_ok (0 : Int32) (Int32.ofNat rn) (Int32.ofNat an) fs (Int32.ofNat nn) g_0 = (0 : Int32) := fun q => absurd (hk_0.symm.trans q) (by decide)
  obtain ⟨T12, X12, e12, st12⟩ := own_still rfl rfl (Does.static (y := (⟨"com/example/bindwell/bindwell/collect/ListChangeMovesFromPinLaw", "ok", "([IIIIII)Z"⟩ : MethodName)) (g := (mkF m 135 #[.val (.int p1), .val (.int p2), .val (.int p3), .val (.int p4), .val (.int fs), .val (.int (Int32.ofNat nn)), .val (.int (Int32.ofNat rn)), .val (.int (Int32.ofNat an)), .val (.ref o2), .val (.ref o4), .val (.ref it7), .val (.ref it8), .val (.ref o9), .val (.ref mv11)] [(.int (Int32.ofNat nn)), (.int fs), (.int (Int32.ofNat an)), (.int (Int32.ofNat rn)), (.int (0 : Int32)), (.ref mv11)])) (rmOk l Z a0 hw mv11 km11 _ (0 : Int32) (Int32.ofNat rn) (Int32.ofNat an) fs (Int32.ofNat nn) g_0 T11.heap (by decide) Vc11 hg_0) X11 hx hZ hown rfl (hw _ (List.mem_of_getElem? (i := 102) rfl)) (hw _ (List.mem_of_getElem? (i := 103) rfl)) (hw _ (List.mem_of_getElem? (i := 4) rfl)) (hw _ (List.mem_of_getElem? (i := 104) rfl)) (by decide) rfl (by rw [hml]; rfl) (argsL := [(.ref mv11), (.int (0 : Int32)), (.int (Int32.ofNat rn)), (.int (Int32.ofNat an)), (.int fs), (.int (Int32.ofNat nn))]) (rest := []) (lenOf pd_285bIIIIII29Z rfl) rfl (hb hby at_135) (W := 0) (by show 2 * 0 + _ ≤ _; exact Nat.le_of_eq rfl) (by decide) (by decide) (by decide) (by decide))
  refine Go.st st12 ?_
  show Go p e below _ T12 (mkF m 138 #[.val (.int p1), .val (.int p2), .val (.int p3), .val (.int p4), .val (.int fs), .val (.int (Int32.ofNat nn)), .val (.int (Int32.ofNat rn)), .val (.int (Int32.ofNat an)), .val (.ref o2), .val (.ref o4), .val (.ref it7), .val (.ref it8), .val (.ref o9), .val (.ref mv11)] [(.int (own_ok (0 : Int32) (Int32.ofNat rn) (Int32.ofNat an) fs (Int32.ofNat nn) g_0))])
  refine Go.st (fun _ h => XS.ifNo X12.here hx rfl (hb hby at_138) rfl ((if0 _ _).trans (feq (hk_0' : ¬ ((own_ok (0 : Int32) (Int32.ofNat rn) (Int32.ofNat an) fs (Int32.ofNat nn) g_0) = (0 : Int32)))).1) h) ?_
  show Go p e below _ T12 (mkF m 141 #[.val (.int p1), .val (.int p2), .val (.int p3), .val (.int p4), .val (.int fs), .val (.int (Int32.ofNat nn)), .val (.int (Int32.ofNat rn)), .val (.int (Int32.ofNat an)), .val (.ref o2), .val (.ref o4), .val (.ref it7), .val (.ref it8), .val (.ref o9), .val (.ref mv11)] [])
  refine Go.st (fun _ h => XS.aload X12.here hx rfl (hb hby at_141) rfl rfl h) ?_
  show Go p e below _ T12 (mkF m 143 #[.val (.int p1), .val (.int p2), .val (.int p3), .val (.int p4), .val (.int fs), .val (.int (Int32.ofNat nn)), .val (.int (Int32.ofNat rn)), .val (.int (Int32.ofNat an)), .val (.ref o2), .val (.ref o4), .val (.ref it7), .val (.ref it8), .val (.ref o9), .val (.ref mv11)] [(.ref mv11)])
  refine Go.st (fun _ h => XT.iconstV X12.here hx rfl (1 : Int32) (hb hby at_143) (by decide) h) ?_
  show Go p e below _ T12 (mkF m 144 #[.val (.int p1), .val (.int p2), .val (.int p3), .val (.int p4), .val (.int fs), .val (.int (Int32.ofNat nn)), .val (.int (Int32.ofNat rn)), .val (.int (Int32.ofNat an)), .val (.ref o2), .val (.ref o4), .val (.ref it7), .val (.ref it8), .val (.ref o9), .val (.ref mv11)] [(.int (1 : Int32)), (.ref mv11)])
  refine Go.st (fun _ h => XS.iload X12.here hx rfl (hb hby at_144) rfl h) ?_
  show Go p e below _ T12 (mkF m 146 #[.val (.int p1), .val (.int p2), .val (.int p3), .val (.int p4), .val (.int fs), .val (.int (Int32.ofNat nn)), .val (.int (Int32.ofNat rn)), .val (.int (Int32.ofNat an)), .val (.ref o2), .val (.ref o4), .val (.ref it7), .val (.ref it8), .val (.ref o9), .val (.ref mv11)] [(.int (Int32.ofNat rn)), (.int (1 : Int32)), (.ref mv11)])
  refine Go.st (fun _ h => XS.iload X12.here hx rfl (hb hby at_146) rfl h) ?_
  show Go p e below _ T12 (mkF m 148 #[.val (.int p1), .val (.int p2), .val (.int p3), .val (.int p4), .val (.int fs), .val (.int (Int32.ofNat nn)), .val (.int (Int32.ofNat rn)), .val (.int (Int32.ofNat an)), .val (.ref o2), .val (.ref o4), .val (.ref it7), .val (.ref it8), .val (.ref o9), .val (.ref mv11)] [(.int (Int32.ofNat an)), (.int (Int32.ofNat rn)), (.int (1 : Int32)), (.ref mv11)])
  refine Go.st (fun _ h => XS.iload X12.here hx rfl (hb hby at_148) rfl h) ?_
  show Go p e below _ T12 (mkF m 150 #[.val (.int p1), .val (.int p2), .val (.int p3), .val (.int p4), .val (.int fs), .val (.int (Int32.ofNat nn)), .val (.int (Int32.ofNat rn)), .val (.int (Int32.ofNat an)), .val (.ref o2), .val (.ref o4), .val (.ref it7), .val (.ref it8), .val (.ref o9), .val (.ref mv11)] [(.int fs), (.int (Int32.ofNat an)), (.int (Int32.ofNat rn)), (.int (1 : Int32)), (.ref mv11)])
  refine Go.st (fun _ h => XS.iload X12.here hx rfl (hb hby at_150) rfl h) ?_
  show Go p e below _ T12 (mkF m 152 #[.val (.int p1), .val (.int p2), .val (.int p3), .val (.int p4), .val (.int fs), .val (.int (Int32.ofNat nn)), .val (.int (Int32.ofNat rn)), .val (.int (Int32.ofNat an)), .val (.ref o2), .val (.ref o4), .val (.ref it7), .val (.ref it8), .val (.ref o9), .val (.ref mv11)] [(.int (Int32.ofNat nn)), (.int fs), (.int (Int32.ofNat an)), (.int (Int32.ofNat rn)), (.int (1 : Int32)), (.ref mv11)])
  obtain ⟨g_1, hg_1, hk_1⟩ := own_fin hnn hrp han 1 (by decide) fs
  have hk_1' : ¬ own_ok (1 : Int32) (Int32.ofNat rn) (Int32.ofNat an) fs (Int32.ofNat nn) g_1 = (0 : Int32) := fun q => absurd (hk_1.symm.trans q) (by decide)
  obtain ⟨T13, X13, e13, st13⟩ := own_still rfl rfl (Does.static (y := (⟨"com/example/bindwell/bindwell/collect/ListChangeMovesFromPinLaw", "ok", "([IIIIII)Z"⟩ : MethodName)) (g := (mkF m 152 #[.val (.int p1), .val (.int p2), .val (.int p3), .val (.int p4), .val (.int fs), .val (.int (Int32.ofNat nn)), .val (.int (Int32.ofNat rn)), .val (.int (Int32.ofNat an)), .val (.ref o2), .val (.ref o4), .val (.ref it7), .val (.ref it8), .val (.ref o9), .val (.ref mv11)] [(.int (Int32.ofNat nn)), (.int fs), (.int (Int32.ofNat an)), (.int (Int32.ofNat rn)), (.int (1 : Int32)), (.ref mv11)])) (rmOk l Z a0 hw mv11 km11 _ (1 : Int32) (Int32.ofNat rn) (Int32.ofNat an) fs (Int32.ofNat nn) g_1 T11.heap (by decide) Vc11 hg_1) X12 hx hZ hown e12 (hw _ (List.mem_of_getElem? (i := 102) rfl)) (hw _ (List.mem_of_getElem? (i := 103) rfl)) (hw _ (List.mem_of_getElem? (i := 4) rfl)) (hw _ (List.mem_of_getElem? (i := 104) rfl)) (by decide) rfl (by rw [hml]; rfl) (argsL := [(.ref mv11), (.int (1 : Int32)), (.int (Int32.ofNat rn)), (.int (Int32.ofNat an)), (.int fs), (.int (Int32.ofNat nn))]) (rest := []) (lenOf pd_285bIIIIII29Z rfl) rfl (hb hby at_152) (W := 0) (by show 2 * 0 + _ ≤ _; exact Nat.le_of_eq rfl) (by decide) (by decide) (by decide) (by decide))
  refine Go.st st13 ?_
  show Go p e below _ T13 (mkF m 155 #[.val (.int p1), .val (.int p2), .val (.int p3), .val (.int p4), .val (.int fs), .val (.int (Int32.ofNat nn)), .val (.int (Int32.ofNat rn)), .val (.int (Int32.ofNat an)), .val (.ref o2), .val (.ref o4), .val (.ref it7), .val (.ref it8), .val (.ref o9), .val (.ref mv11)] [(.int (own_ok (1 : Int32) (Int32.ofNat rn) (Int32.ofNat an) fs (Int32.ofNat nn) g_1))])
  refine Go.st (fun _ h => XS.ifNo X13.here hx rfl (hb hby at_155) rfl ((if0 _ _).trans (feq (hk_1' : ¬ ((own_ok (1 : Int32) (Int32.ofNat rn) (Int32.ofNat an) fs (Int32.ofNat nn) g_1) = (0 : Int32)))).1) h) ?_
  show Go p e below _ T13 (mkF m 158 #[.val (.int p1), .val (.int p2), .val (.int p3), .val (.int p4), .val (.int fs), .val (.int (Int32.ofNat nn)), .val (.int (Int32.ofNat rn)), .val (.int (Int32.ofNat an)), .val (.ref o2), .val (.ref o4), .val (.ref it7), .val (.ref it8), .val (.ref o9), .val (.ref mv11)] [])
  refine Go.st (fun _ h => XS.aload X13.here hx rfl (hb hby at_158) rfl rfl h) ?_
  show Go p e below _ T13 (mkF m 160 #[.val (.int p1), .val (.int p2), .val (.int p3), .val (.int p4), .val (.int fs), .val (.int (Int32.ofNat nn)), .val (.int (Int32.ofNat rn)), .val (.int (Int32.ofNat an)), .val (.ref o2), .val (.ref o4), .val (.ref it7), .val (.ref it8), .val (.ref o9), .val (.ref mv11)] [(.ref mv11)])
  refine Go.st (fun _ h => XT.iconstV X13.here hx rfl (2 : Int32) (hb hby at_160) (by decide) h) ?_
  show Go p e below _ T13 (mkF m 161 #[.val (.int p1), .val (.int p2), .val (.int p3), .val (.int p4), .val (.int fs), .val (.int (Int32.ofNat nn)), .val (.int (Int32.ofNat rn)), .val (.int (Int32.ofNat an)), .val (.ref o2), .val (.ref o4), .val (.ref it7), .val (.ref it8), .val (.ref o9), .val (.ref mv11)] [(.int (2 : Int32)), (.ref mv11)])
  refine Go.st (fun _ h => XS.iload X13.here hx rfl (hb hby at_161) rfl h) ?_
  show Go p e below _ T13 (mkF m 163 #[.val (.int p1), .val (.int p2), .val (.int p3), .val (.int p4), .val (.int fs), .val (.int (Int32.ofNat nn)), .val (.int (Int32.ofNat rn)), .val (.int (Int32.ofNat an)), .val (.ref o2), .val (.ref o4), .val (.ref it7), .val (.ref it8), .val (.ref o9), .val (.ref mv11)] [(.int (Int32.ofNat rn)), (.int (2 : Int32)), (.ref mv11)])
  refine Go.st (fun _ h => XS.iload X13.here hx rfl (hb hby at_163) rfl h) ?_
  show Go p e below _ T13 (mkF m 165 #[.val (.int p1), .val (.int p2), .val (.int p3), .val (.int p4), .val (.int fs), .val (.int (Int32.ofNat nn)), .val (.int (Int32.ofNat rn)), .val (.int (Int32.ofNat an)), .val (.ref o2), .val (.ref o4), .val (.ref it7), .val (.ref it8), .val (.ref o9), .val (.ref mv11)] [(.int (Int32.ofNat an)), (.int (Int32.ofNat rn)), (.int (2 : Int32)), (.ref mv11)])
  refine Go.st (fun _ h => XS.iload X13.here hx rfl (hb hby at_165) rfl h) ?_
  show Go p e below _ T13 (mkF m 167 #[.val (.int p1), .val (.int p2), .val (.int p3), .val (.int p4), .val (.int fs), .val (.int (Int32.ofNat nn)), .val (.int (Int32.ofNat rn)), .val (.int (Int32.ofNat an)), .val (.ref o2), .val (.ref o4), .val (.ref it7), .val (.ref it8), .val (.ref o9), .val (.ref mv11)] [(.int fs), (.int (Int32.ofNat an)), (.int (Int32.ofNat rn)), (.int (2 : Int32)), (.ref mv11)])
  refine Go.st (fun _ h => XS.iload X13.here hx rfl (hb hby at_167) rfl h) ?_
  show Go p e below _ T13 (mkF m 169 #[.val (.int p1), .val (.int p2), .val (.int p3), .val (.int p4), .val (.int fs), .val (.int (Int32.ofNat nn)), .val (.int (Int32.ofNat rn)), .val (.int (Int32.ofNat an)), .val (.ref o2), .val (.ref o4), .val (.ref it7), .val (.ref it8), .val (.ref o9), .val (.ref mv11)] [(.int (Int32.ofNat nn)), (.int fs), (.int (Int32.ofNat an)), (.int (Int32.ofNat rn)), (.int (2 : Int32)), (.ref mv11)])
  obtain ⟨g_2, hg_2, hk_2⟩ := own_fin hnn hrp han 2 (by decide) fs
  have hk_2' : ¬ own_ok (2 : Int32) (Int32.ofNat rn) (Int32.ofNat an) fs (Int32.ofNat nn) g_2 = (0 : Int32) := fun q => absurd (hk_2.symm.trans q) (by decide)
  obtain ⟨T14, X14, e14, st14⟩ := own_still rfl rfl (Does.static (y := (⟨"com/example/bindwell/bindwell/collect/ListChangeMovesFromPinLaw", "ok", "([IIIIII)Z"⟩ : MethodName)) (g := (mkF m 169 #[.val (.int p1), .val (.int p2), .val (.int p3), .val (.int p4), .val (.int fs), .val (.int (Int32.ofNat nn)), .val (.int (Int32.ofNat rn)), .val (.int (Int32.ofNat an)), .val (.ref o2), .val (.ref o4), .val (.ref it7), .val (.ref it8), .val (.ref o9), .val (.ref mv11)] [(.int (Int32.ofNat nn)), (.int fs), (.int (Int32.ofNat an)), (.int (Int32.ofNat rn)), (.int (2 : Int32)), (.ref mv11)])) (rmOk l Z a0 hw mv11 km11 _ (2 : Int32) (Int32.ofNat rn) (Int32.ofNat an) fs (Int32.ofNat nn) g_2 T11.heap (by decide) Vc11 hg_2) X13 hx hZ hown e13 (hw _ (List.mem_of_getElem? (i := 102) rfl)) (hw _ (List.mem_of_getElem? (i := 103) rfl)) (hw _ (List.mem_of_getElem? (i := 4) rfl)) (hw _ (List.mem_of_getElem? (i := 104) rfl)) (by decide) rfl (by rw [hml]; rfl) (argsL := [(.ref mv11), (.int (2 : Int32)), (.int (Int32.ofNat rn)), (.int (Int32.ofNat an)), (.int fs), (.int (Int32.ofNat nn))]) (rest := []) (lenOf pd_285bIIIIII29Z rfl) rfl (hb hby at_169) (W := 0) (by show 2 * 0 + _ ≤ _; exact Nat.le_of_eq rfl) (by decide) (by decide) (by decide) (by decide))
  refine Go.st st14 ?_
  show Go p e below _ T14 (mkF m 172 #[.val (.int p1), .val (.int p2), .val (.int p3), .val (.int p4), .val (.int fs), .val (.int (Int32.ofNat nn)), .val (.int (Int32.ofNat rn)), .val (.int (Int32.ofNat an)), .val (.ref o2), .val (.ref o4), .val (.ref it7), .val (.ref it8), .val (.ref o9), .val (.ref mv11)] [(.int (own_ok (2 : Int32) (Int32.ofNat rn) (Int32.ofNat an) fs (Int32.ofNat nn) g_2))])
  refine Go.st (fun _ h => XS.ifNo X14.here hx rfl (hb hby at_172) rfl ((if0 _ _).trans (feq (hk_2' : ¬ ((own_ok (2 : Int32) (Int32.ofNat rn) (Int32.ofNat an) fs (Int32.ofNat nn) g_2) = (0 : Int32)))).1) h) ?_
  show Go p e below _ T14 (mkF m 175 #[.val (.int p1), .val (.int p2), .val (.int p3), .val (.int p4), .val (.int fs), .val (.int (Int32.ofNat nn)), .val (.int (Int32.ofNat rn)), .val (.int (Int32.ofNat an)), .val (.ref o2), .val (.ref o4), .val (.ref it7), .val (.ref it8), .val (.ref o9), .val (.ref mv11)] [])
  refine Go.st (fun _ h => XS.aload X14.here hx rfl (hb hby at_175) rfl rfl h) ?_
  show Go p e below _ T14 (mkF m 177 #[.val (.int p1), .val (.int p2), .val (.int p3), .val (.int p4), .val (.int fs), .val (.int (Int32.ofNat nn)), .val (.int (Int32.ofNat rn)), .val (.int (Int32.ofNat an)), .val (.ref o2), .val (.ref o4), .val (.ref it7), .val (.ref it8), .val (.ref o9), .val (.ref mv11)] [(.ref mv11)])
  refine Go.st (fun _ h => XT.iconstV X14.here hx rfl (3 : Int32) (hb hby at_177) (by decide) h) ?_
  show Go p e below _ T14 (mkF m 178 #[.val (.int p1), .val (.int p2), .val (.int p3), .val (.int p4), .val (.int fs), .val (.int (Int32.ofNat nn)), .val (.int (Int32.ofNat rn)), .val (.int (Int32.ofNat an)), .val (.ref o2), .val (.ref o4), .val (.ref it7), .val (.ref it8), .val (.ref o9), .val (.ref mv11)] [(.int (3 : Int32)), (.ref mv11)])
  refine Go.st (fun _ h => XS.iload X14.here hx rfl (hb hby at_178) rfl h) ?_
  show Go p e below _ T14 (mkF m 180 #[.val (.int p1), .val (.int p2), .val (.int p3), .val (.int p4), .val (.int fs), .val (.int (Int32.ofNat nn)), .val (.int (Int32.ofNat rn)), .val (.int (Int32.ofNat an)), .val (.ref o2), .val (.ref o4), .val (.ref it7), .val (.ref it8), .val (.ref o9), .val (.ref mv11)] [(.int (Int32.ofNat rn)), (.int (3 : Int32)), (.ref mv11)])
  refine Go.st (fun _ h => XS.iload X14.here hx rfl (hb hby at_180) rfl h) ?_
  show Go p e below _ T14 (mkF m 182 #[.val (.int p1), .val (.int p2), .val (.int p3), .val (.int p4), .val (.int fs), .val (.int (Int32.ofNat nn)), .val (.int (Int32.ofNat rn)), .val (.int (Int32.ofNat an)), .val (.ref o2), .val (.ref o4), .val (.ref it7), .val (.ref it8), .val (.ref o9), .val (.ref mv11)] [(.int (Int32.ofNat an)), (.int (Int32.ofNat rn)), (.int (3 : Int32)), (.ref mv11)])
  refine Go.st (fun _ h => XS.iload X14.here hx rfl (hb hby at_182) rfl h) ?_
  show Go p e below _ T14 (mkF m 184 #[.val (.int p1), .val (.int p2), .val (.int p3), .val (.int p4), .val (.int fs), .val (.int (Int32.ofNat nn)), .val (.int (Int32.ofNat rn)), .val (.int (Int32.ofNat an)), .val (.ref o2), .val (.ref o4), .val (.ref it7), .val (.ref it8), .val (.ref o9), .val (.ref mv11)] [(.int fs), (.int (Int32.ofNat an)), (.int (Int32.ofNat rn)), (.int (3 : Int32)), (.ref mv11)])
  refine Go.st (fun _ h => XS.iload X14.here hx rfl (hb hby at_184) rfl h) ?_
  show Go p e below _ T14 (mkF m 186 #[.val (.int p1), .val (.int p2), .val (.int p3), .val (.int p4), .val (.int fs), .val (.int (Int32.ofNat nn)), .val (.int (Int32.ofNat rn)), .val (.int (Int32.ofNat an)), .val (.ref o2), .val (.ref o4), .val (.ref it7), .val (.ref it8), .val (.ref o9), .val (.ref mv11)] [(.int (Int32.ofNat nn)), (.int fs), (.int (Int32.ofNat an)), (.int (Int32.ofNat rn)), (.int (3 : Int32)), (.ref mv11)])
  obtain ⟨g_3, hg_3, hk_3⟩ := own_fin hnn hrp han 3 (by decide) fs
  have hk_3' : ¬ own_ok (3 : Int32) (Int32.ofNat rn) (Int32.ofNat an) fs (Int32.ofNat nn) g_3 = (0 : Int32) := fun q => absurd (hk_3.symm.trans q) (by decide)
  obtain ⟨T15, X15, e15, st15⟩ := own_still rfl rfl (Does.static (y := (⟨"com/example/bindwell/bindwell/collect/ListChangeMovesFromPinLaw", "ok", "([IIIIII)Z"⟩ : MethodName)) (g := (mkF m 186 #[.val (.int p1), .val (.int p2), .val (.int p3), .val (.int p4), .val (.int fs), .val (.int (Int32.ofNat nn)), .val (.int (Int32.ofNat rn)), .val (.int (Int32.ofNat an)), .val (.ref o2), .val (.ref o4), .val (.ref it7), .val (.ref it8), .val (.ref o9), .val (.ref mv11)] [(.int (Int32.ofNat nn)), (.int fs), (.int (Int32.ofNat an)), (.int (Int32.ofNat rn)), (.int (3 : Int32)), (.ref mv11)])) (rmOk l Z a0 hw mv11 km11 _ (3 : Int32) (Int32.ofNat rn) (Int32.ofNat an) fs (Int32.ofNat nn) g_3 T11.heap (by decide) Vc11 hg_3) X14 hx hZ hown e14 (hw _ (List.mem_of_getElem? (i := 102) rfl)) (hw _ (List.mem_of_getElem? (i := 103) rfl)) (hw _ (List.mem_of_getElem? (i := 4) rfl)) (hw _ (List.mem_of_getElem? (i := 104) rfl)) (by decide) rfl (by rw [hml]; rfl) (argsL := [(.ref mv11), (.int (3 : Int32)), (.int (Int32.ofNat rn)), (.int (Int32.ofNat an)), (.int fs), (.int (Int32.ofNat nn))]) (rest := []) (lenOf pd_285bIIIIII29Z rfl) rfl (hb hby at_186) (W := 0) (by show 2 * 0 + _ ≤ _; exact Nat.le_of_eq rfl) (by decide) (by decide) (by decide) (by decide))
  refine Go.st st15 ?_
  show Go p e below _ T15 (mkF m 189 #[.val (.int p1), .val (.int p2), .val (.int p3), .val (.int p4), .val (.int fs), .val (.int (Int32.ofNat nn)), .val (.int (Int32.ofNat rn)), .val (.int (Int32.ofNat an)), .val (.ref o2), .val (.ref o4), .val (.ref it7), .val (.ref it8), .val (.ref o9), .val (.ref mv11)] [(.int (own_ok (3 : Int32) (Int32.ofNat rn) (Int32.ofNat an) fs (Int32.ofNat nn) g_3))])
  refine Go.st (fun _ h => XS.ifNo X15.here hx rfl (hb hby at_189) rfl ((if0 _ _).trans (feq (hk_3' : ¬ ((own_ok (3 : Int32) (Int32.ofNat rn) (Int32.ofNat an) fs (Int32.ofNat nn) g_3) = (0 : Int32)))).1) h) ?_
  show Go p e below _ T15 (mkF m 192 #[.val (.int p1), .val (.int p2), .val (.int p3), .val (.int p4), .val (.int fs), .val (.int (Int32.ofNat nn)), .val (.int (Int32.ofNat rn)), .val (.int (Int32.ofNat an)), .val (.ref o2), .val (.ref o4), .val (.ref it7), .val (.ref it8), .val (.ref o9), .val (.ref mv11)] [])
  refine Go.st (fun _ h => XT.iconstV X15.here hx rfl (1 : Int32) (hb hby at_192) (by decide) h) ?_
  show Go p e below _ T15 (mkF m 193 #[.val (.int p1), .val (.int p2), .val (.int p3), .val (.int p4), .val (.int fs), .val (.int (Int32.ofNat nn)), .val (.int (Int32.ofNat rn)), .val (.int (Int32.ofNat an)), .val (.ref o2), .val (.ref o4), .val (.ref it7), .val (.ref it8), .val (.ref o9), .val (.ref mv11)] [(.int (1 : Int32))])
  refine Go.st (fun _ h => XS.goto X15.here hx rfl (pc0 := 193) (pc' := 197) rfl (hb hby at_193) (by decide) (by decide) h) ?_
  show Go p e below _ T15 (mkF m 197 #[.val (.int p1), .val (.int p2), .val (.int p3), .val (.int p4), .val (.int fs), .val (.int (Int32.ofNat nn)), .val (.int (Int32.ofNat rn)), .val (.int (Int32.ofNat an)), .val (.ref o2), .val (.ref o4), .val (.ref it7), .val (.ref it8), .val (.ref o9), .val (.ref mv11)] [(.int (1 : Int32))])
  refine Go.retZ X15 hx hlk hret rfl (hb hby at_197) (by decide) (by decide) ?_
  exact ⟨rfl, N11⟩
set_option maxRecDepth 65536 in
set_option maxHeartbeats 40000000 in
theorem comes_1 {Post : Tables → Env → Array Value → State → Outcome → State → Prop} (hpost : ∀ tb e args s v u, (limb_1_1.after args s (.returned v) u = true ∧ limb_1_2.after args s (.returned v) u = true ∧ True) → FrameEnd s (.returned v) u (Jvm.fieldLocs frame_1_writes args s ++ Jvm.arrayLocs frame_1_arrays args s ++ Jvm.staticLocs frame_1_statics s) 24 192 → Post tb e args s (.returned v) u) :
    ArmFor flags0 classFile x code maxLocals ret World_1 tables_1 room_1 Calls_1 rest_1 Pre_1 Post := by
  intro l hfl _ _ p e ha hc hk s m args below hf hA hF happ hP
  obtain ⟨hcalls, hrest, hpre⟩ := hP
  obtain ⟨-, -, -, hnamed, -, -, -, hat⟩ := (Spec.applies_iff hf).mp happ
  obtain ⟨hg, hn⟩ := and_e (Cond.before_iff.mp (show (Jvm.Cond.and given_1 narrow_1).before args s = true from hpre))
  obtain ⟨g0, hg⟩ := and_e hg
  obtain ⟨g1, hg⟩ := and_e hg
  obtain ⟨g2, hg⟩ := and_e hg
  obtain ⟨g3, hg⟩ := and_e hg
  obtain ⟨w0, w1, w2, w3, rfl⟩ : ∃ w0 w1 w2 w3 : Value, args = #[w0, w1, w2, w3] := by
    have hs : args.size = 4 := by simpa [Cond.value, given_1] using g0
    obtain ⟨L⟩ := args
    match L, hs with
    | [w0, w1, w2, w3], _ => exact ⟨w0, w1, w2, w3, rfl⟩
  have hw := fun d (hd : d ∈ tables_1) => atoms_spec (ws := Jvm.Cond.code x code maxLocals ret :: tables_1) hat d (List.mem_cons_of_mem _ hd)
  obtain ⟨hsets, hown0⟩ := atoms_of _ (rest_1_c_eq ▸ (show rest_1_c.before _ s = true from hrest))
  have hfit : Fit s := fun {y c} hc i hi => by
    obtain ⟨ha, rfl⟩ := Array.getElem?_eq_some_iff.mp hc
    have q := List.all_eq_true.mp ((Array.all_eq_true_iff_forall_mem.mp hF) _ (Array.getElem_mem ha)) i (List.mem_range.mpr hi)
    simpa [Array.getElem?_eq_getElem hi] using q
  obtain ⟨i0, q0⟩ := is_v g1
  obtain rfl : w0 = (.int i0) := Option.some.inj q0
  obtain ⟨i1, q1⟩ := is_v g2
  obtain rfl : w1 = (.int i1) := Option.some.inj q1
  obtain ⟨i2, q2⟩ := is_v g3
  obtain rfl : w2 = (.int i2) := Option.some.inj q2
  obtain ⟨i3, q3⟩ := is_v hg
  obtain rfl : w3 = (.int i3) := Option.some.inj q3
  obtain ⟨d0, vd⟩ := arr_v (Cond.before_iff.mp (hsets _ (List.mem_of_getElem? (i := 6) rfl)))
  have S_D : Sta s s.heap "java/util/ArrayList" "DEFAULTCAPACITY_EMPTY_ELEMENTDATA" "[Ljava/lang/Object;" (.ref d0) := Sta.start vd (Or.inr ⟨(hw _ (List.mem_of_getElem? (i := 15) rfl)), hsets _ (List.mem_of_getElem? (i := 2) rfl)⟩)
  obtain ⟨cd, A_d, lt_d, le_d⟩ := own_arrL vd (Cond.before_iff.mp (hsets _ (List.mem_of_getElem? (i := 6) rfl))) (Cond.before_iff.mp (hsets _ (List.mem_of_getElem? (i := 8) rfl)))
  have B_d0 : Arv s s.heap d0 cd.cls (.object "java/lang/Object") (0 : Int32) [] .null := Arv.start hfit A_d lt_d le_d (by decide) (by decide) trivial
  have S_H : Sta s s.heap "java/lang/Integer$IntegerCache" "high" "I" (.int (127 : Int32)) := Sta.start (own_eqI (Cond.before_iff.mp (hsets _ (List.mem_of_getElem? (i := 12) rfl)))) (Or.inl (hsets _ (List.mem_of_getElem? (i := 10) rfl)))
  obtain ⟨ca, vc⟩ := arr_v (Cond.before_iff.mp (hsets _ (List.mem_of_getElem? (i := 13) rfl)))
  have S_C : Sta s s.heap "java/lang/Integer$IntegerCache" "cache" "[Ljava/lang/Integer;" (.ref ca) := Sta.start vc (Or.inr ⟨(hw _ (List.mem_of_getElem? (i := 44) rfl)), hsets _ (List.mem_of_getElem? (i := 11) rfl)⟩)
  obtain ⟨cc, A_c, lt_c, le_c⟩ := own_arrL vc (Cond.before_iff.mp (hsets _ (List.mem_of_getElem? (i := 13) rfl))) (Cond.before_iff.mp (hsets _ (List.mem_of_getElem? (i := 15) rfl)))
  have hcc : cc.slots.size = 256 := own_sz lt_c le_c
  have hall := Cond.before_iff.mp (hsets _ (List.mem_of_getElem? (i := 16) rfl))
  obtain ⟨y0, hy0, E_y0⟩ := own_cache vc A_c (by rw [hcc]; decide) hall 128 (by rw [hcc]; decide)
  obtain ⟨y1, hy1, E_y1⟩ := own_cache vc A_c (by rw [hcc]; decide) hall 129 (by rw [hcc]; decide)
  obtain ⟨y2, hy2, E_y2⟩ := own_cache vc A_c (by rw [hcc]; decide) hall 130 (by rw [hcc]; decide)
  obtain ⟨y3, hy3, E_y3⟩ := own_cache vc A_c (by rw [hcc]; decide) hall 131 (by rw [hcc]; decide)
  obtain ⟨n, o, h1, h2, h3, v, L, rfl, hP, hq⟩ := rmLaw l s _ hw i0 i1 i2 i3 d0 ca y0 y1 y2 y3 cd.cls cc s.heap s.heap.size (Nat.le_refl _) S_D B_d0 S_H S_C A_c hcc hy0 E_y0 hy1 E_y1 hy2 E_y2 hy3 E_y3 p e ha hc hk s m _ below hf ((Spec.applies_iff_loose hf).mp happ).1 ⟨rfl, State.Warmed39.refl s, rfl⟩ trivial
  obtain ⟨rfl, N⟩ := hP
  refine ⟨n, _, h1, h2, h3, hpost _ _ _ _ _ _ ⟨Cond.after_iff.mpr rfl, Cond.after_iff.mpr (eq_i res_at (Term.int_eval (1)) rfl), trivial⟩ ⟨hq.1, hq.2.1, (hq.2.2.sift fun y hy => Or.inr (N y hy)).mono (by decide) (by decide)⟩⟩
theorem main_1_1 : Claimed_1_1 := comes_1 fun _ _ _ _ _ _ h hF => ⟨h.1, hF⟩
theorem main_1_2 : Claimed_1_2 := comes_1 fun _ _ _ _ _ _ h hF => ⟨h.2.1, hF⟩
end Jvm.Pilot.@@N@@
namespace Jvm.Pilot.@@N@@
open Jvm Jvm.ClassFile Sem Op Lib Jvm.Free Jvm.Stand Jvm.Pilot.@@N@@.Jvm.D
/-! MADE BY PROGRAM (witnessworld.py) out of the Statement's table words and the real class files: 26 classes; the members and pool entries that the words name. The judged class is class 1, her method 1. -/
namespace start1
open Jvm.ClassFile
def u (s : String) : CpInfo := .utf8 (stringToUtf16 s)
/-- a pool by its gaps: so many unusable entries, then the entry; so many at the end -/
def gap : Nat → List CpInfo → List CpInfo
  | 0, r => r
  | n + 1, r => .unusable :: gap n r
def poolList (es : List (Nat × CpInfo)) (last : Nat) : List CpInfo := es.foldr (fun e r => gap e.1 (e.2 :: r)) (gap last [])
def pool (es : List (Nat × CpInfo)) (last : Nat) : Array CpInfo := ⟨poolList es last⟩
def fileOf (pool : Array CpInfo) (this : Nat) (attrs : Array Attribute := #[]) (ms : Array MethodInfo := #[]) (fl : Nat := 33) (sup : Nat := 0) (ifs : Array Nat := #[]) (fds : Array FieldInfo := #[]) : ClassFile where
  minorVersion := 0
  majorVersion := 65
  constantPool := pool
  accessFlags := fl
  thisClass := this
  superClass := sup
  interfaces := ifs
  fields := fds
  methods := ms
  attributes := attrs
def plain (name : String) (sup : Option ClassId) : Class where
  name := name
  kind := .ordinary
  loader := none
  accessFlags := 33
  super := sup
  interfaces := #[]
  cf := none
  fields := #[]
  methods := #[]
  instanceTypes := #[]
  staticTypes := #[]
  resolved := #[]
  callSites := []
  init := .initialized
  statics := none
  mirror := none

def pool0 : Array CpInfo := pool [(5, u "<init>"), (0, u "()V"), (1, .class_ 10), (1, u "java/lang/Object")] 113

def k0c0 : Code := { maxStack := 0, maxLocals := 1, code := object_method_1_code, exceptionTable := #[], attributes := #[] }
def k0m0 : Method := { name := "<init>", desc := "()V", sig := { parameters := [], returnType := none }, accessFlags := 1, code := some k0c0 }
/-- java/lang/Object -/
def k0 : Class := { plain "java/lang/Object" none with
  accessFlags := 33
  interfaces := #[]
  cf := some (fileOf pool0 8 #[] #[{ accessFlags := 1, nameIndex := 5, descriptorIndex := 6, attributes := #[] }] 33 0 #[] #[])
  fields := #[]
  methods := #[k0m0]
  instanceTypes := #[]
  staticTypes := #[]
  resolved := Array.replicate 124 none
  statics := none }

def pool1 : Array CpInfo := pool [(2, .class_ 4), (0, .nameAndType 5 6), (0, u "java/lang/Object"), (0, u "<init>"), (0, u "()V"), (0, .integer 1073741823), (0, .integer 2147483647), (0, .methodref 10 11), (0, .class_ 12), (0, .nameAndType 13 14), (0, u "com/example/bindwell/bindwell/collect/ListChangeMovesFromPinLaw"), (0, u "pc"), (0, u "(I)I"), (0, .methodref 10 16), (0, .nameAndType 17 18), (0, u "fill"), (0, u "([III)V"), (0, .methodref 10 20), (0, .nameAndType 21 22), (0, u "items"), (0, u "(I)Ljava/util/ArrayList;"), (0, .class_ 24), (0, u "com/example/bindwell/bindwell/collect/ListChange"), (0, .methodref 23 26), (0, .nameAndType 5 27), (0, u "(Ljava/util/List;[ILjava/util/List;[I)V"), (0, .methodref 23 29), (0, .nameAndType 30 31), (0, u "movesFrom"), (0, u "(II)[I"), (0, .methodref 10 33), (0, .nameAndType 34 35), (0, u "ok"), (0, u "([IIIIII)Z"), (0, .class_ 37), (0, u "java/util/ArrayList"), (0, .methodref 36 3), (0, .methodref 40 41), (0, .class_ 42), (0, .nameAndType 43 44), (0, u "java/lang/Integer"), (0, u "valueOf"), (0, u "(I)Ljava/lang/Integer;"), (0, .methodref 36 46), (0, .nameAndType 47 48), (0, u "add"), (0, u "(Ljava/lang/Object;)Z"), (2, u "law"), (0, u "(IIII)Z")] 7

def k1m0 : Method := { name := "<init>", desc := "()V", sig := { parameters := [], returnType := none }, accessFlags := 1, code := none }
def k1c1 : Code := { maxStack := 6, maxLocals := 14, code := code, exceptionTable := #[], attributes := #[] }
def k1m1 : Method := { name := "law", desc := "(IIII)Z", sig := { parameters := [.int, .int, .int, .int], returnType := some .boolean }, accessFlags := 9, code := some k1c1 }
def k1c2 : Code := { maxStack := 3, maxLocals := 1, code := method_3_code, exceptionTable := #[], attributes := #[] }
def k1m2 : Method := { name := "pc", desc := "(I)I", sig := { parameters := [.int], returnType := some .int }, accessFlags := 10, code := some k1c2 }
def k1c3 : Code := { maxStack := 4, maxLocals := 4, code := method_4_code, exceptionTable := #[], attributes := #[] }
def k1m3 : Method := { name := "fill", desc := "([III)V", sig := { parameters := [(.array .int), .int, .int], returnType := none }, accessFlags := 10, code := some k1c3 }
def k1c4 : Code := { maxStack := 2, maxLocals := 2, code := method_5_code, exceptionTable := #[], attributes := #[] }
def k1m4 : Method := { name := "items", desc := "(I)Ljava/util/ArrayList;", sig := { parameters := [.int], returnType := some (.object "java/util/ArrayList") }, accessFlags := 10, code := some k1c4 }
def k1c5 : Code := { maxStack := 4, maxLocals := 9, code := method_6_code, exceptionTable := #[], attributes := #[] }
def k1m5 : Method := { name := "ok", desc := "([IIIIII)Z", sig := { parameters := [(.array .int), .int, .int, .int, .int, .int], returnType := some .boolean }, accessFlags := 10, code := some k1c5 }
/-- com/example/bindwell/bindwell/collect/ListChangeMovesFromPinLaw -/
def k1 : Class := { plain "com/example/bindwell/bindwell/collect/ListChangeMovesFromPinLaw" (some 0) with
  accessFlags := 49
  interfaces := #[]
  cf := some (fileOf pool1 10 #[] #[{ accessFlags := 1, nameIndex := 5, descriptorIndex := 6, attributes := #[] }, { accessFlags := 9, nameIndex := 51, descriptorIndex := 52, attributes := #[] }, { accessFlags := 10, nameIndex := 13, descriptorIndex := 14, attributes := #[] }, { accessFlags := 10, nameIndex := 17, descriptorIndex := 18, attributes := #[] }, { accessFlags := 10, nameIndex := 21, descriptorIndex := 22, attributes := #[] }, { accessFlags := 10, nameIndex := 34, descriptorIndex := 35, attributes := #[] }] 49 2 #[] #[])
  fields := #[]
  methods := #[k1m0, k1m1, k1m2, k1m3, k1m4, k1m5]
  instanceTypes := #[]
  staticTypes := #[]
  resolved := Array.replicate 60 none
  statics := none }

def pool2 : Array CpInfo := pool [(8, .class_ 10), (1, u "java/lang/Iterable"), (24, .class_ 36), (0, u "java/lang/Object")] 25

/-- java/lang/Iterable -/
def k2 : Class := { plain "java/lang/Iterable" (some 0) with
  accessFlags := 1537
  interfaces := #[]
  cf := some (fileOf pool2 8 #[] #[] 1537 35 #[] #[])
  fields := #[]
  methods := #[]
  instanceTypes := #[]
  staticTypes := #[]
  resolved := Array.replicate 62 none
  statics := none }

def pool3 : Array CpInfo := pool [(10, .class_ 12), (1, u "java/util/Collection"), (47, .class_ 61), (0, u "java/lang/Object"), (0, .class_ 63), (0, u "java/lang/Iterable")] 51

/-- java/util/Collection -/
def k3 : Class := { plain "java/util/Collection" (some 0) with
  accessFlags := 1537
  interfaces := #[2]
  cf := some (fileOf pool3 10 #[] #[] 1537 60 #[62] #[])
  fields := #[]
  methods := #[]
  instanceTypes := #[]
  staticTypes := #[]
  resolved := Array.replicate 115 none
  statics := none }

def pool4 : Array CpInfo := pool [(1, .methodref 2 3), (0, .class_ 4), (0, .nameAndType 5 6), (0, u "java/lang/Object"), (0, u "<init>"), (0, u "()V"), (1, .class_ 10), (1, u "java/util/AbstractCollection"), (66, .class_ 78), (0, u "java/util/Collection")] 81

def k4c0 : Code := { maxStack := 1, maxLocals := 1, code := jdk_22_method_1_code, exceptionTable := #[], attributes := #[] }
def k4m0 : Method := { name := "<init>", desc := "()V", sig := { parameters := [], returnType := none }, accessFlags := 4, code := some k4c0 }
/-- java/util/AbstractCollection -/
def k4 : Class := { plain "java/util/AbstractCollection" (some 0) with
  accessFlags := 1057
  interfaces := #[3]
  cf := some (fileOf pool4 8 #[] #[{ accessFlags := 4, nameIndex := 5, descriptorIndex := 6, attributes := #[] }] 1057 2 #[77] #[])
  fields := #[]
  methods := #[k4m0]
  instanceTypes := #[]
  staticTypes := #[]
  resolved := Array.replicate 160 none
  statics := none }

def pool5 : Array CpInfo := pool [(8, .class_ 10), (1, u "java/util/SequencedCollection"), (15, .class_ 27), (0, u "java/lang/Object"), (0, .class_ 29), (0, u "java/util/Collection")] 27

/-- java/util/SequencedCollection -/
def k5 : Class := { plain "java/util/SequencedCollection" (some 0) with
  accessFlags := 1537
  interfaces := #[3]
  cf := some (fileOf pool5 8 #[] #[] 1537 26 #[28] #[])
  fields := #[]
  methods := #[]
  instanceTypes := #[]
  staticTypes := #[]
  resolved := Array.replicate 57 none
  statics := none }

def pool6 : Array CpInfo := pool [(8, .class_ 10), (1, u "java/util/List"), (92, .class_ 104), (0, u "java/lang/Object"), (15, .class_ 121), (0, u "java/util/SequencedCollection")] 129

/-- java/util/List -/
def k6 : Class := { plain "java/util/List" (some 0) with
  accessFlags := 1537
  interfaces := #[5]
  cf := some (fileOf pool6 8 #[] #[] 1537 103 #[120] #[])
  fields := #[]
  methods := #[]
  instanceTypes := #[]
  staticTypes := #[]
  resolved := Array.replicate 251 none
  statics := none }

def pool7 : Array CpInfo := pool [(1, .methodref 2 3), (0, .class_ 4), (0, .nameAndType 5 6), (0, u "java/util/AbstractCollection"), (0, u "<init>"), (0, u "()V"), (0, .fieldref 8 9), (0, .class_ 10), (0, .nameAndType 11 12), (0, u "java/util/AbstractList"), (0, u "modCount"), (0, u "I"), (64, .class_ 78), (0, u "java/util/AbstractList$Itr"), (3, .class_ 83), (0, u "java/util/AbstractList$ListItr"), (9, .class_ 94), (0, u "java/util/AbstractList$RandomAccessSubList"), (3, .class_ 99), (0, u "java/util/AbstractList$SubList"), (33, .class_ 134), (0, u "java/util/List"), (73, .class_ 209), (0, u "java/util/AbstractList$SubList$1"), (0, .class_ 211), (0, u "java/util/AbstractList$RandomAccessSpliterator")] 6

def k7c0 : Code := { maxStack := 2, maxLocals := 1, code := jdk_39_method_1_code, exceptionTable := #[], attributes := #[] }
def k7m0 : Method := { name := "<init>", desc := "()V", sig := { parameters := [], returnType := none }, accessFlags := 4, code := some k7c0 }
/-- java/util/AbstractList -/
def k7 : Class := { plain "java/util/AbstractList" (some 4) with
  accessFlags := 1057
  interfaces := #[6]
  cf := some (fileOf pool7 8 #[.nestMembers #[93, 98, 208, 210, 82, 77]] #[{ accessFlags := 4, nameIndex := 5, descriptorIndex := 6, attributes := #[] }] 1057 2 #[133] #[{ accessFlags := 132, nameIndex := 11, descriptorIndex := 12, attributes := #[] }])
  fields := #[{ name := "modCount", type := .int, accessFlags := 132, slot := 0, constantValue := 0 }]
  methods := #[k7m0]
  instanceTypes := #[.int]
  staticTypes := #[]
  resolved := Array.replicate 218 none
  statics := none }

def pool8 : Array CpInfo := pool [(1, .class_ 2), (0, u "java/util/RandomAccess"), (0, .class_ 4), (0, u "java/lang/Object")] 2

/-- java/util/RandomAccess -/
def k8 : Class := { plain "java/util/RandomAccess" (some 0) with
  accessFlags := 1537
  interfaces := #[]
  cf := some (fileOf pool8 1 #[] #[] 1537 3 #[] #[])
  fields := #[]
  methods := #[]
  instanceTypes := #[]
  staticTypes := #[]
  resolved := Array.replicate 7 none
  statics := none }

def pool9 : Array CpInfo := pool [(1, .class_ 2), (0, u "java/lang/Cloneable"), (0, .class_ 4), (0, u "java/lang/Object")] 2

/-- java/lang/Cloneable -/
def k9 : Class := { plain "java/lang/Cloneable" (some 0) with
  accessFlags := 1537
  interfaces := #[]
  cf := some (fileOf pool9 1 #[] #[] 1537 3 #[] #[])
  fields := #[]
  methods := #[]
  instanceTypes := #[]
  staticTypes := #[]
  resolved := Array.replicate 7 none
  statics := none }

def pool10 : Array CpInfo := pool [(1, .class_ 2), (0, u "java/io/Serializable"), (0, .class_ 4), (0, u "java/lang/Object")] 2

/-- java/io/Serializable -/
def k10 : Class := { plain "java/io/Serializable" (some 0) with
  accessFlags := 1537
  interfaces := #[]
  cf := some (fileOf pool10 1 #[] #[] 1537 3 #[] #[])
  fields := #[]
  methods := #[]
  instanceTypes := #[]
  staticTypes := #[]
  resolved := Array.replicate 7 none
  statics := none }

def pool11 : Array CpInfo := pool [(1, .methodref 2 3), (0, .class_ 4), (0, .nameAndType 5 6), (0, u "java/util/AbstractList"), (0, u "<init>"), (0, u "()V"), (0, .class_ 8), (0, u "java/lang/Object"), (0, .fieldref 10 11), (0, .class_ 12), (0, .nameAndType 13 14), (0, u "java/util/ArrayList"), (0, u "elementData"), (0, u "[Ljava/lang/Object;"), (2, u "EMPTY_ELEMENTDATA"), (21, .fieldref 10 40), (0, .nameAndType 41 14), (0, u "DEFAULTCAPACITY_EMPTY_ELEMENTDATA"), (5, u "()[Ljava/lang/Object;"), (0, .fieldref 10 49), (0, .nameAndType 50 51), (0, u "size"), (0, u "I"), (11, .fieldref 10 64), (0, .nameAndType 65 51), (0, u "modCount"), (3, .methodref 10 70), (0, .nameAndType 71 72), (0, u "grow"), (0, u "(I)[Ljava/lang/Object;"), (6, .methodref 80 81), (0, .class_ 82), (0, .nameAndType 83 84), (0, u "java/lang/Math"), (0, u "max"), (0, u "(II)I"), (11, u "(Ljava/lang/Object;)Z"), (32, .methodref 10 130), (0, .nameAndType 71 47), (0, .methodref 10 132), (0, .nameAndType 133 134), (0, u "add"), (0, u "(Ljava/lang/Object;[Ljava/lang/Object;I)V"), (13, .class_ 149), (0, u "java/util/List"), (112, .class_ 263), (0, u "java/util/ArrayList$ListItr"), (3, .class_ 268), (0, u "java/util/ArrayList$Itr"), (7, .class_ 277), (0, u "java/util/ArrayList$SubList"), (12, .class_ 291), (0, u "java/util/ArrayList$ArrayListSpliterator"), (37, .class_ 330), (0, u "java/util/RandomAccess"), (0, .class_ 332), (0, u "java/lang/Cloneable"), (0, .class_ 334), (0, u "java/io/Serializable"), (0, u "serialVersionUID"), (0, u "J"), (3, u "DEFAULT_CAPACITY"), (159, .class_ 501), (0, u "java/util/ArrayList$SubList$2"), (0, .class_ 503), (0, u "java/util/ArrayList$SubList$1")] 5

def k11c0 : Code := { maxStack := 2, maxLocals := 1, code := jdk_38_method_2_code, exceptionTable := #[], attributes := #[] }
def k11m0 : Method := { name := "<init>", desc := "()V", sig := { parameters := [], returnType := none }, accessFlags := 1, code := some k11c0 }
def k11c1 : Code := { maxStack := 4, maxLocals := 4, code := jdk_38_method_6_code, exceptionTable := #[], attributes := #[] }
def k11m1 : Method := { name := "grow", desc := "(I)[Ljava/lang/Object;", sig := { parameters := [.int], returnType := some (.array (.object "java/lang/Object")) }, accessFlags := 2, code := some k11c1 }
def k11c2 : Code := { maxStack := 3, maxLocals := 1, code := jdk_38_method_7_code, exceptionTable := #[], attributes := #[] }
def k11m2 : Method := { name := "grow", desc := "()[Ljava/lang/Object;", sig := { parameters := [], returnType := some (.array (.object "java/lang/Object")) }, accessFlags := 2, code := some k11c2 }
def k11c3 : Code := { maxStack := 3, maxLocals := 4, code := jdk_38_method_24_code, exceptionTable := #[], attributes := #[] }
def k11m3 : Method := { name := "add", desc := "(Ljava/lang/Object;[Ljava/lang/Object;I)V", sig := { parameters := [(.object "java/lang/Object"), (.array (.object "java/lang/Object")), .int], returnType := none }, accessFlags := 2, code := some k11c3 }
def k11c4 : Code := { maxStack := 4, maxLocals := 2, code := jdk_38_method_25_code, exceptionTable := #[], attributes := #[] }
def k11m4 : Method := { name := "add", desc := "(Ljava/lang/Object;)Z", sig := { parameters := [(.object "java/lang/Object")], returnType := some .boolean }, accessFlags := 1, code := some k11c4 }
/-- java/util/ArrayList -/
def k11 : Class := { plain "java/util/ArrayList" (some 7) with
  accessFlags := 33
  interfaces := #[6, 8, 9, 10]
  cf := some (fileOf pool11 10 #[.nestMembers #[290, 276, 500, 502, 262, 267]] #[{ accessFlags := 1, nameIndex := 5, descriptorIndex := 6, attributes := #[] }, { accessFlags := 2, nameIndex := 71, descriptorIndex := 72, attributes := #[] }, { accessFlags := 2, nameIndex := 71, descriptorIndex := 47, attributes := #[] }, { accessFlags := 2, nameIndex := 133, descriptorIndex := 134, attributes := #[] }, { accessFlags := 1, nameIndex := 133, descriptorIndex := 96, attributes := #[] }] 33 2 #[148, 329, 331, 333] #[{ accessFlags := 26, nameIndex := 335, descriptorIndex := 336, attributes := #[] }, { accessFlags := 26, nameIndex := 340, descriptorIndex := 51, attributes := #[] }, { accessFlags := 26, nameIndex := 17, descriptorIndex := 14, attributes := #[] }, { accessFlags := 26, nameIndex := 41, descriptorIndex := 14, attributes := #[] }, { accessFlags := 128, nameIndex := 13, descriptorIndex := 14, attributes := #[] }, { accessFlags := 2, nameIndex := 50, descriptorIndex := 51, attributes := #[] }])
  fields := #[{ name := "serialVersionUID", type := .long, accessFlags := 26, slot := 0, constantValue := 0 }, { name := "DEFAULT_CAPACITY", type := .int, accessFlags := 26, slot := 1, constantValue := 0 }, { name := "EMPTY_ELEMENTDATA", type := (.array (.object "java/lang/Object")), accessFlags := 26, slot := 2, constantValue := 0 }, { name := "DEFAULTCAPACITY_EMPTY_ELEMENTDATA", type := (.array (.object "java/lang/Object")), accessFlags := 26, slot := 3, constantValue := 0 }, { name := "elementData", type := (.array (.object "java/lang/Object")), accessFlags := 128, slot := 1, constantValue := 0 }, { name := "size", type := .int, accessFlags := 2, slot := 2, constantValue := 0 }]
  methods := #[k11m0, k11m1, k11m2, k11m3, k11m4]
  instanceTypes := #[.int, (.array (.object "java/lang/Object")), .int]
  staticTypes := #[.long, .int, (.array (.object "java/lang/Object")), (.array (.object "java/lang/Object"))]
  resolved := Array.replicate 509 none
  statics := some 0 }

def pool12 : Array CpInfo := pool [(2, .class_ 4), (1, u "java/lang/Object"), (0, u "<init>"), (0, u "()V"), (1, .class_ 10), (1, u "java/lang/Number"), (2, .class_ 14), (0, u "java/io/Serializable"), (0, u "serialVersionUID"), (0, u "J")] 20

def k12m0 : Method := { name := "<init>", desc := "()V", sig := { parameters := [], returnType := none }, accessFlags := 1, code := none }
/-- java/lang/Number -/
def k12 : Class := { plain "java/lang/Number" (some 0) with
  accessFlags := 1057
  interfaces := #[10]
  cf := some (fileOf pool12 8 #[] #[{ accessFlags := 1, nameIndex := 5, descriptorIndex := 6, attributes := #[] }] 1057 2 #[13] #[{ accessFlags := 26, nameIndex := 15, descriptorIndex := 16, attributes := #[] }])
  fields := #[{ name := "serialVersionUID", type := .long, accessFlags := 26, slot := 0, constantValue := 0 }]
  methods := #[k12m0]
  instanceTypes := #[]
  staticTypes := #[.long]
  resolved := Array.replicate 37 none
  statics := none }

def pool13 : Array CpInfo := pool [(1, .class_ 2), (0, u "java/lang/Comparable"), (0, .class_ 4), (0, u "java/lang/Object")] 7

/-- java/lang/Comparable -/
def k13 : Class := { plain "java/lang/Comparable" (some 0) with
  accessFlags := 1537
  interfaces := #[]
  cf := some (fileOf pool13 1 #[] #[] 1537 3 #[] #[])
  fields := #[]
  methods := #[]
  instanceTypes := #[]
  staticTypes := #[]
  resolved := Array.replicate 12 none
  statics := none }

def pool14 : Array CpInfo := pool [(1, .class_ 2), (0, u "java/lang/constant/Constable"), (0, .class_ 4), (0, u "java/lang/Object")] 6

/-- java/lang/constant/Constable -/
def k14 : Class := { plain "java/lang/constant/Constable" (some 0) with
  accessFlags := 1537
  interfaces := #[]
  cf := some (fileOf pool14 1 #[] #[] 1537 3 #[] #[])
  fields := #[]
  methods := #[]
  instanceTypes := #[]
  staticTypes := #[]
  resolved := Array.replicate 11 none
  statics := none }

def pool15 : Array CpInfo := pool [(1, .class_ 2), (0, u "java/lang/constant/ConstantDesc"), (0, .class_ 4), (0, u "java/lang/Object")] 32

/-- java/lang/constant/ConstantDesc -/
def k15 : Class := { plain "java/lang/constant/ConstantDesc" (some 0) with
  accessFlags := 1537
  interfaces := #[]
  cf := some (fileOf pool15 1 #[] #[] 1537 3 #[] #[])
  fields := #[]
  methods := #[]
  instanceTypes := #[]
  staticTypes := #[]
  resolved := Array.replicate 37 none
  statics := none }

def pool16 : Array CpInfo := pool [(1, .class_ 2), (0, u "java/lang/Integer"), (16, u "digits"), (0, u "[C"), (64, u "DigitOnes"), (0, u "[B"), (2, u "DigitTens"), (97, u "valueOf"), (0, u "(I)Ljava/lang/Integer;"), (0, .class_ 190), (0, u "java/lang/Integer$IntegerCache"), (0, .fieldref 189 192), (0, .nameAndType 193 194), (0, u "high"), (0, u "I"), (0, .fieldref 189 196), (0, .nameAndType 197 198), (0, u "cache"), (0, u "[Ljava/lang/Integer;"), (4, .class_ 204), (0, u "java/lang/Number"), (2, u "value"), (94, u "TYPE"), (0, u "Ljava/lang/Class;"), (0, .class_ 305), (0, u "java/lang/Comparable"), (0, .class_ 307), (0, u "java/lang/constant/Constable"), (0, .class_ 309), (0, u "java/lang/constant/ConstantDesc"), (0, u "MIN_VALUE"), (1, u "MAX_VALUE"), (3, u "SIZE"), (1, u "BYTES"), (1, u "serialVersionUID"), (0, u "J")] 131

def k16c0 : Code := { maxStack := 3, maxLocals := 1, code := jdk_33_method_22_code, exceptionTable := #[], attributes := #[] }
def k16m0 : Method := { name := "valueOf", desc := "(I)Ljava/lang/Integer;", sig := { parameters := [.int], returnType := some (.object "java/lang/Integer") }, accessFlags := 9, code := some k16c0 }
/-- java/lang/Integer -/
def k16 : Class := { plain "java/lang/Integer" (some 12) with
  accessFlags := 49
  interfaces := #[13, 14, 15]
  cf := some (fileOf pool16 1 #[.nestMembers #[189]] #[{ accessFlags := 9, nameIndex := 187, descriptorIndex := 188, attributes := #[] }] 49 203 #[304, 306, 308] #[{ accessFlags := 25, nameIndex := 310, descriptorIndex := 194, attributes := #[] }, { accessFlags := 25, nameIndex := 312, descriptorIndex := 194, attributes := #[] }, { accessFlags := 25, nameIndex := 302, descriptorIndex := 303, attributes := #[] }, { accessFlags := 24, nameIndex := 19, descriptorIndex := 20, attributes := #[] }, { accessFlags := 24, nameIndex := 89, descriptorIndex := 86, attributes := #[] }, { accessFlags := 24, nameIndex := 85, descriptorIndex := 86, attributes := #[] }, { accessFlags := 18, nameIndex := 207, descriptorIndex := 194, attributes := #[] }, { accessFlags := 25, nameIndex := 316, descriptorIndex := 194, attributes := #[] }, { accessFlags := 25, nameIndex := 318, descriptorIndex := 194, attributes := #[] }, { accessFlags := 26, nameIndex := 320, descriptorIndex := 321, attributes := #[] }])
  fields := #[{ name := "MIN_VALUE", type := .int, accessFlags := 25, slot := 0, constantValue := 0 }, { name := "MAX_VALUE", type := .int, accessFlags := 25, slot := 1, constantValue := 0 }, { name := "TYPE", type := (.object "java/lang/Class"), accessFlags := 25, slot := 2, constantValue := 0 }, { name := "digits", type := (.array .char), accessFlags := 24, slot := 3, constantValue := 0 }, { name := "DigitTens", type := (.array .byte), accessFlags := 24, slot := 4, constantValue := 0 }, { name := "DigitOnes", type := (.array .byte), accessFlags := 24, slot := 5, constantValue := 0 }, { name := "value", type := .int, accessFlags := 18, slot := 0, constantValue := 0 }, { name := "SIZE", type := .int, accessFlags := 25, slot := 6, constantValue := 0 }, { name := "BYTES", type := .int, accessFlags := 25, slot := 7, constantValue := 0 }, { name := "serialVersionUID", type := .long, accessFlags := 26, slot := 8, constantValue := 0 }]
  methods := #[k16m0]
  instanceTypes := #[.int]
  staticTypes := #[.int, .int, (.object "java/lang/Class"), (.array .char), (.array .byte), (.array .byte), .int, .int, .long]
  resolved := Array.replicate 453 none
  statics := none }

def pool17 : Array CpInfo := pool [(2, .class_ 4), (1, u "java/lang/Object"), (0, u "<init>"), (0, u "()V"), (0, .class_ 8), (0, u "java/lang/Integer"), (7, .class_ 18), (1, u "java/lang/Integer$IntegerCache"), (0, u "$assertionsDisabled"), (0, u "Z"), (26, u "high"), (0, u "I"), (8, u "archivedCache"), (0, u "[Ljava/lang/Integer;"), (12, u "cache"), (0, u "low")] 27

def k17m0 : Method := { name := "<init>", desc := "()V", sig := { parameters := [], returnType := none }, accessFlags := 2, code := none }
/-- java/lang/Integer$IntegerCache -/
def k17 : Class := { plain "java/lang/Integer$IntegerCache" (some 0) with
  accessFlags := 48
  interfaces := #[]
  cf := some (fileOf pool17 16 #[.nestHost 7] #[{ accessFlags := 2, nameIndex := 5, descriptorIndex := 6, attributes := #[] }] 48 2 #[] #[{ accessFlags := 24, nameIndex := 72, descriptorIndex := 48, attributes := #[] }, { accessFlags := 24, nameIndex := 47, descriptorIndex := 48, attributes := #[] }, { accessFlags := 24, nameIndex := 71, descriptorIndex := 58, attributes := #[] }, { accessFlags := 8, nameIndex := 57, descriptorIndex := 58, attributes := #[] }, { accessFlags := 4120, nameIndex := 19, descriptorIndex := 20, attributes := #[] }])
  fields := #[{ name := "low", type := .int, accessFlags := 24, slot := 0, constantValue := 0 }, { name := "high", type := .int, accessFlags := 24, slot := 1, constantValue := 0 }, { name := "cache", type := (.array (.object "java/lang/Integer")), accessFlags := 24, slot := 2, constantValue := 0 }, { name := "archivedCache", type := (.array (.object "java/lang/Integer")), accessFlags := 8, slot := 3, constantValue := 0 }, { name := "$assertionsDisabled", type := .boolean, accessFlags := 4120, slot := 4, constantValue := 0 }]
  methods := #[k17m0]
  instanceTypes := #[]
  staticTypes := #[.int, .int, (.array (.object "java/lang/Integer")), (.array (.object "java/lang/Integer")), .boolean]
  resolved := Array.replicate 100 none
  statics := some 1 }

def pool18 : Array CpInfo := pool [(1, .class_ 2), (0, u "java/lang/Math"), (1, .class_ 6), (1, u "java/lang/Object"), (0, u "<init>"), (0, u "()V"), (89, .class_ 100), (1, u "java/lang/Math$RandomNumberGeneratorHolder"), (71, u "negativeZeroFloatBits"), (0, u "J"), (2, u "negativeZeroDoubleBits"), (21, u "max"), (46, u "$assertionsDisabled"), (0, u "Z"), (88, u "(II)I"), (2, u "twoToTheDoubleScaleDown"), (0, u "D"), (4, u "twoToTheDoubleScaleUp"), (9, u "E"), (3, u "PI"), (2, u "TAU"), (2, u "DEGREES_TO_RADIANS"), (0, u "RADIANS_TO_DEGREES")] 94

def k18m0 : Method := { name := "<init>", desc := "()V", sig := { parameters := [], returnType := none }, accessFlags := 2, code := none }
def k18c1 : Code := { maxStack := 2, maxLocals := 2, code := jdk_29_method_65_code, exceptionTable := #[], attributes := #[] }
def k18m1 : Method := { name := "max", desc := "(II)I", sig := { parameters := [.int, .int], returnType := some .int }, accessFlags := 9, code := some k18c1 }
/-- java/lang/Math -/
def k18 : Class := { plain "java/lang/Math" (some 0) with
  accessFlags := 49
  interfaces := #[]
  cf := some (fileOf pool18 1 #[.nestMembers #[98]] #[{ accessFlags := 2, nameIndex := 7, descriptorIndex := 8, attributes := #[] }, { accessFlags := 9, nameIndex := 198, descriptorIndex := 335, attributes := #[] }] 49 4 #[] #[{ accessFlags := 25, nameIndex := 354, descriptorIndex := 339, attributes := #[] }, { accessFlags := 25, nameIndex := 358, descriptorIndex := 339, attributes := #[] }, { accessFlags := 25, nameIndex := 361, descriptorIndex := 339, attributes := #[] }, { accessFlags := 26, nameIndex := 364, descriptorIndex := 339, attributes := #[] }, { accessFlags := 26, nameIndex := 365, descriptorIndex := 339, attributes := #[] }, { accessFlags := 26, nameIndex := 172, descriptorIndex := 173, attributes := #[] }, { accessFlags := 26, nameIndex := 176, descriptorIndex := 173, attributes := #[] }, { accessFlags := 8, nameIndex := 344, descriptorIndex := 339, attributes := #[] }, { accessFlags := 8, nameIndex := 338, descriptorIndex := 339, attributes := #[] }, { accessFlags := 4120, nameIndex := 245, descriptorIndex := 246, attributes := #[] }])
  fields := #[{ name := "E", type := .double, accessFlags := 25, slot := 0, constantValue := 0 }, { name := "PI", type := .double, accessFlags := 25, slot := 1, constantValue := 0 }, { name := "TAU", type := .double, accessFlags := 25, slot := 2, constantValue := 0 }, { name := "DEGREES_TO_RADIANS", type := .double, accessFlags := 26, slot := 3, constantValue := 0 }, { name := "RADIANS_TO_DEGREES", type := .double, accessFlags := 26, slot := 4, constantValue := 0 }, { name := "negativeZeroFloatBits", type := .long, accessFlags := 26, slot := 5, constantValue := 0 }, { name := "negativeZeroDoubleBits", type := .long, accessFlags := 26, slot := 6, constantValue := 0 }, { name := "twoToTheDoubleScaleUp", type := .double, accessFlags := 8, slot := 7, constantValue := 0 }, { name := "twoToTheDoubleScaleDown", type := .double, accessFlags := 8, slot := 8, constantValue := 0 }, { name := "$assertionsDisabled", type := .boolean, accessFlags := 4120, slot := 9, constantValue := 0 }]
  methods := #[k18m0, k18m1]
  instanceTypes := #[]
  staticTypes := #[.double, .double, .double, .double, .double, .long, .long, .double, .double, .boolean]
  resolved := Array.replicate 460 none
  statics := none }

def pool19 : Array CpInfo := pool [(1, .methodref 2 3), (0, .class_ 4), (0, .nameAndType 5 6), (0, u "com/example/bindwell/bindwell/collect/ListChange"), (0, u "<init>"), (0, u "(Ljava/util/List;[ILjava/util/List;[I[I)V"), (0, .methodref 8 9), (0, .class_ 10), (0, .nameAndType 5 11), (0, u "java/lang/Object"), (0, u "()V"), (0, .fieldref 2 13), (0, .nameAndType 14 15), (0, u "removed"), (0, u "Ljava/util/List;"), (0, .fieldref 2 17), (0, .nameAndType 18 19), (0, u "removedAt"), (0, u "[I"), (0, .fieldref 2 21), (0, .nameAndType 22 15), (0, u "added"), (0, .fieldref 2 24), (0, .nameAndType 25 19), (0, u "addedAt"), (0, .fieldref 2 27), (0, .nameAndType 28 19), (0, u "movedTo"), (8, u "NO_INDICES"), (7, u "(II)[I"), (2, u "(Ljava/util/List;[ILjava/util/List;[I)V"), (35, u "number"), (0, u "J"), (72, u "movesFrom")] 22

def k19c0 : Code := { maxStack := 6, maxLocals := 5, code := prog_22_method_1_code, exceptionTable := #[], attributes := #[] }
def k19m0 : Method := { name := "<init>", desc := "(Ljava/util/List;[ILjava/util/List;[I)V", sig := { parameters := [(.object "java/util/List"), (.array .int), (.object "java/util/List"), (.array .int)], returnType := none }, accessFlags := 0, code := some k19c0 }
def k19c1 : Code := { maxStack := 2, maxLocals := 6, code := prog_22_method_2_code, exceptionTable := #[], attributes := #[] }
def k19m1 : Method := { name := "<init>", desc := "(Ljava/util/List;[ILjava/util/List;[I[I)V", sig := { parameters := [(.object "java/util/List"), (.array .int), (.object "java/util/List"), (.array .int), (.array .int)], returnType := none }, accessFlags := 2, code := some k19c1 }
def k19c2 : Code := { maxStack := 4, maxLocals := 8, code := prog_22_method_18_code, exceptionTable := #[], attributes := #[] }
def k19m2 : Method := { name := "movesFrom", desc := "(II)[I", sig := { parameters := [.int, .int], returnType := some (.array .int) }, accessFlags := 0, code := some k19c2 }
/-- com/example/bindwell/bindwell/collect/ListChange -/
def k19 : Class := { plain "com/example/bindwell/bindwell/collect/ListChange" (some 0) with
  accessFlags := 49
  interfaces := #[]
  cf := some (fileOf pool19 2 #[] #[{ accessFlags := 0, nameIndex := 5, descriptorIndex := 48, attributes := #[] }, { accessFlags := 2, nameIndex := 5, descriptorIndex := 6, attributes := #[] }, { accessFlags := 0, nameIndex := 158, descriptorIndex := 45, attributes := #[] }] 49 8 #[] #[{ accessFlags := 24, nameIndex := 37, descriptorIndex := 19, attributes := #[] }, { accessFlags := 18, nameIndex := 14, descriptorIndex := 15, attributes := #[] }, { accessFlags := 18, nameIndex := 18, descriptorIndex := 19, attributes := #[] }, { accessFlags := 18, nameIndex := 22, descriptorIndex := 15, attributes := #[] }, { accessFlags := 18, nameIndex := 25, descriptorIndex := 19, attributes := #[] }, { accessFlags := 18, nameIndex := 28, descriptorIndex := 19, attributes := #[] }, { accessFlags := 2, nameIndex := 84, descriptorIndex := 85, attributes := #[] }])
  fields := #[{ name := "NO_INDICES", type := (.array .int), accessFlags := 24, slot := 0, constantValue := 0 }, { name := "removed", type := (.object "java/util/List"), accessFlags := 18, slot := 0, constantValue := 0 }, { name := "removedAt", type := (.array .int), accessFlags := 18, slot := 1, constantValue := 0 }, { name := "added", type := (.object "java/util/List"), accessFlags := 18, slot := 2, constantValue := 0 }, { name := "addedAt", type := (.array .int), accessFlags := 18, slot := 3, constantValue := 0 }, { name := "movedTo", type := (.array .int), accessFlags := 18, slot := 4, constantValue := 0 }, { name := "number", type := .long, accessFlags := 2, slot := 5, constantValue := 0 }]
  methods := #[k19m0, k19m1, k19m2]
  instanceTypes := #[(.object "java/util/List"), (.array .int), (.object "java/util/List"), (.array .int), (.array .int), .long]
  staticTypes := #[(.array .int)]
  resolved := Array.replicate 181 none
  statics := none }

/-- the primitive byte -/
def k20 : Class := { plain "byte" none with kind := .primitive 'B', accessFlags := 0x411 }
/-- [B -/
def k21 : Class := { plain "[B" (some 0) with kind := .array 20 .byte, interfaces := #[9, 10], accessFlags := 1041 }

/-- the primitive int -/
def k22 : Class := { plain "int" none with kind := .primitive 'I', accessFlags := 0x411 }
/-- [I -/
def k23 : Class := { plain "[I" (some 0) with kind := .array 22 .int, interfaces := #[9, 10], accessFlags := 1041 }

/-- [Ljava/lang/Integer; -/
def k24 : Class := { plain "[Ljava/lang/Integer;" (some 0) with kind := .array 16 (.object "java/lang/Integer"), interfaces := #[9, 10], accessFlags := 1041 }

/-- [Ljava/lang/Object; -/
def k25 : Class := { plain "[Ljava/lang/Object;" (some 0) with kind := .array 0 (.object "java/lang/Object"), interfaces := #[9, 10], accessFlags := 1041 }

def heap : Heap := #[{ cls := 11, slots := #[.long 0, .int 0, .ref 259, .ref 260], vm := .statics 11 },
  { cls := 17, slots := #[.int 0, .int 127, .ref 2, .null, .int 0], vm := .statics 17 },
  { cls := 24, slots := #[.ref 3, .ref 4, .ref 5, .ref 6, .ref 7, .ref 8, .ref 9, .ref 10, .ref 11, .ref 12, .ref 13, .ref 14, .ref 15, .ref 16, .ref 17, .ref 18, .ref 19, .ref 20, .ref 21, .ref 22, .ref 23, .ref 24, .ref 25, .ref 26, .ref 27, .ref 28, .ref 29, .ref 30, .ref 31, .ref 32, .ref 33, .ref 34, .ref 35, .ref 36, .ref 37, .ref 38, .ref 39, .ref 40, .ref 41, .ref 42, .ref 43, .ref 44, .ref 45, .ref 46, .ref 47, .ref 48, .ref 49, .ref 50, .ref 51, .ref 52, .ref 53, .ref 54, .ref 55, .ref 56, .ref 57, .ref 58, .ref 59, .ref 60, .ref 61, .ref 62, .ref 63, .ref 64, .ref 65, .ref 66, .ref 67, .ref 68, .ref 69, .ref 70, .ref 71, .ref 72, .ref 73, .ref 74, .ref 75, .ref 76, .ref 77, .ref 78, .ref 79, .ref 80, .ref 81, .ref 82, .ref 83, .ref 84, .ref 85, .ref 86, .ref 87, .ref 88, .ref 89, .ref 90, .ref 91, .ref 92, .ref 93, .ref 94, .ref 95, .ref 96, .ref 97, .ref 98, .ref 99, .ref 100, .ref 101, .ref 102, .ref 103, .ref 104, .ref 105, .ref 106, .ref 107, .ref 108, .ref 109, .ref 110, .ref 111, .ref 112, .ref 113, .ref 114, .ref 115, .ref 116, .ref 117, .ref 118, .ref 119, .ref 120, .ref 121, .ref 122, .ref 123, .ref 124, .ref 125, .ref 126, .ref 127, .ref 128, .ref 129, .ref 130, .ref 131, .ref 132, .ref 133, .ref 134, .ref 135, .ref 136, .ref 137, .ref 138, .ref 139, .ref 140, .ref 141, .ref 142, .ref 143, .ref 144, .ref 145, .ref 146, .ref 147, .ref 148, .ref 149, .ref 150, .ref 151, .ref 152, .ref 153, .ref 154, .ref 155, .ref 156, .ref 157, .ref 158, .ref 159, .ref 160, .ref 161, .ref 162, .ref 163, .ref 164, .ref 165, .ref 166, .ref 167, .ref 168, .ref 169, .ref 170, .ref 171, .ref 172, .ref 173, .ref 174, .ref 175, .ref 176, .ref 177, .ref 178, .ref 179, .ref 180, .ref 181, .ref 182, .ref 183, .ref 184, .ref 185, .ref 186, .ref 187, .ref 188, .ref 189, .ref 190, .ref 191, .ref 192, .ref 193, .ref 194, .ref 195, .ref 196, .ref 197, .ref 198, .ref 199, .ref 200, .ref 201, .ref 202, .ref 203, .ref 204, .ref 205, .ref 206, .ref 207, .ref 208, .ref 209, .ref 210, .ref 211, .ref 212, .ref 213, .ref 214, .ref 215, .ref 216, .ref 217, .ref 218, .ref 219, .ref 220, .ref 221, .ref 222, .ref 223, .ref 224, .ref 225, .ref 226, .ref 227, .ref 228, .ref 229, .ref 230, .ref 231, .ref 232, .ref 233, .ref 234, .ref 235, .ref 236, .ref 237, .ref 238, .ref 239, .ref 240, .ref 241, .ref 242, .ref 243, .ref 244, .ref 245, .ref 246, .ref 247, .ref 248, .ref 249, .ref 250, .ref 251, .ref 252, .ref 253, .ref 254, .ref 255, .ref 256, .ref 257, .ref 258], vm := .none },
  { cls := 16, slots := #[.int (-128)], vm := .none },
  { cls := 16, slots := #[.int (-127)], vm := .none },
  { cls := 16, slots := #[.int (-126)], vm := .none },
  { cls := 16, slots := #[.int (-125)], vm := .none },
  { cls := 16, slots := #[.int (-124)], vm := .none },
  { cls := 16, slots := #[.int (-123)], vm := .none },
  { cls := 16, slots := #[.int (-122)], vm := .none },
  { cls := 16, slots := #[.int (-121)], vm := .none },
  { cls := 16, slots := #[.int (-120)], vm := .none },
  { cls := 16, slots := #[.int (-119)], vm := .none },
  { cls := 16, slots := #[.int (-118)], vm := .none },
  { cls := 16, slots := #[.int (-117)], vm := .none },
  { cls := 16, slots := #[.int (-116)], vm := .none },
  { cls := 16, slots := #[.int (-115)], vm := .none },
  { cls := 16, slots := #[.int (-114)], vm := .none },
  { cls := 16, slots := #[.int (-113)], vm := .none },
  { cls := 16, slots := #[.int (-112)], vm := .none },
  { cls := 16, slots := #[.int (-111)], vm := .none },
  { cls := 16, slots := #[.int (-110)], vm := .none },
  { cls := 16, slots := #[.int (-109)], vm := .none },
  { cls := 16, slots := #[.int (-108)], vm := .none },
  { cls := 16, slots := #[.int (-107)], vm := .none },
  { cls := 16, slots := #[.int (-106)], vm := .none },
  { cls := 16, slots := #[.int (-105)], vm := .none },
  { cls := 16, slots := #[.int (-104)], vm := .none },
  { cls := 16, slots := #[.int (-103)], vm := .none },
  { cls := 16, slots := #[.int (-102)], vm := .none },
  { cls := 16, slots := #[.int (-101)], vm := .none },
  { cls := 16, slots := #[.int (-100)], vm := .none },
  { cls := 16, slots := #[.int (-99)], vm := .none },
  { cls := 16, slots := #[.int (-98)], vm := .none },
  { cls := 16, slots := #[.int (-97)], vm := .none },
  { cls := 16, slots := #[.int (-96)], vm := .none },
  { cls := 16, slots := #[.int (-95)], vm := .none },
  { cls := 16, slots := #[.int (-94)], vm := .none },
  { cls := 16, slots := #[.int (-93)], vm := .none },
  { cls := 16, slots := #[.int (-92)], vm := .none },
  { cls := 16, slots := #[.int (-91)], vm := .none },
  { cls := 16, slots := #[.int (-90)], vm := .none },
  { cls := 16, slots := #[.int (-89)], vm := .none },
  { cls := 16, slots := #[.int (-88)], vm := .none },
  { cls := 16, slots := #[.int (-87)], vm := .none },
  { cls := 16, slots := #[.int (-86)], vm := .none },
  { cls := 16, slots := #[.int (-85)], vm := .none },
  { cls := 16, slots := #[.int (-84)], vm := .none },
  { cls := 16, slots := #[.int (-83)], vm := .none },
  { cls := 16, slots := #[.int (-82)], vm := .none },
  { cls := 16, slots := #[.int (-81)], vm := .none },
  { cls := 16, slots := #[.int (-80)], vm := .none },
  { cls := 16, slots := #[.int (-79)], vm := .none },
  { cls := 16, slots := #[.int (-78)], vm := .none },
  { cls := 16, slots := #[.int (-77)], vm := .none },
  { cls := 16, slots := #[.int (-76)], vm := .none },
  { cls := 16, slots := #[.int (-75)], vm := .none },
  { cls := 16, slots := #[.int (-74)], vm := .none },
  { cls := 16, slots := #[.int (-73)], vm := .none },
  { cls := 16, slots := #[.int (-72)], vm := .none },
  { cls := 16, slots := #[.int (-71)], vm := .none },
  { cls := 16, slots := #[.int (-70)], vm := .none },
  { cls := 16, slots := #[.int (-69)], vm := .none },
  { cls := 16, slots := #[.int (-68)], vm := .none },
  { cls := 16, slots := #[.int (-67)], vm := .none },
  { cls := 16, slots := #[.int (-66)], vm := .none },
  { cls := 16, slots := #[.int (-65)], vm := .none },
  { cls := 16, slots := #[.int (-64)], vm := .none },
  { cls := 16, slots := #[.int (-63)], vm := .none },
  { cls := 16, slots := #[.int (-62)], vm := .none },
  { cls := 16, slots := #[.int (-61)], vm := .none },
  { cls := 16, slots := #[.int (-60)], vm := .none },
  { cls := 16, slots := #[.int (-59)], vm := .none },
  { cls := 16, slots := #[.int (-58)], vm := .none },
  { cls := 16, slots := #[.int (-57)], vm := .none },
  { cls := 16, slots := #[.int (-56)], vm := .none },
  { cls := 16, slots := #[.int (-55)], vm := .none },
  { cls := 16, slots := #[.int (-54)], vm := .none },
  { cls := 16, slots := #[.int (-53)], vm := .none },
  { cls := 16, slots := #[.int (-52)], vm := .none },
  { cls := 16, slots := #[.int (-51)], vm := .none },
  { cls := 16, slots := #[.int (-50)], vm := .none },
  { cls := 16, slots := #[.int (-49)], vm := .none },
  { cls := 16, slots := #[.int (-48)], vm := .none },
  { cls := 16, slots := #[.int (-47)], vm := .none },
  { cls := 16, slots := #[.int (-46)], vm := .none },
  { cls := 16, slots := #[.int (-45)], vm := .none },
  { cls := 16, slots := #[.int (-44)], vm := .none },
  { cls := 16, slots := #[.int (-43)], vm := .none },
  { cls := 16, slots := #[.int (-42)], vm := .none },
  { cls := 16, slots := #[.int (-41)], vm := .none },
  { cls := 16, slots := #[.int (-40)], vm := .none },
  { cls := 16, slots := #[.int (-39)], vm := .none },
  { cls := 16, slots := #[.int (-38)], vm := .none },
  { cls := 16, slots := #[.int (-37)], vm := .none },
  { cls := 16, slots := #[.int (-36)], vm := .none },
  { cls := 16, slots := #[.int (-35)], vm := .none },
  { cls := 16, slots := #[.int (-34)], vm := .none },
  { cls := 16, slots := #[.int (-33)], vm := .none },
  { cls := 16, slots := #[.int (-32)], vm := .none },
  { cls := 16, slots := #[.int (-31)], vm := .none },
  { cls := 16, slots := #[.int (-30)], vm := .none },
  { cls := 16, slots := #[.int (-29)], vm := .none },
  { cls := 16, slots := #[.int (-28)], vm := .none },
  { cls := 16, slots := #[.int (-27)], vm := .none },
  { cls := 16, slots := #[.int (-26)], vm := .none },
  { cls := 16, slots := #[.int (-25)], vm := .none },
  { cls := 16, slots := #[.int (-24)], vm := .none },
  { cls := 16, slots := #[.int (-23)], vm := .none },
  { cls := 16, slots := #[.int (-22)], vm := .none },
  { cls := 16, slots := #[.int (-21)], vm := .none },
  { cls := 16, slots := #[.int (-20)], vm := .none },
  { cls := 16, slots := #[.int (-19)], vm := .none },
  { cls := 16, slots := #[.int (-18)], vm := .none },
  { cls := 16, slots := #[.int (-17)], vm := .none },
  { cls := 16, slots := #[.int (-16)], vm := .none },
  { cls := 16, slots := #[.int (-15)], vm := .none },
  { cls := 16, slots := #[.int (-14)], vm := .none },
  { cls := 16, slots := #[.int (-13)], vm := .none },
  { cls := 16, slots := #[.int (-12)], vm := .none },
  { cls := 16, slots := #[.int (-11)], vm := .none },
  { cls := 16, slots := #[.int (-10)], vm := .none },
  { cls := 16, slots := #[.int (-9)], vm := .none },
  { cls := 16, slots := #[.int (-8)], vm := .none },
  { cls := 16, slots := #[.int (-7)], vm := .none },
  { cls := 16, slots := #[.int (-6)], vm := .none },
  { cls := 16, slots := #[.int (-5)], vm := .none },
  { cls := 16, slots := #[.int (-4)], vm := .none },
  { cls := 16, slots := #[.int (-3)], vm := .none },
  { cls := 16, slots := #[.int (-2)], vm := .none },
  { cls := 16, slots := #[.int (-1)], vm := .none },
  { cls := 16, slots := #[.int 0], vm := .none },
  { cls := 16, slots := #[.int 1], vm := .none },
  { cls := 16, slots := #[.int 2], vm := .none },
  { cls := 16, slots := #[.int 3], vm := .none },
  { cls := 16, slots := #[.int 4], vm := .none },
  { cls := 16, slots := #[.int 5], vm := .none },
  { cls := 16, slots := #[.int 6], vm := .none },
  { cls := 16, slots := #[.int 7], vm := .none },
  { cls := 16, slots := #[.int 8], vm := .none },
  { cls := 16, slots := #[.int 9], vm := .none },
  { cls := 16, slots := #[.int 10], vm := .none },
  { cls := 16, slots := #[.int 11], vm := .none },
  { cls := 16, slots := #[.int 12], vm := .none },
  { cls := 16, slots := #[.int 13], vm := .none },
  { cls := 16, slots := #[.int 14], vm := .none },
  { cls := 16, slots := #[.int 15], vm := .none },
  { cls := 16, slots := #[.int 16], vm := .none },
  { cls := 16, slots := #[.int 17], vm := .none },
  { cls := 16, slots := #[.int 18], vm := .none },
  { cls := 16, slots := #[.int 19], vm := .none },
  { cls := 16, slots := #[.int 20], vm := .none },
  { cls := 16, slots := #[.int 21], vm := .none },
  { cls := 16, slots := #[.int 22], vm := .none },
  { cls := 16, slots := #[.int 23], vm := .none },
  { cls := 16, slots := #[.int 24], vm := .none },
  { cls := 16, slots := #[.int 25], vm := .none },
  { cls := 16, slots := #[.int 26], vm := .none },
  { cls := 16, slots := #[.int 27], vm := .none },
  { cls := 16, slots := #[.int 28], vm := .none },
  { cls := 16, slots := #[.int 29], vm := .none },
  { cls := 16, slots := #[.int 30], vm := .none },
  { cls := 16, slots := #[.int 31], vm := .none },
  { cls := 16, slots := #[.int 32], vm := .none },
  { cls := 16, slots := #[.int 33], vm := .none },
  { cls := 16, slots := #[.int 34], vm := .none },
  { cls := 16, slots := #[.int 35], vm := .none },
  { cls := 16, slots := #[.int 36], vm := .none },
  { cls := 16, slots := #[.int 37], vm := .none },
  { cls := 16, slots := #[.int 38], vm := .none },
  { cls := 16, slots := #[.int 39], vm := .none },
  { cls := 16, slots := #[.int 40], vm := .none },
  { cls := 16, slots := #[.int 41], vm := .none },
  { cls := 16, slots := #[.int 42], vm := .none },
  { cls := 16, slots := #[.int 43], vm := .none },
  { cls := 16, slots := #[.int 44], vm := .none },
  { cls := 16, slots := #[.int 45], vm := .none },
  { cls := 16, slots := #[.int 46], vm := .none },
  { cls := 16, slots := #[.int 47], vm := .none },
  { cls := 16, slots := #[.int 48], vm := .none },
  { cls := 16, slots := #[.int 49], vm := .none },
  { cls := 16, slots := #[.int 50], vm := .none },
  { cls := 16, slots := #[.int 51], vm := .none },
  { cls := 16, slots := #[.int 52], vm := .none },
  { cls := 16, slots := #[.int 53], vm := .none },
  { cls := 16, slots := #[.int 54], vm := .none },
  { cls := 16, slots := #[.int 55], vm := .none },
  { cls := 16, slots := #[.int 56], vm := .none },
  { cls := 16, slots := #[.int 57], vm := .none },
  { cls := 16, slots := #[.int 58], vm := .none },
  { cls := 16, slots := #[.int 59], vm := .none },
  { cls := 16, slots := #[.int 60], vm := .none },
  { cls := 16, slots := #[.int 61], vm := .none },
  { cls := 16, slots := #[.int 62], vm := .none },
  { cls := 16, slots := #[.int 63], vm := .none },
  { cls := 16, slots := #[.int 64], vm := .none },
  { cls := 16, slots := #[.int 65], vm := .none },
  { cls := 16, slots := #[.int 66], vm := .none },
  { cls := 16, slots := #[.int 67], vm := .none },
  { cls := 16, slots := #[.int 68], vm := .none },
  { cls := 16, slots := #[.int 69], vm := .none },
  { cls := 16, slots := #[.int 70], vm := .none },
  { cls := 16, slots := #[.int 71], vm := .none },
  { cls := 16, slots := #[.int 72], vm := .none },
  { cls := 16, slots := #[.int 73], vm := .none },
  { cls := 16, slots := #[.int 74], vm := .none },
  { cls := 16, slots := #[.int 75], vm := .none },
  { cls := 16, slots := #[.int 76], vm := .none },
  { cls := 16, slots := #[.int 77], vm := .none },
  { cls := 16, slots := #[.int 78], vm := .none },
  { cls := 16, slots := #[.int 79], vm := .none },
  { cls := 16, slots := #[.int 80], vm := .none },
  { cls := 16, slots := #[.int 81], vm := .none },
  { cls := 16, slots := #[.int 82], vm := .none },
  { cls := 16, slots := #[.int 83], vm := .none },
  { cls := 16, slots := #[.int 84], vm := .none },
  { cls := 16, slots := #[.int 85], vm := .none },
  { cls := 16, slots := #[.int 86], vm := .none },
  { cls := 16, slots := #[.int 87], vm := .none },
  { cls := 16, slots := #[.int 88], vm := .none },
  { cls := 16, slots := #[.int 89], vm := .none },
  { cls := 16, slots := #[.int 90], vm := .none },
  { cls := 16, slots := #[.int 91], vm := .none },
  { cls := 16, slots := #[.int 92], vm := .none },
  { cls := 16, slots := #[.int 93], vm := .none },
  { cls := 16, slots := #[.int 94], vm := .none },
  { cls := 16, slots := #[.int 95], vm := .none },
  { cls := 16, slots := #[.int 96], vm := .none },
  { cls := 16, slots := #[.int 97], vm := .none },
  { cls := 16, slots := #[.int 98], vm := .none },
  { cls := 16, slots := #[.int 99], vm := .none },
  { cls := 16, slots := #[.int 100], vm := .none },
  { cls := 16, slots := #[.int 101], vm := .none },
  { cls := 16, slots := #[.int 102], vm := .none },
  { cls := 16, slots := #[.int 103], vm := .none },
  { cls := 16, slots := #[.int 104], vm := .none },
  { cls := 16, slots := #[.int 105], vm := .none },
  { cls := 16, slots := #[.int 106], vm := .none },
  { cls := 16, slots := #[.int 107], vm := .none },
  { cls := 16, slots := #[.int 108], vm := .none },
  { cls := 16, slots := #[.int 109], vm := .none },
  { cls := 16, slots := #[.int 110], vm := .none },
  { cls := 16, slots := #[.int 111], vm := .none },
  { cls := 16, slots := #[.int 112], vm := .none },
  { cls := 16, slots := #[.int 113], vm := .none },
  { cls := 16, slots := #[.int 114], vm := .none },
  { cls := 16, slots := #[.int 115], vm := .none },
  { cls := 16, slots := #[.int 116], vm := .none },
  { cls := 16, slots := #[.int 117], vm := .none },
  { cls := 16, slots := #[.int 118], vm := .none },
  { cls := 16, slots := #[.int 119], vm := .none },
  { cls := 16, slots := #[.int 120], vm := .none },
  { cls := 16, slots := #[.int 121], vm := .none },
  { cls := 16, slots := #[.int 122], vm := .none },
  { cls := 16, slots := #[.int 123], vm := .none },
  { cls := 16, slots := #[.int 124], vm := .none },
  { cls := 16, slots := #[.int 125], vm := .none },
  { cls := 16, slots := #[.int 126], vm := .none },
  { cls := 16, slots := #[.int 127], vm := .none },
  { cls := 25, slots := #[], vm := .none },
  { cls := 25, slots := #[], vm := .none }]
def classes : Array Class := #[k0, k1, k2, k3, k4, k5, k6, k7, k8, k9, k10, k11, k12, k13, k14, k15, k16, k17, k18, k19, k20, k21, k22, k23, k24, k25]
def interned : List (Array UInt16 × Addr) := []
def slotsUsed : Nat := 521
def theMethod : MethodId := ⟨1, 1⟩
def args0 : Array Value := #[.int 3, .int 4, .int 5, .int 6]
def aboutOver (below : List Frame) : State where
  vm := { classes := classes, interned := interned.toArray }
  heap := heap
  slotsUsed := slotsUsed
  threads := #[{ frames := .invoking theMethod args0 :: below }]
def below0 : List Frame := [.native { method := ⟨0, 0⟩, args := #[] }]
def about1 : State := aboutOver below0
def p0 : Program := .bare "" "" ""
def e0 : Env := launch0.env 0 0 0
theorem w_frames : about1.frames = Frame.invoking theMethod args0 :: below0 := rfl
set_option maxRecDepth 65536 in
theorem w_args : argsFit about1.vm theMethod args0 = true := by decide +kernel
set_option maxRecDepth 65536 in
theorem w_heap : heapFits about1 = true := by decide +kernel
set_option maxRecDepth 65536 in
theorem w_runnable : about1.curStatus? = some .runnable := by decide +kernel
set_option maxRecDepth 65536 in
theorem w_alone : about1.alone = true := by decide +kernel
set_option maxRecDepth 65536 in
theorem w_named : about1.methodNamed? x = some theMethod := by decide +kernel
set_option maxRecDepth 65536 in
theorem w_hears : about1.hears theMethod below0 = true := by decide +kernel
set_option maxRecDepth 65536 in
theorem w_ripe : about1.ripe theMethod args0 below0 = true := by decide +kernel
theorem w_running : about1.status = .running := rfl
set_option maxRecDepth 65536 in
theorem w_room : about1.hasRoom e0.platform room_1 = true :=
  launch0.hasRoom_least _ room_1 (by decide +kernel) (by decide +kernel) (by decide +kernel) (by decide +kernel) (by decide +kernel) (by decide +kernel)
theorem allAtoms_all (ts : List Jvm.Cond) (a : Array Jvm.Value) (st : Jvm.State) : (allAtoms ts).before a st = ts.all (fun c => c.before a st) := by
  induction ts with
  | nil => rfl
  | cons c t ih =>
    show (Jvm.Cond.and c (allAtoms t)).before a st = _
    rw [Jvm.Cond.before_and, ih, List.all_cons]
def words1 : List Jvm.Cond := Jvm.Cond.code x code maxLocals ret :: tables_1
/-- a 'code' word, met by the world's own term for the bytes: nothing is compared byte by byte -/
theorem code_word {y : MethodName} {bytes : ByteArray} {mx : Nat} {rt : Option FieldType} {a : Array Value} {s : State} {m : MethodId} {meth : Method} {c : Code} (h1 : s.methodNamed? y = some m) (h2 : s.vm.method? m = some meth) (h3 : meth.code = some c) (h4 : c.code = bytes)
    (h5 : (c.maxLocals == mx && c.exceptionTable.isEmpty && decide (c.maxStack ≤ mostOperands) && decide (meth.sig.returnType = rt) && !meth.locks && decide (parseMethodDescriptor y.desc = some meth.sig)) = true) : (Jvm.Cond.code y bytes mx rt).before a s = true := by
  simp only [Bool.and_eq_true, beq_iff_eq, Bool.not_eq_true', decide_eq_true_eq] at h5
  obtain ⟨⟨⟨⟨⟨g1, g2⟩, g3⟩, g4⟩, g5⟩, g6⟩ := h5
  simp [Cond.before, Cond.holds, Cond.value, h1, h2, h3, h4, g1, g2, g3, g4, g5, g6]
def isCode : Jvm.Cond → Bool
  | .code _ _ _ _ => true
  | _ => false
theorem all_split {L : List Jvm.Cond} {P : Jvm.Cond → Bool} (h1 : L.all (fun c => isCode c || P c) = true) (h2 : ∀ c ∈ L.filter isCode, P c = true) : L.all P = true := by
  refine List.all_eq_true.mpr fun c hc => ?_
  have h := List.all_eq_true.mp h1 c hc
  rcases Bool.eq_false_or_eq_true (isCode c) with hi | hi
  · exact h2 c (List.mem_filter.mpr ⟨hc, hi⟩)
  · simpa [hi] using h
set_option maxRecDepth 65536 in
theorem w_c0 : (Jvm.Cond.code x code maxLocals ret).before args0 about1 = true := code_word (m := ⟨1, 1⟩) (meth := k1m1) (c := k1c1) (by decide +kernel) rfl rfl rfl (by decide +kernel)
set_option maxRecDepth 65536 in
theorem w_c1 : (Jvm.Cond.code ({ cls := "com/example/bindwell/bindwell/collect/ListChangeMovesFromPinLaw", name := "pc", desc := "(I)I" } : Jvm.MethodName) method_3_code (1 : Nat) (Option.some Jvm.ClassFile.FieldType.int)).before args0 about1 = true := code_word (m := ⟨1, 2⟩) (meth := k1m2) (c := k1c2) (by decide +kernel) rfl rfl rfl (by decide +kernel)
set_option maxRecDepth 65536 in
theorem w_c2 : (Jvm.Cond.code ({ cls := "com/example/bindwell/bindwell/collect/ListChangeMovesFromPinLaw", name := "fill", desc := "([III)V" } : Jvm.MethodName) method_4_code (4 : Nat) (Option.none : Option Jvm.ClassFile.FieldType)).before args0 about1 = true := code_word (m := ⟨1, 3⟩) (meth := k1m3) (c := k1c3) (by decide +kernel) rfl rfl rfl (by decide +kernel)
set_option maxRecDepth 65536 in
theorem w_c3 : (Jvm.Cond.code ({ cls := "com/example/bindwell/bindwell/collect/ListChangeMovesFromPinLaw", name := "items", desc := "(I)Ljava/util/ArrayList;" } : Jvm.MethodName) method_5_code (2 : Nat) (Option.some (Jvm.ClassFile.FieldType.object "java/util/ArrayList"))).before args0 about1 = true := code_word (m := ⟨1, 4⟩) (meth := k1m4) (c := k1c4) (by decide +kernel) rfl rfl rfl (by decide +kernel)
set_option maxRecDepth 65536 in
theorem w_c4 : (Jvm.Cond.code ({ cls := "java/util/ArrayList", name := "<init>", desc := "()V" } : Jvm.MethodName) jdk_38_method_2_code (1 : Nat) (Option.none : Option Jvm.ClassFile.FieldType)).before args0 about1 = true := code_word (m := ⟨11, 0⟩) (meth := k11m0) (c := k11c0) (by decide +kernel) rfl rfl rfl (by decide +kernel)
set_option maxRecDepth 65536 in
theorem w_c5 : (Jvm.Cond.code ({ cls := "java/util/AbstractList", name := "<init>", desc := "()V" } : Jvm.MethodName) jdk_39_method_1_code (1 : Nat) (Option.none : Option Jvm.ClassFile.FieldType)).before args0 about1 = true := code_word (m := ⟨7, 0⟩) (meth := k7m0) (c := k7c0) (by decide +kernel) rfl rfl rfl (by decide +kernel)
set_option maxRecDepth 65536 in
theorem w_c6 : (Jvm.Cond.code ({ cls := "java/util/AbstractCollection", name := "<init>", desc := "()V" } : Jvm.MethodName) jdk_22_method_1_code (1 : Nat) (Option.none : Option Jvm.ClassFile.FieldType)).before args0 about1 = true := code_word (m := ⟨4, 0⟩) (meth := k4m0) (c := k4c0) (by decide +kernel) rfl rfl rfl (by decide +kernel)
set_option maxRecDepth 65536 in
theorem w_c7 : (Jvm.Cond.code ({ cls := "java/lang/Object", name := "<init>", desc := "()V" } : Jvm.MethodName) object_method_1_code (1 : Nat) (Option.none : Option Jvm.ClassFile.FieldType)).before args0 about1 = true := code_word (m := ⟨0, 0⟩) (meth := k0m0) (c := k0c0) (by decide +kernel) rfl rfl rfl (by decide +kernel)
set_option maxRecDepth 65536 in
theorem w_c8 : (Jvm.Cond.code ({ cls := "java/lang/Integer", name := "valueOf", desc := "(I)Ljava/lang/Integer;" } : Jvm.MethodName) jdk_33_method_22_code (1 : Nat) (Option.some (Jvm.ClassFile.FieldType.object "java/lang/Integer"))).before args0 about1 = true := code_word (m := ⟨16, 0⟩) (meth := k16m0) (c := k16c0) (by decide +kernel) rfl rfl rfl (by decide +kernel)
set_option maxRecDepth 65536 in
theorem w_c9 : (Jvm.Cond.code ({ cls := "java/util/ArrayList", name := "add", desc := "(Ljava/lang/Object;)Z" } : Jvm.MethodName) jdk_38_method_25_code (2 : Nat) (Option.some Jvm.ClassFile.FieldType.boolean)).before args0 about1 = true := code_word (m := ⟨11, 4⟩) (meth := k11m4) (c := k11c4) (by decide +kernel) rfl rfl rfl (by decide +kernel)
set_option maxRecDepth 65536 in
theorem w_c10 : (Jvm.Cond.code ({ cls := "java/util/ArrayList", name := "add", desc := "(Ljava/lang/Object;[Ljava/lang/Object;I)V" } : Jvm.MethodName) jdk_38_method_24_code (4 : Nat) (Option.none : Option Jvm.ClassFile.FieldType)).before args0 about1 = true := code_word (m := ⟨11, 3⟩) (meth := k11m3) (c := k11c3) (by decide +kernel) rfl rfl rfl (by decide +kernel)
set_option maxRecDepth 65536 in
theorem w_c11 : (Jvm.Cond.code ({ cls := "java/util/ArrayList", name := "grow", desc := "()[Ljava/lang/Object;" } : Jvm.MethodName) jdk_38_method_7_code (1 : Nat) (Option.some (Jvm.ClassFile.FieldType.array (Jvm.ClassFile.FieldType.object "java/lang/Object")))).before args0 about1 = true := code_word (m := ⟨11, 2⟩) (meth := k11m2) (c := k11c2) (by decide +kernel) rfl rfl rfl (by decide +kernel)
set_option maxRecDepth 65536 in
theorem w_c12 : (Jvm.Cond.code ({ cls := "java/util/ArrayList", name := "grow", desc := "(I)[Ljava/lang/Object;" } : Jvm.MethodName) jdk_38_method_6_code (4 : Nat) (Option.some (Jvm.ClassFile.FieldType.array (Jvm.ClassFile.FieldType.object "java/lang/Object")))).before args0 about1 = true := code_word (m := ⟨11, 1⟩) (meth := k11m1) (c := k11c1) (by decide +kernel) rfl rfl rfl (by decide +kernel)
set_option maxRecDepth 65536 in
theorem w_c13 : (Jvm.Cond.code ({ cls := "java/lang/Math", name := "max", desc := "(II)I" } : Jvm.MethodName) jdk_29_method_65_code (2 : Nat) (Option.some Jvm.ClassFile.FieldType.int)).before args0 about1 = true := code_word (m := ⟨18, 1⟩) (meth := k18m1) (c := k18c1) (by decide +kernel) rfl rfl rfl (by decide +kernel)
set_option maxRecDepth 65536 in
theorem w_c14 : (Jvm.Cond.code ({ cls := "com/example/bindwell/bindwell/collect/ListChange", name := "<init>", desc := "(Ljava/util/List;[ILjava/util/List;[I)V" } : Jvm.MethodName) prog_22_method_1_code (5 : Nat) (Option.none : Option Jvm.ClassFile.FieldType)).before args0 about1 = true := code_word (m := ⟨19, 0⟩) (meth := k19m0) (c := k19c0) (by decide +kernel) rfl rfl rfl (by decide +kernel)
set_option maxRecDepth 65536 in
theorem w_c15 : (Jvm.Cond.code ({ cls := "com/example/bindwell/bindwell/collect/ListChange", name := "<init>", desc := "(Ljava/util/List;[ILjava/util/List;[I[I)V" } : Jvm.MethodName) prog_22_method_2_code (6 : Nat) (Option.none : Option Jvm.ClassFile.FieldType)).before args0 about1 = true := code_word (m := ⟨19, 1⟩) (meth := k19m1) (c := k19c1) (by decide +kernel) rfl rfl rfl (by decide +kernel)
set_option maxRecDepth 65536 in
theorem w_c16 : (Jvm.Cond.code ({ cls := "com/example/bindwell/bindwell/collect/ListChange", name := "movesFrom", desc := "(II)[I" } : Jvm.MethodName) prog_22_method_18_code (8 : Nat) (Option.some (Jvm.ClassFile.FieldType.array Jvm.ClassFile.FieldType.int))).before args0 about1 = true := code_word (m := ⟨19, 2⟩) (meth := k19m2) (c := k19c2) (by decide +kernel) rfl rfl rfl (by decide +kernel)
set_option maxRecDepth 65536 in
theorem w_c17 : (Jvm.Cond.code ({ cls := "com/example/bindwell/bindwell/collect/ListChangeMovesFromPinLaw", name := "ok", desc := "([IIIIII)Z" } : Jvm.MethodName) method_6_code (9 : Nat) (Option.some Jvm.ClassFile.FieldType.boolean)).before args0 about1 = true := code_word (m := ⟨1, 5⟩) (meth := k1m5) (c := k1c5) (by decide +kernel) rfl rfl rfl (by decide +kernel)
def codes1 : List Jvm.Cond := [Jvm.Cond.code x code maxLocals ret, Jvm.Cond.code ({ cls := "com/example/bindwell/bindwell/collect/ListChangeMovesFromPinLaw", name := "pc", desc := "(I)I" } : Jvm.MethodName) method_3_code (1 : Nat) (Option.some Jvm.ClassFile.FieldType.int), Jvm.Cond.code ({ cls := "com/example/bindwell/bindwell/collect/ListChangeMovesFromPinLaw", name := "fill", desc := "([III)V" } : Jvm.MethodName) method_4_code (4 : Nat) (Option.none : Option Jvm.ClassFile.FieldType), Jvm.Cond.code ({ cls := "com/example/bindwell/bindwell/collect/ListChangeMovesFromPinLaw", name := "items", desc := "(I)Ljava/util/ArrayList;" } : Jvm.MethodName) method_5_code (2 : Nat) (Option.some (Jvm.ClassFile.FieldType.object "java/util/ArrayList")), Jvm.Cond.code ({ cls := "java/util/ArrayList", name := "<init>", desc := "()V" } : Jvm.MethodName) jdk_38_method_2_code (1 : Nat) (Option.none : Option Jvm.ClassFile.FieldType), Jvm.Cond.code ({ cls := "java/util/AbstractList", name := "<init>", desc := "()V" } : Jvm.MethodName) jdk_39_method_1_code (1 : Nat) (Option.none : Option Jvm.ClassFile.FieldType), Jvm.Cond.code ({ cls := "java/util/AbstractCollection", name := "<init>", desc := "()V" } : Jvm.MethodName) jdk_22_method_1_code (1 : Nat) (Option.none : Option Jvm.ClassFile.FieldType), Jvm.Cond.code ({ cls := "java/lang/Object", name := "<init>", desc := "()V" } : Jvm.MethodName) object_method_1_code (1 : Nat) (Option.none : Option Jvm.ClassFile.FieldType), Jvm.Cond.code ({ cls := "java/lang/Integer", name := "valueOf", desc := "(I)Ljava/lang/Integer;" } : Jvm.MethodName) jdk_33_method_22_code (1 : Nat) (Option.some (Jvm.ClassFile.FieldType.object "java/lang/Integer")), Jvm.Cond.code ({ cls := "java/util/ArrayList", name := "add", desc := "(Ljava/lang/Object;)Z" } : Jvm.MethodName) jdk_38_method_25_code (2 : Nat) (Option.some Jvm.ClassFile.FieldType.boolean), Jvm.Cond.code ({ cls := "java/util/ArrayList", name := "add", desc := "(Ljava/lang/Object;[Ljava/lang/Object;I)V" } : Jvm.MethodName) jdk_38_method_24_code (4 : Nat) (Option.none : Option Jvm.ClassFile.FieldType), Jvm.Cond.code ({ cls := "java/util/ArrayList", name := "grow", desc := "()[Ljava/lang/Object;" } : Jvm.MethodName) jdk_38_method_7_code (1 : Nat) (Option.some (Jvm.ClassFile.FieldType.array (Jvm.ClassFile.FieldType.object "java/lang/Object"))), Jvm.Cond.code ({ cls := "java/util/ArrayList", name := "grow", desc := "(I)[Ljava/lang/Object;" } : Jvm.MethodName) jdk_38_method_6_code (4 : Nat) (Option.some (Jvm.ClassFile.FieldType.array (Jvm.ClassFile.FieldType.object "java/lang/Object"))), Jvm.Cond.code ({ cls := "java/lang/Math", name := "max", desc := "(II)I" } : Jvm.MethodName) jdk_29_method_65_code (2 : Nat) (Option.some Jvm.ClassFile.FieldType.int), Jvm.Cond.code ({ cls := "com/example/bindwell/bindwell/collect/ListChange", name := "<init>", desc := "(Ljava/util/List;[ILjava/util/List;[I)V" } : Jvm.MethodName) prog_22_method_1_code (5 : Nat) (Option.none : Option Jvm.ClassFile.FieldType), Jvm.Cond.code ({ cls := "com/example/bindwell/bindwell/collect/ListChange", name := "<init>", desc := "(Ljava/util/List;[ILjava/util/List;[I[I)V" } : Jvm.MethodName) prog_22_method_2_code (6 : Nat) (Option.none : Option Jvm.ClassFile.FieldType), Jvm.Cond.code ({ cls := "com/example/bindwell/bindwell/collect/ListChange", name := "movesFrom", desc := "(II)[I" } : Jvm.MethodName) prog_22_method_18_code (8 : Nat) (Option.some (Jvm.ClassFile.FieldType.array Jvm.ClassFile.FieldType.int)), Jvm.Cond.code ({ cls := "com/example/bindwell/bindwell/collect/ListChangeMovesFromPinLaw", name := "ok", desc := "([IIIIII)Z" } : Jvm.MethodName) method_6_code (9 : Nat) (Option.some Jvm.ClassFile.FieldType.boolean)]
set_option maxRecDepth 65536 in
theorem codes_eq : words1.filter isCode = codes1 := rfl
theorem w_codes : ∀ c ∈ words1.filter isCode, c.before args0 about1 = true := by
  rw [codes_eq]
  intro c hc
  simp only [codes1, List.mem_cons, List.not_mem_nil, or_false] at hc
  rcases hc with rfl | rfl | rfl | rfl | rfl | rfl | rfl | rfl | rfl | rfl | rfl | rfl | rfl | rfl | rfl | rfl | rfl | rfl
  · exact w_c0
  · exact w_c1
  · exact w_c2
  · exact w_c3
  · exact w_c4
  · exact w_c5
  · exact w_c6
  · exact w_c7
  · exact w_c8
  · exact w_c9
  · exact w_c10
  · exact w_c11
  · exact w_c12
  · exact w_c13
  · exact w_c14
  · exact w_c15
  · exact w_c16
  · exact w_c17
set_option maxRecDepth 65536 in
theorem w_t1 : (words1.take 24).all (fun c => isCode c || c.before args0 about1) = true := by decide +kernel
set_option maxRecDepth 65536 in
theorem w_t2 : ((words1.drop 24).take 24).all (fun c => isCode c || c.before args0 about1) = true := by decide +kernel
set_option maxRecDepth 65536 in
theorem w_t3 : (((words1.drop 24).drop 24).take 24).all (fun c => isCode c || c.before args0 about1) = true := by decide +kernel
set_option maxRecDepth 65536 in
theorem w_t4 : ((((words1.drop 24).drop 24).drop 24).take 24).all (fun c => isCode c || c.before args0 about1) = true := by decide +kernel
set_option maxRecDepth 65536 in
theorem w_t5 : ((((words1.drop 24).drop 24).drop 24).drop 24).all (fun c => isCode c || c.before args0 about1) = true := by decide +kernel
theorem w_tables : (allAtoms (Jvm.Cond.code x code maxLocals ret :: tables_1)).before args0 about1 = true := by
  rw [allAtoms_all]
  show words1.all (fun c => c.before args0 about1) = true
  refine all_split ?_ w_codes
  rw [← List.take_append_drop 24 words1, List.all_append, w_t1, ← List.take_append_drop 24 (words1.drop 24), List.all_append, w_t2, ← List.take_append_drop 24 ((words1.drop 24).drop 24), List.all_append, w_t3, ← List.take_append_drop 24 (((words1.drop 24).drop 24).drop 24), List.all_append, w_t4, w_t5]
  rfl
set_option maxRecDepth 65536 in
theorem w_rest : rest_1_c.before args0 about1 = true := by decide +kernel
set_option maxRecDepth 65536 in
theorem w_case : (Jvm.Cond.and given_1 narrow_1).before args0 about1 = true := by decide +kernel
theorem w_applies : (headSpec (Jvm.Cond.code x code maxLocals ret :: tables_1) room_1).applies x e0.platform about1 = true :=
  (Spec.applies_iff w_frames).mpr ⟨w_running, w_runnable, w_alone, w_named, w_hears, w_ripe, w_room, w_tables⟩
theorem atStart : AtStart classFile x code maxLocals ret World_1 tables_1 room_1 Calls_1 rest_1 Pre_1 launch0 p0 e0 about1 theMethod args0 below0 :=
  ⟨lists_1, trivial, launch0.admits_env _ _ _, launch0.least_env, fairChoices_fair.cas, fairChoices_fair.clock, w_frames, w_args, w_heap, w_applies, trivial, w_rest, w_case⟩
end start1
theorem witness_1 : WitnessClaimed_1 := ⟨start1.p0, start1.e0, start1.about1, start1.theMethod, start1.args0, start1.below0, start1.atStart⟩
end Jvm.Pilot.@@N@@
