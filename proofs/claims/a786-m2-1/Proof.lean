import JvmDerived
import JvmDerived.Pilot.@@N@@Statement
import JvmDerived.Pilot.@@N@@Code
set_option linter.unusedVariables false
set_option linter.unusedSimpArgs false
@@BLOCK:NumsL.lean.txt@@
namespace Jvm.Pilot.@@N@@
open Jvm Jvm.ClassFile Sem Op Lib Jvm.Free Jvm.Stand Jvm.LawKit Jvm.RoadKit Bundle Jvm.Pilot.@@N@@.Jvm.D
/-! GoKit: a walk told forwards. Go: from this frame on the method comes to its end as Q says; Does: what a call of a method does (over the library's MetFree). -/
section GoKit
variable {p : Program} {l : Launch} {e : Env} {R : Room} {s : State} {m : MethodId} {args : Array Value} {below : List Frame} {meth : Method} {c : Code} {T T' : State} {locs : List Loc} {cells slots : Nat} {Z : State} {a0 : Array Value} {h : Heap} {g g' : JFrame} {Q : Outcome → State → Prop}
def Go (p : Program) (e : Env) (below : List Frame) (Q : Outcome → State → Prop) (T : State) (g : JFrame) : Prop :=
  ∃ s₂ o, Steps p.tables e below (T.setTop g) s₂ ∧ s₂.status = .running ∧ Ended s₂ below o ∧ Q o s₂
theorem Go.st (k : ∀ target, Steps p.tables e below (T'.setTop g') target → Steps p.tables e below (T.setTop g) target) (H : Go p e below Q T' g') : Go p e below Q T g := by
  obtain ⟨s₂, o, h1, r⟩ := H; exact ⟨s₂, o, k _ h1, r⟩
theorem Go.eq (q : g = g') (H : Go p e below Q T g') : Go p e below Q T g := q ▸ H
def Ends (s : State) (k n : Nat) (P : Option Value → Heap → List Loc → Prop) : Outcome → State → Prop :=
  fun o U' => ∃ v L, o = .returned v ∧ P v U'.heap L ∧ FrameEnd s o U' L k n
theorem Go.ret (X : Stand p l e R s m args below meth c T locs cells slots) (hx : p.tables.exec = Jvm.exec) (hlk : meth.locks = false) {pc : Nat} {Ls : Array Slot} {w : Value} {t : FieldType} {i : Instr} {rest : List Value} {P : Option Value → Heap → List Loc → Prop} {k n : Nat}
    (hret : meth.sig.returnType = some t) (hn : narrow t w = w)
    (hi : (i = .ireturn ∧ (t = .int ∨ t = .boolean ∨ t = .byte ∨ t = .char ∨ t = .short) ∧ ∃ z, w = .int z) ∨ (i = .lreturn ∧ t = .long ∧ ∃ z, w = .long z) ∨ (i = .dreturn ∧ t = .double ∧ ∃ z, w = .double z) ∨ (i = .freturn ∧ t = .float ∧ ∃ z, w = .float z) ∨ (i = .areturn ∧ t.isReference = true ∧ w.isRef = true))
    (hd : decode c.code pc = .ok (i, 1)) (hk : cells ≤ k) (hs : slots ≤ n) (hP : P (some w) T.heap locs) : Go p e below (Ends s k n P) T (mkF m pc Ls (w :: rest)) := by
  obtain ⟨fs, hr, hrun, hended, hW, hsame⟩ := X.leave (v := some w) (fun h => by rw [hret] at h; cases h) hlk
  exact ⟨_, _, retOut X hx hret hn hi hd hr, hrun, hended, _, _, rfl, hP, ⟨_, rfl⟩, hW, hsame.mono hk hs⟩
theorem Go.retV (X : Stand p l e R s m args below meth c T locs cells slots) (hx : p.tables.exec = Jvm.exec) (hlk : meth.locks = false) {pc : Nat} {Ls : Array Slot} {P : Option Value → Heap → List Loc → Prop} {k n : Nat}
    (hret : meth.sig.returnType = none) (hd : decode c.code pc = .ok (.return_, 1)) (hk : cells ≤ k) (hs : slots ≤ n) (hP : P none T.heap locs) : Go p e below (Ends s k n P) T (mkF m pc Ls []) := by
  obtain ⟨fs, hr, hrun, hended, hW, hsame⟩ := X.leave (v := none) (fun _ => rfl) hlk
  exact ⟨_, _, X.returnOut hx hret hd hr, hrun, hended, _, _, rfl, hP, ⟨_, rfl⟩, hW, hsame.mono hk hs⟩
theorem Go.retZ (X : Stand p l e R s m args below meth c T locs cells slots) (hx : p.tables.exec = Jvm.exec) (hlk : meth.locks = false) {pc : Nat} {Ls : Array Slot} {z : Int32} {rest : List Value} {P : Option Value → Heap → List Loc → Prop} {k n : Nat}
    (hret : meth.sig.returnType = some .boolean) (hn : narrow .boolean (.int z) = .int z) (hd : decode c.code pc = .ok (.ireturn, 1)) (hk : cells ≤ k) (hs : slots ≤ n) (hP : P (some (.int z)) T.heap locs) : Go p e below (Ends s k n P) T (mkF m pc Ls (.int z :: rest)) :=
  Go.ret X hx hlk hret hn (Or.inl ⟨rfl, Or.inr (Or.inl rfl), z, rfl⟩) hd hk hs hP
theorem Go.retC (X : Stand p l e R s m args below meth c T locs cells slots) (hx : p.tables.exec = Jvm.exec) (hlk : meth.locks = false) {pc : Nat} {Ls : Array Slot} {z : Int32} {rest : List Value} {P : Option Value → Heap → List Loc → Prop} {k n : Nat}
    (hret : meth.sig.returnType = some .char) (hn : narrow .char (.int z) = .int z) (hd : decode c.code pc = .ok (.ireturn, 1)) (hk : cells ≤ k) (hs : slots ≤ n) (hP : P (some (.int z)) T.heap locs) : Go p e below (Ends s k n P) T (mkF m pc Ls (.int z :: rest)) :=
  Go.ret X hx hlk hret hn (Or.inl ⟨rfl, Or.inr (Or.inr (Or.inr (Or.inl rfl))), z, rfl⟩) hd hk hs hP
theorem Go.retI (X : Stand p l e R s m args below meth c T locs cells slots) (hx : p.tables.exec = Jvm.exec) (hlk : meth.locks = false) {pc : Nat} {Ls : Array Slot} {z : Int32} {rest : List Value} {P : Option Value → Heap → List Loc → Prop} {k n : Nat}
    (hret : meth.sig.returnType = some .int) (hd : decode c.code pc = .ok (.ireturn, 1)) (hk : cells ≤ k) (hs : slots ≤ n) (hP : P (some (.int z)) T.heap locs) : Go p e below (Ends s k n P) T (mkF m pc Ls (.int z :: rest)) :=
  Go.ret X hx hlk hret rfl (Or.inl ⟨rfl, Or.inl rfl, z, rfl⟩) hd hk hs hP
theorem Go.retJ (X : Stand p l e R s m args below meth c T locs cells slots) (hx : p.tables.exec = Jvm.exec) (hlk : meth.locks = false) {pc : Nat} {Ls : Array Slot} {z : Int64} {rest : List Value} {P : Option Value → Heap → List Loc → Prop} {k n : Nat}
    (hret : meth.sig.returnType = some .long) (hd : decode c.code pc = .ok (.lreturn, 1)) (hk : cells ≤ k) (hs : slots ≤ n) (hP : P (some (.long z)) T.heap locs) : Go p e below (Ends s k n P) T (mkF m pc Ls (.long z :: rest)) :=
  Go.ret X hx hlk hret rfl (Or.inr (Or.inl ⟨rfl, rfl, z, rfl⟩)) hd hk hs hP
theorem Go.retA (X : Stand p l e R s m args below meth c T locs cells slots) (hx : p.tables.exec = Jvm.exec) (hlk : meth.locks = false) {pc : Nat} {Ls : Array Slot} {w : Value} {t : FieldType} {rest : List Value} {P : Option Value → Heap → List Loc → Prop} {k n : Nat}
    (hret : meth.sig.returnType = some t) (ht : t.isReference = true) (hw : w.isRef = true) (hn : narrow t w = w) (hd : decode c.code pc = .ok (.areturn, 1)) (hk : cells ≤ k) (hs : slots ≤ n) (hP : P (some w) T.heap locs) : Go p e below (Ends s k n P) T (mkF m pc Ls (w :: rest)) :=
  Go.ret X hx hlk hret hn (Or.inr (Or.inr (Or.inr (Or.inr ⟨rfl, ht, hw⟩)))) hd hk hs hP
/-- what a call does: the arguments, the heap before, and P: what it returns, the heap behind, the places written -/
def Does (l : Launch) (Z : State) (y : MethodName) (bytes : ByteArray) (maxL : Nat) (ret : Option FieldType) (ws : List Jvm.Cond) (rm : Room) (as' : Array Value) (h : Heap) (P : Option Value → Heap → List Loc → Prop) : Prop :=
  MetFree l y (head1 (Jvm.Cond.code y bytes maxL ret :: ws) rm) (fun a U => a = as' ∧ Z.Warmed39 U.vm ∧ U.heap = h) (fun _ _ _ _ _ => True) (fun _ U o U' => ∃ v L, o = .returned v ∧ P v U'.heap L ∧ FrameEnd U o U' L rm.cells rm.slots)
theorem Does.intro {y : MethodName} {bytes : ByteArray} {maxL : Nat} {ret : Option FieldType} {ws : List Jvm.Cond} {rm : Room} {as' : Array Value} {P : Option Value → Heap → List Loc → Prop} {Ls : Array Slot} (hpn : plainName y.cls = true) (hef : ∀ m, entryFrame m as' maxL = mkF m 0 Ls [])
    (body : ∀ (p : Program) (e : Env) (s : State) (m : MethodId) (below : List Frame) (meth : Method) (c : Code) (s₁ : State), p.tables.exec = Jvm.exec → c.code = bytes → c.maxLocals = maxL → s.vm.findClass y.cls = some m.cls → meth.name = y.name → meth.sig.returnType = ret → meth.locks = false →
      Z.Warmed39 s.vm → s₁.heap = h → Stand p l e rm s m as' below meth c s₁ [] 0 0 → Go p e below (Ends s rm.cells rm.slots P) s₁ (mkF m 0 Ls [])) : Does l Z y bytes maxL ret ws rm as' h P := by
  refine MetFree.of_bodySF (plainFor_of_name hpn) hisR ?_
  intro p e s m args below meth c s₁ Bd hml0 hP hK
  obtain ⟨rfl, hZ, hh⟩ := hP
  have := body p e s m below meth c s₁ Bd.exec Bd.bytes hml0 (findClass_of_methodNamed Bd.named) (name_of_methodNamed Bd.named Bd.method).1 Bd.returns Bd.notSynchronized hZ (by rw [← hh, Bd.state]; rfl) (Stand.of_body Bd)
  obtain ⟨s₂, o, h1, h2, h3, h4⟩ := this
  exact ⟨s₂, o, castTop (hef m) h1, h2, h3, h4⟩
theorem Does.mono {y : MethodName} {bytes : ByteArray} {maxL : Nat} {ret : Option FieldType} {ws : List Jvm.Cond} {rm : Room} {as' : Array Value} {P P' : Option Value → Heap → List Loc → Prop} (D : Does l Z y bytes maxL ret ws rm as' h P) (q : ∀ v h' L, P v h' L → P' v h' L) : Does l Z y bytes maxL ret ws rm as' h P' := by
  intro p e ha hc hk s m args below hf happ hP hK
  obtain ⟨n, o, h1, h2, h3, v, L, h4, h5, h6⟩ := D p e ha hc hk s m args below hf happ hP hK
  exact ⟨n, o, h1, h2, h3, v, L, h4, q _ _ _ h5, h6⟩
theorem Does.static {y : MethodName} {bytes : ByteArray} {maxL : Nat} {ret : Option FieldType} {rm : Room} {P : Option Value → Heap → List Loc → Prop} {own : String} {index : Nat} {argsL rest : List Value} (D : Does l Z y bytes maxL ret [] rm argsL.toArray h P)
    (X : Stand p l e R s m args below meth c T locs cells slots) (hx : p.tables.exec = Jvm.exec) (hZ : Z.Warmed39 s.vm) (hown : s.vm.findClass own = some m.cls) (eT : T.heap = h) (w1 : (Cond.methodLink own index y).before a0 Z = true) (w2 : (Cond.static y).before a0 Z = true) (w3 : (Cond.initialized y.cls).before a0 Z = true) (w4 : (Cond.code y bytes maxL ret).before a0 Z = true)
    (hy : y.cls ≠ "java/lang/invoke/MethodHandle" ∧ y.cls ≠ "java/lang/invoke/VarHandle") (hg : g.method = m) (hsize : g.locals.size = c.maxLocals) (hlen : ∀ sig, parseMethodDescriptor y.desc = some sig → argsL.length = sig.parameters.length)
    (hstack : g.stack = argsL.reverse ++ rest) (hd : decode c.code g.pc = .ok (.invokestatic index, 3)) {W : Nat} (hW : 2 * g.monitorRoom + (rest.map fun v => v.category).sum ≤ W) (hf : rm.frames + 1 ≤ R.frames) (hl : W + (maxL + 11) + rm.locals ≤ R.locals) (hc : cells + rm.cells ≤ R.cells) (hs : slots + rm.slots ≤ R.slots) :
    ∃ v T' L, Stand p l e R s m args below meth c T' (locs ++ L) (cells + rm.cells) (slots + rm.slots) ∧ P v T'.heap L ∧ ∀ target, Steps p.tables e below (T'.setTop { g with pc := g.pc + 3, stack := v.toList ++ rest }) target → Steps p.tables e below (T.setTop g) target := by
  obtain ⟨v, vm₁, ⟨T', L', k', n'⟩, -, X', ⟨L, hQ, q1, q2, q3⟩, st⟩ := Jvm.LawKit.callS X hx (y := y) hown (mvT hZ w1) (mvT hZ w2) (mvT hZ w3) (mvT hZ w4) hy (backOf (W := W) D hZ w4 w3 hf hl) hg hsize (argsL := argsL) (rest := rest) hlen hstack hW hd (fun _ _ => ⟨rfl, eT, hc, hs⟩)
  dsimp only [Pt.U, Pt.locs, Pt.cells, Pt.slots] at X' q1 q2 q3 st hQ
  subst q1 q2 q3
  exact ⟨v, T', L, X', hQ, st⟩
theorem Does.special {y : MethodName} {bytes : ByteArray} {maxL : Nat} {rm : Room} {P : Option Value → Heap → List Loc → Prop} {own : String} {index : Nat} {a : Addr} {argsL rest : List Value} (D : Does l Z y bytes maxL none [] rm (.ref a :: argsL).toArray h P)
    (X : Stand p l e R s m args below meth c T locs cells slots) (hx : p.tables.exec = Jvm.exec) (hZ : Z.Warmed39 s.vm) (hown : s.vm.findClass own = some m.cls) (eT : T.heap = h) (hnm : y.name = "<init>") (w1 : (Cond.methodLink own index y).before a0 Z = true) (w2 : (Cond.instanceMethod y).before a0 Z = true) (w3 : (Cond.initialized y.cls).before a0 Z = true) (w4 : (Cond.code y bytes maxL none).before a0 Z = true)
    (hy : y.cls ≠ "java/lang/invoke/MethodHandle" ∧ y.cls ≠ "java/lang/invoke/VarHandle") (hg : g.method = m) (hsize : g.locals.size = c.maxLocals) (hlen : ∀ sig, parseMethodDescriptor y.desc = some sig → argsL.length = sig.parameters.length)
    (hstack : g.stack = argsL.reverse ++ .ref a :: rest) (hd : decode c.code g.pc = .ok (.invokespecial index, 3)) {W : Nat} (hW : 2 * g.monitorRoom + (rest.map fun v => v.category).sum ≤ W) (hf : rm.frames + 1 ≤ R.frames) (hl : W + (maxL + 11) + rm.locals ≤ R.locals) (hc : cells + rm.cells ≤ R.cells) (hs : slots + rm.slots ≤ R.slots) :
    ∃ v T' L, Stand p l e R s m args below meth c T' (locs ++ L) (cells + rm.cells) (slots + rm.slots) ∧ P v T'.heap L ∧ ∀ target, Steps p.tables e below (T'.setTop { g with pc := g.pc + 3, stack := v.toList ++ rest }) target → Steps p.tables e below (T.setTop g) target := by
  obtain ⟨v, vm₁, ⟨T', L', k', n'⟩, -, X', ⟨L, hQ, q1, q2, q3⟩, st⟩ := X.specialBack hx (y := y) hnm hown (mvT hZ w1) (mvT hZ w2) (mvT hZ w4) hy (backOf (W := W) D hZ w4 w3 hf hl) hg hsize (Steps.refl _) (a := a) (argsL := argsL) (rest := rest) hlen hstack hW hd (fun _ _ => ⟨rfl, eT, hc, hs⟩)
  dsimp only [Pt.U, Pt.locs, Pt.cells, Pt.slots] at X' q1 q2 q3 st hQ
  subst q1 q2 q3
  exact ⟨v, T', L, X', hQ, fun _ k => st.trans k⟩
theorem Does.virtual {y : MethodName} {bytes : ByteArray} {maxL : Nat} {ret : Option FieldType} {rm : Room} {P : Option Value → Heap → List Loc → Prop} {own C : String} {index : Nat} {a : Addr} {argsL rest : List Value} (D : Does l Z y bytes maxL ret [] rm (.ref a :: argsL).toArray h P)
    (X : Stand p l e R s m args below meth c T locs cells slots) (hx : p.tables.exec = Jvm.exec) (hZ : Z.Warmed39 s.vm) (hown : s.vm.findClass own = some m.cls) (eT : T.heap = h) (E : Exa Z h a C) (w1 : (Cond.methodLink own index y).before a0 Z = true) (w2 : (Cond.declares y).before a0 Z = true) (w2' : (Cond.selects C y y).before a0 Z = true) (w2'' : (Cond.instanceMethod y).before a0 Z = true) (w3 : (Cond.initialized y.cls).before a0 Z = true) (w4 : (Cond.code y bytes maxL ret).before a0 Z = true)
    (hy : y.cls ≠ "java/lang/invoke/MethodHandle" ∧ y.cls ≠ "java/lang/invoke/VarHandle") (hg : g.method = m) (hsize : g.locals.size = c.maxLocals) (hlen : ∀ sig, parseMethodDescriptor y.desc = some sig → argsL.length = sig.parameters.length)
    (hstack : g.stack = argsL.reverse ++ .ref a :: rest) (hd : decode c.code g.pc = .ok (.invokevirtual index, 3)) {W : Nat} (hW : 2 * g.monitorRoom + (rest.map fun v => v.category).sum ≤ W) (hf : rm.frames + 1 ≤ R.frames) (hl : W + (maxL + 11) + rm.locals ≤ R.locals) (hc : cells + rm.cells ≤ R.cells) (hs : slots + rm.slots ≤ R.slots) :
    ∃ v T' L, Stand p l e R s m args below meth c T' (locs ++ L) (cells + rm.cells) (slots + rm.slots) ∧ P v T'.heap L ∧ ∀ target, Steps p.tables e below (T'.setTop { g with pc := g.pc + 3, stack := v.toList ++ rest }) target → Steps p.tables e below (T.setTop g) target := by
  obtain ⟨cB, kB, q1, -, q3⟩ := isOf hZ eT E
  obtain ⟨v, vm₁, ⟨T', L', k', n'⟩, -, X', ⟨L, hQ, q1, q2, q3⟩, st⟩ := X.virtualBack hx (y := y) (z := y) hown (mvT hZ w1) (mvT hZ w2) (notFace_of_selects (args := #[]) (mvT hZ w2')) (mvT hZ w2') (mvT hZ w2'') hy (backOf (W := W) D hZ w4 w3 hf hl) q1 q3 hg hsize (Steps.refl _) (argsL := argsL) (rest := rest) hlen hstack hW hd (fun _ _ => ⟨rfl, eT, hc, hs⟩)
  dsimp only [Pt.U, Pt.locs, Pt.cells, Pt.slots] at X' q1 q2 q3 st hQ
  subst q1 q2 q3
  exact ⟨v, T', L, X', hQ, fun _ k => st.trans k⟩
theorem Does.virtualUp {x' z : MethodName} {owner : String} {bytes : ByteArray} {maxL : Nat} {ret : Option FieldType} {rm : Room} {P : Option Value → Heap → List Loc → Prop} {own C : String} {index : Nat} {a : Addr} {argsL rest : List Value} (D : Does l Z z bytes maxL ret [] rm (.ref a :: argsL).toArray h P)
    (X : Stand p l e R s m args below meth c T locs cells slots) (hx : p.tables.exec = Jvm.exec) (hZ : Z.Warmed39 s.vm) (hown : s.vm.findClass own = some m.cls) (eT : T.heap = h) (E : Exa Z h a C) (w1 : (Cond.methodLink own index x').before a0 Z = true) (w1' : (Cond.sameMethod x'.cls owner x'.name x'.desc).before a0 Z = true) (w2 : (Cond.declares ⟨owner, x'.name, x'.desc⟩).before a0 Z = true) (w2' : (Cond.selects C x' z).before a0 Z = true) (w2'' : (Cond.instanceMethod z).before a0 Z = true) (w3 : (Cond.initialized z.cls).before a0 Z = true) (w4 : (Cond.code z bytes maxL ret).before a0 Z = true)
    (hy : owner ≠ "java/lang/invoke/MethodHandle" ∧ owner ≠ "java/lang/invoke/VarHandle") (hg : g.method = m) (hsize : g.locals.size = c.maxLocals) (hlen : ∀ sig, parseMethodDescriptor x'.desc = some sig → argsL.length = sig.parameters.length)
    (hstack : g.stack = argsL.reverse ++ .ref a :: rest) (hd : decode c.code g.pc = .ok (.invokevirtual index, 3)) {W : Nat} (hW : 2 * g.monitorRoom + (rest.map fun v => v.category).sum ≤ W) (hf : rm.frames + 1 ≤ R.frames) (hl : W + (maxL + 11) + rm.locals ≤ R.locals) (hc : cells + rm.cells ≤ R.cells) (hs : slots + rm.slots ≤ R.slots) :
    ∃ v T' L, Stand p l e R s m args below meth c T' (locs ++ L) (cells + rm.cells) (slots + rm.slots) ∧ P v T'.heap L ∧ ∀ target, Steps p.tables e below (T'.setTop { g with pc := g.pc + 3, stack := v.toList ++ rest }) target → Steps p.tables e below (T.setTop g) target := by
  obtain ⟨cB, kB, q1, -, q3⟩ := isOf hZ eT E
  obtain ⟨v, vm₁, ⟨T', L', k', n'⟩, -, X', ⟨L, hQ, q1, q2, q3⟩, st⟩ := X.virtualBackUp hx (x := x') (y := z) hown (mvT hZ w1) (mvT hZ w1') (mvT hZ w2) hy (mvT hZ w2') (mvT hZ w2'') (backOf (W := W) D hZ w4 w3 hf hl) q1 q3 hg hsize (Steps.refl _) (argsL := argsL) (rest := rest) hlen hstack hW hd (fun _ _ => ⟨rfl, eT, hc, hs⟩)
  dsimp only [Pt.U, Pt.locs, Pt.cells, Pt.slots] at X' q1 q2 q3 st hQ
  subst q1 q2 q3
  exact ⟨v, T', L, X', hQ, fun _ k => st.trans k⟩
/-- a call that leaves the heap as it was and returns w -/
abbrev Val (w : Option Value) (h : Heap) : Option Value → Heap → List Loc → Prop := fun v h' L => v = w ∧ L = [] ∧ h' = h
theorem own_still {w : Option Value} {rm : Room} {rest : List Value} (hc : rm.cells = 0) (hs : rm.slots = 0)
    (H : ∃ v T' L, Stand p l e R s m args below meth c T' (locs ++ L) (cells + rm.cells) (slots + rm.slots) ∧ Val w h v T'.heap L ∧ ∀ target, Steps p.tables e below (T'.setTop { g with pc := g.pc + 3, stack := v.toList ++ rest }) target → Steps p.tables e below (T.setTop g) target) :
    ∃ T', Stand p l e R s m args below meth c T' locs cells slots ∧ T'.heap = h ∧ ∀ target, Steps p.tables e below (T'.setTop { g with pc := g.pc + 3, stack := w.toList ++ rest }) target → Steps p.tables e below (T.setTop g) target := by
  obtain ⟨v, T', L, X', ⟨rfl, rfl, e'⟩, st⟩ := H
  rw [hc, hs, List.append_nil] at X'
  exact ⟨T', X', e', st⟩
theorem own_Llt {x y : Int64} (h : x < y) : XT.cmpL x y < 0 := (lw_lt x y).mpr h
theorem own_Lnlt {x y : Int64} (h : ¬ x < y) : ¬ XT.cmpL x y < 0 := fun q => h ((lw_lt x y).mp q)
theorem own_Lgt {x y : Int64} (h : y < x) : 0 < XT.cmpL x y := (lw_gt x y).mpr h
theorem own_Lngt {x y : Int64} (h : ¬ y < x) : ¬ 0 < XT.cmpL x y := fun q => h ((lw_gt x y).mp q)
theorem own_Leq {x y : Int64} (h : x = y) : XT.cmpL x y = 0 := (lw_eq x y).mpr h
theorem own_Lneq {x y : Int64} (h : ¬ x = y) : ¬ XT.cmpL x y = 0 := fun q => h ((lw_eq x y).mp q)
theorem own_aeq {a b : Addr} (h : a = b) : XT.acmp .eq (.ref a) (.ref b) = true ∧ XT.acmp .ne (.ref a) (.ref b) = false := by subst h; exact ⟨decide_eq_true rfl, decide_eq_false (fun q => q rfl)⟩
theorem own_ane {a b : Addr} (h : ¬ a = b) : XT.acmp .eq (.ref a) (.ref b) = false ∧ XT.acmp .ne (.ref a) (.ref b) = true := ⟨decide_eq_false (fun q => h (by cases q; rfl)), decide_eq_true (fun q => h (by cases q; rfl))⟩
theorem own_ext {h0 h : Heap} (K : Keep h0 h []) : Ext h0 h := ⟨K.1, fun x c q => K.2.1 x c q nin0⟩
end GoKit
/-! ArrKit: arrays by Arv, one law a step -/
section ArrKit
variable {p : Program} {l : Launch} {e : Env} {R : Room} {s : State} {m : MethodId} {args : Array Value} {below : List Frame} {meth : Method} {c : Code} {T T' : State} {locs : List Loc} {cells slots : Nat} {Z : State} {a0 : Array Value} {h : Heap} {g g' : JFrame} {a : Addr} {k : ClassId} {z j : Int32} {vs : List Value} {dv : Value} {rest : List Value} {ty : FieldType}
theorem own_stI (X : Stand p l e R s m args below meth c T locs cells slots) (hx : p.tables.exec = Jvm.exec) (hZ : Z.Warmed39 s.vm) (eT : T.heap = h) (Vv : Arv Z h a k .int z vs dv) {x : Int32} (hj0 : ¬ j < 0) (hj1 : j < z) (i : Nat) (hi : j.toNatClampNeg = i) (hl : i < vs.length) (hg : g.method = m) (hs : g.stack = .int x :: .int j :: .ref a :: rest) (hd : decode c.code g.pc = .ok (.iastore, 1)) :
    ∃ T' h', Stand p l e R s m args below meth c T' (locs ++ [⟨a, j.toNatClampNeg⟩]) cells slots ∧ T'.heap = h' ∧ Wr h h' a j.toNatClampNeg (.int x) ∧ Arv Z h' a k .int z (vs.set i (.int x)) dv ∧ ∀ target, Steps p.tables e below (T'.setTop { g with pc := g.pc + 1, stack := rest }) target → Steps p.tables e below (T.setTop g) target := by
  obtain ⟨c', A, q1, S, q3, H, G⟩ := Vv
  obtain ⟨T', h', X', e', W, st⟩ := stI X hx hZ eT A (inb_of S ⟨hj0, hj1⟩) hg hs hd
  exact ⟨T', h', X', e', W, Arv.set A q1 S q3 H G rfl W i hi hl, st⟩
theorem own_stC (X : Stand p l e R s m args below meth c T locs cells slots) (hx : p.tables.exec = Jvm.exec) (hZ : Z.Warmed39 s.vm) (eT : T.heap = h) (Vv : Arv Z h a k .char z vs dv) {x : Int32} (hj0 : ¬ j < 0) (hj1 : j < z) (i : Nat) (hi : j.toNatClampNeg = i) (hl : i < vs.length) (hg : g.method = m) (hs : g.stack = .int x :: .int j :: .ref a :: rest) (hd : decode c.code g.pc = .ok (.castore, 1)) :
    ∃ T' h', Stand p l e R s m args below meth c T' (locs ++ [⟨a, j.toNatClampNeg⟩]) cells slots ∧ T'.heap = h' ∧ Wr h h' a j.toNatClampNeg (.int (nar .char x)) ∧ Arv Z h' a k .char z (vs.set i (.int (nar .char x))) dv ∧ ∀ target, Steps p.tables e below (T'.setTop { g with pc := g.pc + 1, stack := rest }) target → Steps p.tables e below (T.setTop g) target := by
  obtain ⟨c', A, q1, S, q3, H, G⟩ := Vv
  obtain ⟨T', h', X', e', W, st⟩ := stC X hx hZ eT A (inb_of S ⟨hj0, hj1⟩) hg hs hd
  exact ⟨T', h', X', e', W, Arv.set A q1 S q3 H G (fits_nar_char x) W i hi hl, st⟩
theorem own_stR (X : Stand p l e R s m args below meth c T locs cells slots) (hx : p.tables.exec = Jvm.exec) (hZ : Z.Warmed39 s.vm) (eT : T.heap = h) {C K : String} (Vv : Arv Z h a k (.object C) z vs dv) (O : Ovr Z k K) {y : Addr} (I : Ins Z h y K true) (hj0 : ¬ j < 0) (hj1 : j < z) (i : Nat) (hi : j.toNatClampNeg = i) (hl : i < vs.length) (hg : g.method = m) (hs : g.stack = .ref y :: .int j :: .ref a :: rest) (hd : decode c.code g.pc = .ok (.aastore, 1)) :
    ∃ T' h', Stand p l e R s m args below meth c T' (locs ++ [⟨a, j.toNatClampNeg⟩]) cells slots ∧ T'.heap = h' ∧ Wr h h' a j.toNatClampNeg (.ref y) ∧ Arv Z h' a k (.object C) z (vs.set i (.ref y)) dv ∧ ∀ target, Steps p.tables e below (T'.setTop { g with pc := g.pc + 1, stack := rest }) target → Steps p.tables e below (T.setTop g) target := by
  obtain ⟨c', A, q1, S, q3, H, G⟩ := Vv
  obtain ⟨T', h', X', e', W, st⟩ := stR X hx hZ eT A (inb_of S ⟨hj0, hj1⟩) rfl (Sto.ofV A q1 O I) hg hs hd
  exact ⟨T', h', X', e', W, Arv.set A q1 S q3 H G rfl W i hi hl, st⟩
theorem own_ldI (X : Stand p l e R s m args below meth c T locs cells slots) (hx : p.tables.exec = Jvm.exec) (hZ : Z.Warmed39 s.vm) (eT : T.heap = h) (Vv : Arv Z h a k .int z vs dv) {w : Int32} (hj0 : ¬ j < 0) (hj1 : j < z) (hv : vs.getD j.toNatClampNeg dv = .int w) (hg : g.method = m) (hs : g.stack = .int j :: .ref a :: rest) (hd : decode c.code g.pc = .ok (.iaload, 1)) :
    ∀ target, Steps p.tables e below (T.setTop { g with pc := g.pc + 1, stack := .int w :: rest }) target → Steps p.tables e below (T.setTop g) target := by
  obtain ⟨c', A, q1, S, q3, H, G⟩ := Vv
  have q := inb_of S ⟨hj0, hj1⟩
  exact fun t k => X.iaload hx (by rw [eT]; exact A.1) (State.isArrayOf_alike hZ.alike A.2.1) A.2.2 q (Has.at H q hv) hg hs hd t k
theorem own_ldC (X : Stand p l e R s m args below meth c T locs cells slots) (hx : p.tables.exec = Jvm.exec) (hZ : Z.Warmed39 s.vm) (eT : T.heap = h) (Vv : Arv Z h a k .char z vs dv) {w : Int32} (hj0 : ¬ j < 0) (hj1 : j < z) (hv : vs.getD j.toNatClampNeg dv = .int w) (hg : g.method = m) (hs : g.stack = .int j :: .ref a :: rest) (hd : decode c.code g.pc = .ok (.caload, 1)) :
    ∀ target, Steps p.tables e below (T.setTop { g with pc := g.pc + 1, stack := .int w :: rest }) target → Steps p.tables e below (T.setTop g) target := by
  obtain ⟨c', A, q1, S, q3, H, G⟩ := Vv
  have q := inb_of S ⟨hj0, hj1⟩
  exact fun t k => X.caload hx (by rw [eT]; exact A.1) (State.isArrayOf_alike hZ.alike A.2.1) A.2.2 q (Has.at H q hv) hg hs hd t k
theorem own_ldB (X : Stand p l e R s m args below meth c T locs cells slots) (hx : p.tables.exec = Jvm.exec) (hZ : Z.Warmed39 s.vm) (eT : T.heap = h) (Vv : Arv Z h a k .byte z vs dv) {w : Int32} (hj0 : ¬ j < 0) (hj1 : j < z) (hv : vs.getD j.toNatClampNeg dv = .int w) (hg : g.method = m) (hs : g.stack = .int j :: .ref a :: rest) (hd : decode c.code g.pc = .ok (.baload, 1)) :
    ∀ target, Steps p.tables e below (T.setTop { g with pc := g.pc + 1, stack := .int w :: rest }) target → Steps p.tables e below (T.setTop g) target := by
  obtain ⟨c', A, q1, S, q3, H, G⟩ := Vv
  have q := inb_of S ⟨hj0, hj1⟩
  exact fun t k => X.baloadBytes hx (by rw [eT]; exact A.1) (State.isArrayOf_alike hZ.alike A.2.1) A.2.2 q (Has.at H q hv) hg hs hd t k
theorem own_ldR (X : Stand p l e R s m args below meth c T locs cells slots) (hx : p.tables.exec = Jvm.exec) (hZ : Z.Warmed39 s.vm) (eT : T.heap = h) (Vv : Arv Z h a k ty z vs dv) (hty : ty.isReference = true) {w : Value} (hj0 : ¬ j < 0) (hj1 : j < z) (hv : vs.getD j.toNatClampNeg dv = w) (hg : g.method = m) (hs : g.stack = .int j :: .ref a :: rest) (hd : decode c.code g.pc = .ok (.aaload, 1)) :
    ∀ target, Steps p.tables e below (T.setTop { g with pc := g.pc + 1, stack := w :: rest }) target → Steps p.tables e below (T.setTop g) target := by
  obtain ⟨c', A, q1, S, q3, H, G⟩ := Vv
  have q := inb_of S ⟨hj0, hj1⟩
  exact fun t k => X.aaload hx (by rw [eT]; exact A.1) (State.isArrayOf_alike hZ.alike A.2.1) hty A.2.2 q (Has.at H q hv) hg hs hd t k
theorem own_len (X : Stand p l e R s m args below meth c T locs cells slots) (hx : p.tables.exec = Jvm.exec) (hZ : Z.Warmed39 s.vm) (eT : T.heap = h) (Vv : Arv Z h a k ty z vs dv) (hg : g.method = m) (hs : g.stack = .ref a :: rest) (hd : decode c.code g.pc = .ok (.arraylength, 1)) :
    ∀ target, Steps p.tables e below (T.setTop { g with pc := g.pc + 1, stack := .int z :: rest }) target → Steps p.tables e below (T.setTop g) target := by
  obtain ⟨c', A, q1, S, q3, H, G⟩ := Vv
  exact fun t k => X.arraylength hx (by rw [eT]; exact A.1) (State.isArrayOf_alike hZ.alike A.2.1) hg hs hd t (by rw [len_of S q3]; exact k)
end ArrKit
theorem own_sta {Z : State} {args : Array Value} {C f d K : String} (h : (Jvm.Cond.exactly (.static C f d) K).value args Z none Z [] = some true) (wi : (Jvm.Cond.initialized C).before args Z = true) (wl : (Jvm.Cond.laysStatic C f d).before args Z = true) :
    ∃ x, (Term.static C f d).eval args Z none [] Z = some (.ref x) ∧ Sta Z Z.heap C f d (.ref x) ∧ Exa Z Z.heap x K := by
  obtain ⟨x, ev⟩ := exa_v h
  exact ⟨x, ev, Sta.start ev (Or.inr ⟨wi, wl⟩), Exa.start ev h⟩
theorem own_fldI {Z : State} {args : Array Value} {t : Term} {O n d : String} {k : Int32} {x : Addr} (ev : t.eval args Z none [] Z = some (.ref x)) (h : (Jvm.Cond.eq (.field t O n d) (.int k)).value args Z none Z [] = some true) : Fld Z Z.heap x O n d (.int k) := by
  obtain ⟨u, v, e1, e2, k1, -⟩ := cmp_v (Or.inl h)
  have e3 : v = .int k := by simpa [Term.eval] using e2.symm
  subst e3
  obtain ⟨z, rfl⟩ : ∃ z, u = .int z := by cases u <;> simp [Kin, Value.isRef] at k1 ⊢
  have q : z = k := gotT (Cond.eq_ints e1 e2) h
  subst q
  exact Fld.start ((fld_at ev).symm.trans e1)
def own_run (p : Int32) (n : Nat) : List Value := (List.range n).map fun j => Value.int (p + Int32.ofNat j)
theorem own_run_len (p : Int32) (n : Nat) : (own_run p n).length = n := by simp [own_run]
theorem own_run_succ (p : Int32) (n : Nat) : own_run p (n + 1) = own_run p n ++ [.int (p + Int32.ofNat n)] := by simp [own_run, List.range_succ]
theorem own_run_set (p : Int32) (n : Nat) (u : Value) : (own_run p n ++ [u]).set n (.int (p + Int32.ofNat n)) = own_run p (n + 1) := by
  have q := own_run_len p n
  rw [own_run_succ, List.set_append_right _ _ (by omega), q]; simp
theorem own_ofNat {n : Nat} (h : n ≤ 15) : (Int32.ofNat n).toInt = n := Int32.toInt_ofNat_small (by omega)
theorem own_clamp {n : Nat} (h : n ≤ 15) : (Int32.ofNat n).toNatClampNeg = n := by rw [Int32.toNatClampNeg, own_ofNat h]; rfl
theorem own_nneg {n : Nat} (h : n ≤ 15) : ¬ Int32.ofNat n < 0 := by rw [Int32.lt_iff_toInt_lt, own_ofNat h]; show ¬ (n : Int) < 0; omega
theorem own_lt {i n : Nat} (h : n ≤ 15) (q : i < n) : Int32.ofNat i < Int32.ofNat n := by rw [Int32.lt_iff_toInt_lt, own_ofNat h, own_ofNat (by omega)]; omega
theorem own_nlt {n : Nat} : ¬ Int32.ofNat n < Int32.ofNat n := by rw [Int32.lt_iff_toInt_lt]; omega
theorem own_succ (i : Nat) : Int32.ofNat i + (1 : Int32) = Int32.ofNat (i + 1) := (Int32.ofNat_add i 1).symm
theorem own_run_at {p j : Int32} {n : Nat} (hn : n ≤ 15) (h0 : ¬ j < 0) (h1 : j < Int32.ofNat n) : (own_run p n).getD j.toNatClampNeg (.int (0 : Int32)) = .int (p + j) := by
  rw [Int32.lt_iff_toInt_lt] at h0 h1
  rw [own_ofNat hn] at h1
  have z0 : (0 : Int32).toInt = 0 := by decide
  have e : j.toNatClampNeg < n := by rw [Int32.toNatClampNeg]; omega
  have ej : Int32.ofNat j.toNatClampNeg = j := Int32.toInt_inj.mp (by rw [own_ofNat (by omega), Int32.toNatClampNeg]; omega)
  rw [List.getD_eq_getElem?_getD, own_run, List.getElem?_map, List.getElem?_range e]
  simp only [Option.map_some, Option.getD_some, ej]
theorem own_mask (x : Int32) : ∃ n : Nat, n ≤ 15 ∧ (x &&& (15 : Int32)) = Int32.ofNat n := by
  have e1 := Jvm.Kit.i32_mask x (15 : Int32) (k := 4) (by decide) (by decide)
  have b0 := Int.emod_nonneg x.toInt (show (2 ^ 4 : Int) ≠ 0 by decide)
  have b1 := Int.emod_lt_of_pos x.toInt (show (0 : Int) < 2 ^ 4 by decide)
  refine ⟨(x &&& (15 : Int32)).toInt.toNat, by omega, Int32.toInt_inj.mp ?_⟩
  rw [own_ofNat (by omega)]; omega
theorem own_mod {x n : Int32} (h : 0 < n.toInt) : 0 ≤ ((x &&& (2147483647 : Int32)) % n).toInt ∧ ((x &&& (2147483647 : Int32)) % n).toInt < n.toInt := by
  have e1 := Jvm.Kit.i32_mask x (2147483647 : Int32) (k := 31) (by decide) (by decide)
  rw [Int32.toInt_mod]
  generalize (x &&& (2147483647 : Int32)).toInt = u at *
  have : 0 ≤ u := by rw [e1]; exact Int.emod_nonneg _ (by decide)
  rw [Int.tmod_eq_emod_of_nonneg this]
  exact ⟨Int.emod_nonneg u (by omega), Int.emod_lt_of_pos u h⟩
theorem own_i0 {q : Int32} (h : 0 ≤ q.toInt) : ¬ q < 0 := by rw [Int32.lt_iff_toInt_lt]; show ¬ q.toInt < 0; omega
theorem own_pos {n : Nat} (hn : n ≤ 15) (h : ¬ Int32.ofNat n = (0 : Int32)) : 0 < n := by
  rcases Nat.eq_zero_or_pos n with rfl | q
  · exact absurd rfl h
  · exact q
theorem own_pred {n : Nat} (hn : n ≤ 15) (h : 0 < n) : Int32.ofNat n - (1 : Int32) = Int32.ofNat (n - 1) := by
  obtain ⟨k, rfl⟩ : ∃ k, n = k + 1 := ⟨n - 1, by omega⟩
  rw [← own_succ, Int32.add_sub_cancel]; rfl
theorem d_prog_22_method_7_code_0 : decode prog_22_method_7_code 0 = .ok (.iload_n 1, 1) := by decide +kernel
theorem d_prog_22_method_7_code_1 : decode prog_22_method_7_code 1 = .ok (.newarray .int, 2) := by decide +kernel
theorem d_prog_22_method_7_code_3 : decode prog_22_method_7_code 3 = .ok (.astore_n 2, 1) := by decide +kernel
theorem d_prog_22_method_7_code_4 : decode prog_22_method_7_code 4 = .ok (.iconst 0, 1) := by decide +kernel
theorem d_prog_22_method_7_code_5 : decode prog_22_method_7_code 5 = .ok (.istore_n 3, 1) := by decide +kernel
theorem d_prog_22_method_7_code_6 : decode prog_22_method_7_code 6 = .ok (.iload_n 3, 1) := by decide +kernel
theorem d_prog_22_method_7_code_7 : decode prog_22_method_7_code 7 = .ok (.iload_n 1, 1) := by decide +kernel
theorem d_prog_22_method_7_code_8 : decode prog_22_method_7_code 8 = .ok (.if_icmp .ge 15, 3) := by decide +kernel
theorem d_prog_22_method_7_code_23 : decode prog_22_method_7_code 23 = .ok (.aload_n 2, 1) := by decide +kernel
theorem d_prog_22_method_7_code_24 : decode prog_22_method_7_code 24 = .ok (.areturn, 1) := by decide +kernel
theorem d_prog_22_method_7_code_11 : decode prog_22_method_7_code 11 = .ok (.aload_n 2, 1) := by decide +kernel
theorem d_prog_22_method_7_code_12 : decode prog_22_method_7_code 12 = .ok (.iload_n 3, 1) := by decide +kernel
theorem d_prog_22_method_7_code_13 : decode prog_22_method_7_code 13 = .ok (.iload_n 0, 1) := by decide +kernel
theorem d_prog_22_method_7_code_14 : decode prog_22_method_7_code 14 = .ok (.iload_n 3, 1) := by decide +kernel
theorem d_prog_22_method_7_code_15 : decode prog_22_method_7_code 15 = .ok (.iadd, 1) := by decide +kernel
theorem d_prog_22_method_7_code_16 : decode prog_22_method_7_code 16 = .ok (.iastore, 1) := by decide +kernel
theorem d_prog_22_method_7_code_17 : decode prog_22_method_7_code 17 = .ok (.iinc 3 1, 3) := by decide +kernel
theorem d_prog_22_method_7_code_20 : decode prog_22_method_7_code 20 = .ok (.goto (-14), 3) := by decide +kernel
theorem pn_com_example_bindwell_bindwell_collect_ListChange : plainName "com/example/bindwell/bindwell/collect/ListChange" = true := by first | (simp [plainName, overriddenIn]; done) | decide +kernel
theorem pd_28II295bI : parseMethodDescriptor "(II)[I" = some ⟨[.int, .int], some (.array .int)⟩ := by decide +kernel
theorem pn_com_example_bindwell_bindwell_collect_ListChangeRunPinLaw : plainName "com/example/bindwell/bindwell/collect/ListChangeRunPinLaw" = true := by first | (simp [plainName, overriddenIn]; done) | decide +kernel
theorem ef_rmRun (x0 : Int32) (x1 : Int32) (m : MethodId) : entryFrame m #[(.int x0), (.int x1)] 4 = mkF m 0 #[.val (.int x0), .val (.int x1), .unset, .unset] [] := by first | (simp [entryFrame, mkF, argsToLocals, Value.category]; done) | rfl
set_option maxRecDepth 65536 in
set_option maxHeartbeats 40000000 in
theorem rmRun (l : Launch) (Z : State) (a0 : Array Value) (hw : ∀ d ∈ tables_1, d.before a0 Z = true) (p1 : Int32) (n : Nat) (hn : n ≤ 15) (h0 : Heap) (n0 : Nat) (Z0 : n0 ≤ h0.size) :
    Does l Z (⟨"com/example/bindwell/bindwell/collect/ListChange", "run", "(II)[I"⟩ : MethodName) prog_22_method_7_code 4 (some (.array .int)) [] ({ frames := 0, cells := 1, slots := 15, locals := 0 } : Room) #[(.int p1), (.int (Int32.ofNat n))] h0 (fun v h L => ∃ r kk, v = some (.ref r) ∧ Fr n0 L ∧ Keep h0 h [] ∧ Arv Z h r kk .int (Int32.ofNat n) (own_run p1 n) (.int (0 : Int32))) := by
  refine Does.intro pn_com_example_bindwell_bindwell_collect_ListChange (ef_rmRun p1 (Int32.ofNat n)) ?_
  intro p e s m below meth c s₁ hx hby hml hown hnm hret hlk hZ e0 X0
  show Go p e below _ s₁ (mkF m 0 #[.val (.int p1), .val (.int (Int32.ofNat n)), .unset, .unset] [])
  have N0 := Fr.nil n0
  refine Go.st (fun _ h => XS.iloadN X0.here hx rfl (hb hby d_prog_22_method_7_code_0) rfl h) ?_
  show Go p e below _ s₁ (mkF m 1 #[.val (.int p1), .val (.int (Int32.ofNat n)), .unset, .unset] [(.int (Int32.ofNat n))])
  obtain ⟨T1, h1, k1, X1, e1, E1, A1, st1⟩ := newP X0 hx hZ (hw _ (List.mem_of_getElem? (i := 4) rfl)) e0 (g := (mkF m 1 #[.val (.int p1), .val (.int (Int32.ofNat n)), .unset, .unset] [(.int (Int32.ofNat n))])) rfl (hb hby d_prog_22_method_7_code_1) rfl (own_nneg hn) (cap := 15) (by rw [own_clamp hn]; exact hn) (by decide) (by decide) (by decide)
  obtain ⟨o1, g1⟩ : ∃ z, z = h0.size := ⟨_, rfl⟩
  rw [← g1] at A1 st1
  have le_o1 : h0.size ≤ o1 := by rw [g1]; exact (Keep.refl _ []).1
  have K1 := (Keep.refl _ []).ext E1
  have V1 := Arv.new A1 (own_nneg hn)
  refine Go.st st1 ?_
  show Go p e below _ T1 (mkF m 3 #[.val (.int p1), .val (.int (Int32.ofNat n)), .unset, .unset] [(.ref o1)])
  refine Go.st (fun _ h => XS.astoreN X1.here hx rfl (hb hby d_prog_22_method_7_code_3) rfl rfl (l' := #[.val (.int p1), .val (.int (Int32.ofNat n)), .val (.ref o1), .unset]) rfl h) ?_
  show Go p e below _ T1 (mkF m 4 #[.val (.int p1), .val (.int (Int32.ofNat n)), .val (.ref o1), .unset] [])
  refine Go.st (fun _ h => XT.iconstV X1.here hx rfl (0 : Int32) (hb hby d_prog_22_method_7_code_4) (by decide) h) ?_
  show Go p e below _ T1 (mkF m 5 #[.val (.int p1), .val (.int (Int32.ofNat n)), .val (.ref o1), .unset] [(.int (0 : Int32))])
  refine Go.st (fun _ h => XS.istoreN X1.here hx rfl (hb hby d_prog_22_method_7_code_5) rfl (l' := #[.val (.int p1), .val (.int (Int32.ofNat n)), .val (.ref o1), .val (.int (0 : Int32))]) rfl h) ?_
  show Go p e below _ T1 (mkF m 6 #[.val (.int p1), .val (.int (Int32.ofNat n)), .val (.ref o1), .val (.int (0 : Int32))] [])
  have LOOP : ∀ (k i : Nat) (T : State) (h : Heap) (locs : List Loc), i + k = n → Stand p l e ({ frames := 0, cells := 1, slots := 15, locals := 0 } : Room) s m #[(.int p1), (.int (Int32.ofNat n))] below meth c T locs 1 15 → T.heap = h → Fr n0 locs → Keep h0 h [] → Arv Z h o1 k1 .int (Int32.ofNat n) (own_run p1 i) (.int (0 : Int32)) → Go p e below (Ends s ({ frames := 0, cells := 1, slots := 15, locals := 0 } : Room).cells ({ frames := 0, cells := 1, slots := 15, locals := 0 } : Room).slots (fun v h L => ∃ r kk, v = some (.ref r) ∧ Fr n0 L ∧ Keep h0 h [] ∧ Arv Z h r kk .int (Int32.ofNat n) (own_run p1 n) (.int (0 : Int32)))) T (mkF m 6 #[.val (.int p1), .val (.int (Int32.ofNat n)), .val (.ref o1), .val (.int (Int32.ofNat i))] []) := by
    intro k
    induction k with
    | zero =>
      intro i T h locs hi X eT N K VV
      obtain rfl : n = i := by omega
      show Go p e below _ T (mkF m 6 #[.val (.int p1), .val (.int (Int32.ofNat n)), .val (.ref o1), .val (.int (Int32.ofNat n))] [])
      refine Go.st (fun _ h => XS.iloadN X.here hx rfl (hb hby d_prog_22_method_7_code_6) rfl h) ?_
      show Go p e below _ T (mkF m 7 #[.val (.int p1), .val (.int (Int32.ofNat n)), .val (.ref o1), .val (.int (Int32.ofNat n))] [(.int (Int32.ofNat n))])
      refine Go.st (fun _ h => XS.iloadN X.here hx rfl (hb hby d_prog_22_method_7_code_7) rfl h) ?_
      show Go p e below _ T (mkF m 8 #[.val (.int p1), .val (.int (Int32.ofNat n)), .val (.ref o1), .val (.int (Int32.ofNat n))] [(.int (Int32.ofNat n)), (.int (Int32.ofNat n))])
      refine Go.st (fun _ h => XS.icmpYes X.here hx rfl (pc0 := 8) (pc' := 23) rfl (hb hby d_prog_22_method_7_code_8) rfl ((flt (own_nlt : ¬ ((Int32.ofNat n) < (Int32.ofNat n)))).2.1) (by decide) (by decide) h) ?_
      show Go p e below _ T (mkF m 23 #[.val (.int p1), .val (.int (Int32.ofNat n)), .val (.ref o1), .val (.int (Int32.ofNat n))] [])
      refine Go.st (fun _ h => XS.aloadN X.here hx rfl (hb hby d_prog_22_method_7_code_23) rfl rfl h) ?_
      show Go p e below _ T (mkF m 24 #[.val (.int p1), .val (.int (Int32.ofNat n)), .val (.ref o1), .val (.int (Int32.ofNat n))] [(.ref o1)])
      refine Go.retA X hx hlk hret rfl rfl rfl (hb hby d_prog_22_method_7_code_24) (by decide) (by decide) ?_
      rw [eT]
      exact ⟨o1, k1, rfl, N, K, VV⟩
    | succ k ih =>
      intro i T h locs hi X eT N K VV
      show Go p e below _ T (mkF m 6 #[.val (.int p1), .val (.int (Int32.ofNat n)), .val (.ref o1), .val (.int (Int32.ofNat i))] [])
      refine Go.st (fun _ h => XS.iloadN X.here hx rfl (hb hby d_prog_22_method_7_code_6) rfl h) ?_
      show Go p e below _ T (mkF m 7 #[.val (.int p1), .val (.int (Int32.ofNat n)), .val (.ref o1), .val (.int (Int32.ofNat i))] [(.int (Int32.ofNat i))])
      refine Go.st (fun _ h => XS.iloadN X.here hx rfl (hb hby d_prog_22_method_7_code_7) rfl h) ?_
      show Go p e below _ T (mkF m 8 #[.val (.int p1), .val (.int (Int32.ofNat n)), .val (.ref o1), .val (.int (Int32.ofNat i))] [(.int (Int32.ofNat n)), (.int (Int32.ofNat i))])
      refine Go.st (fun _ h => XS.icmpNo X.here hx rfl (hb hby d_prog_22_method_7_code_8) rfl ((tlt (own_lt hn (by omega) : (Int32.ofNat i) < (Int32.ofNat n))).2.1) h) ?_
      show Go p e below _ T (mkF m 11 #[.val (.int p1), .val (.int (Int32.ofNat n)), .val (.ref o1), .val (.int (Int32.ofNat i))] [])
      refine Go.st (fun _ h => XS.aloadN X.here hx rfl (hb hby d_prog_22_method_7_code_11) rfl rfl h) ?_
      show Go p e below _ T (mkF m 12 #[.val (.int p1), .val (.int (Int32.ofNat n)), .val (.ref o1), .val (.int (Int32.ofNat i))] [(.ref o1)])
      refine Go.st (fun _ h => XS.iloadN X.here hx rfl (hb hby d_prog_22_method_7_code_12) rfl h) ?_
      show Go p e below _ T (mkF m 13 #[.val (.int p1), .val (.int (Int32.ofNat n)), .val (.ref o1), .val (.int (Int32.ofNat i))] [(.int (Int32.ofNat i)), (.ref o1)])
      refine Go.st (fun _ h => XS.iloadN X.here hx rfl (hb hby d_prog_22_method_7_code_13) rfl h) ?_
      show Go p e below _ T (mkF m 14 #[.val (.int p1), .val (.int (Int32.ofNat n)), .val (.ref o1), .val (.int (Int32.ofNat i))] [(.int p1), (.int (Int32.ofNat i)), (.ref o1)])
      refine Go.st (fun _ h => XS.iloadN X.here hx rfl (hb hby d_prog_22_method_7_code_14) rfl h) ?_
      show Go p e below _ T (mkF m 15 #[.val (.int p1), .val (.int (Int32.ofNat n)), .val (.ref o1), .val (.int (Int32.ofNat i))] [(.int (Int32.ofNat i)), (.int p1), (.int (Int32.ofNat i)), (.ref o1)])
      refine Go.st (fun _ h => XS.iadd X.here hx rfl (hb hby d_prog_22_method_7_code_15) rfl h) ?_
      show Go p e below _ T (mkF m 16 #[.val (.int p1), .val (.int (Int32.ofNat n)), .val (.ref o1), .val (.int (Int32.ofNat i))] [(.int (p1 + (Int32.ofNat i))), (.int (Int32.ofNat i)), (.ref o1)])
      have V' : Arv Z h o1 k1 .int (Int32.ofNat n) (own_run p1 i ++ [.int (0 : Int32)]) (.int (0 : Int32)) := VV.pad (pad_rep _ _ 1)
      obtain ⟨T5, h5, X5, e5, W5, V5, st5⟩ := own_stI X hx hZ eT (j := Int32.ofNat i) V' (own_nneg (by omega)) (own_lt hn (by omega)) i (own_clamp (by omega)) (by simp [own_run_len]) (g := (mkF m 16 #[.val (.int p1), .val (.int (Int32.ofNat n)), .val (.ref o1), .val (.int (Int32.ofNat i))] [(.int (p1 + (Int32.ofNat i))), (.int (Int32.ofNat i)), (.ref o1)])) rfl rfl (hb hby d_prog_22_method_7_code_16)
      rw [own_run_set] at V5
      have N5 := Fr.snoc X5 N (Nat.le_trans Z0 le_o1)
      have K5 := K.wr W5 (Or.inr le_o1)
      refine Go.st st5 ?_
      show Go p e below _ T5 (mkF m 17 #[.val (.int p1), .val (.int (Int32.ofNat n)), .val (.ref o1), .val (.int (Int32.ofNat i))] [])
      refine Go.st (fun _ h => XT.iincV X5.here hx rfl (1 : Int32) (hb hby d_prog_22_method_7_code_17) (by decide) rfl (l' := #[.val (.int p1), .val (.int (Int32.ofNat n)), .val (.ref o1), .val (.int ((Int32.ofNat i) + (1 : Int32)))]) rfl h) ?_
      show Go p e below _ T5 (mkF m 20 #[.val (.int p1), .val (.int (Int32.ofNat n)), .val (.ref o1), .val (.int ((Int32.ofNat i) + (1 : Int32)))] [])
      refine Go.st (fun _ h => XS.goto X5.here hx rfl (pc0 := 20) (pc' := 6) rfl (hb hby d_prog_22_method_7_code_20) (by decide) (by decide) h) ?_
      show Go p e below _ T5 (mkF m 6 #[.val (.int p1), .val (.int (Int32.ofNat n)), .val (.ref o1), .val (.int ((Int32.ofNat i) + (1 : Int32)))] [])
      rw [own_succ]
      exact ih (i + 1) T5 h5 _ (by omega) X5 e5 N5 K5 V5
  exact LOOP n 0 _ _ _ (by omega) X1 e1 N0 K1 V1
theorem ef_rmLaw (x0 : Int32) (x1 : Int32) (x2 : Int32) (m : MethodId) : entryFrame m #[(.int x0), (.int x1), (.int x2)] maxLocals = mkF m 0 #[.val (.int x0), .val (.int x1), .val (.int x2), .unset, .unset, .unset] [] := by first | (simp [entryFrame, mkF, argsToLocals, Value.category, maxLocals]; done) | rfl
set_option maxRecDepth 65536 in
set_option maxHeartbeats 40000000 in
theorem rmLaw (l : Launch) (Z : State) (a0 : Array Value) (hw : ∀ d ∈ tables_1, d.before a0 Z = true) (p1 p2 p3 : Int32) (h0 : Heap) (n0 : Nat) (Z0 : n0 ≤ h0.size) :
    Does l Z x code maxLocals ret tables_1 room_1 #[(.int p1), (.int p2), (.int p3)] h0 (fun v h L => v = some (.int 1) ∧ Fr n0 L) := by
  refine Does.intro pn_com_example_bindwell_bindwell_collect_ListChangeRunPinLaw (ef_rmLaw p1 p2 p3) ?_
  intro p e s m below meth c s₁ hx hby hml hown hnm hret hlk hZ e0 X0
  show Go p e below _ s₁ (mkF m 0 #[.val (.int p1), .val (.int p2), .val (.int p3), .unset, .unset, .unset] [])
  have N0 := Fr.nil n0
  obtain ⟨n, hn, hc⟩ := own_mask p2
  refine Go.st (fun _ h => XS.iloadN X0.here hx rfl (hb hby at_0) rfl h) ?_
  show Go p e below _ s₁ (mkF m 1 #[.val (.int p1), .val (.int p2), .val (.int p3), .unset, .unset, .unset] [(.int p2)])
  refine Go.st (fun _ h => XT.bipushV X0.here hx rfl (15 : Int32) (hb hby at_1) (by decide) h) ?_
  show Go p e below _ s₁ (mkF m 3 #[.val (.int p1), .val (.int p2), .val (.int p3), .unset, .unset, .unset] [(.int (15 : Int32)), (.int p2)])
  refine Go.st (fun _ h => XS.iand X0.here hx rfl (hb hby at_3) rfl h) ?_
  show Go p e below _ s₁ (mkF m 4 #[.val (.int p1), .val (.int p2), .val (.int p3), .unset, .unset, .unset] [(.int (p2 &&& (15 : Int32)))])
  refine Go.st (fun _ h => XS.istoreN X0.here hx rfl (hb hby at_4) rfl (l' := #[.val (.int p1), .val (.int p2), .val (.int p3), .val (.int (p2 &&& (15 : Int32))), .unset, .unset]) rfl h) ?_
  show Go p e below _ s₁ (mkF m 5 #[.val (.int p1), .val (.int p2), .val (.int p3), .val (.int (p2 &&& (15 : Int32))), .unset, .unset] [])
  rw [hc]
  show Go p e below _ s₁ (mkF m 5 #[.val (.int p1), .val (.int p2), .val (.int p3), .val (.int (Int32.ofNat n)), .unset, .unset] [])
  refine Go.st (fun _ h => XS.iloadN X0.here hx rfl (hb hby at_5) rfl h) ?_
  show Go p e below _ s₁ (mkF m 6 #[.val (.int p1), .val (.int p2), .val (.int p3), .val (.int (Int32.ofNat n)), .unset, .unset] [(.int p1)])
  refine Go.st (fun _ h => XS.iloadN X0.here hx rfl (hb hby at_6) rfl h) ?_
  show Go p e below _ s₁ (mkF m 7 #[.val (.int p1), .val (.int p2), .val (.int p3), .val (.int (Int32.ofNat n)), .unset, .unset] [(.int (Int32.ofNat n)), (.int p1)])
  obtain ⟨_, T1, L1, X1, ⟨r1, kk, rfl, Nc1, Kc1, Vc1⟩, st1⟩ := Does.static (y := (⟨"com/example/bindwell/bindwell/collect/ListChange", "run", "(II)[I"⟩ : MethodName)) (g := (mkF m 7 #[.val (.int p1), .val (.int p2), .val (.int p3), .val (.int (Int32.ofNat n)), .unset, .unset] [(.int (Int32.ofNat n)), (.int p1)])) (rmRun l Z a0 hw p1 n hn h0 n0 Z0) X0 hx hZ hown e0 (hw _ (List.mem_of_getElem? (i := 0) rfl)) (hw _ (List.mem_of_getElem? (i := 1) rfl)) (hw _ (List.mem_of_getElem? (i := 2) rfl)) (hw _ (List.mem_of_getElem? (i := 3) rfl)) (by decide) rfl (by rw [hml]; rfl) (argsL := [(.int p1), (.int (Int32.ofNat n))]) (rest := []) (lenOf pd_28II295bI rfl) rfl (hb hby at_7) (W := 0) (by show 2 * 0 + _ ≤ _; exact Nat.le_of_eq rfl) (by decide) (by decide) (by decide) (by decide)
  have K1 := (Keep.refl _ []).trans Kc1 all0
  have N1 := Fr.app N0 Nc1
  refine Go.st st1 ?_
  show Go p e below _ T1 (mkF m 10 #[.val (.int p1), .val (.int p2), .val (.int p3), .val (.int (Int32.ofNat n)), .unset, .unset] [(.ref r1)])
  refine Go.st (fun _ h => XS.astore X1.here hx rfl (hb hby at_10) rfl rfl (l' := #[.val (.int p1), .val (.int p2), .val (.int p3), .val (.int (Int32.ofNat n)), .val (.ref r1), .unset]) rfl h) ?_
  show Go p e below _ T1 (mkF m 12 #[.val (.int p1), .val (.int p2), .val (.int p3), .val (.int (Int32.ofNat n)), .val (.ref r1), .unset] [])
  refine Go.st (fun _ h => XS.aload X1.here hx rfl (hb hby at_12) rfl rfl h) ?_
  show Go p e below _ T1 (mkF m 14 #[.val (.int p1), .val (.int p2), .val (.int p3), .val (.int (Int32.ofNat n)), .val (.ref r1), .unset] [(.ref r1)])
  refine Go.st (own_len X1 hx hZ rfl Vc1 rfl rfl (hb hby at_14)) ?_
  show Go p e below _ T1 (mkF m 15 #[.val (.int p1), .val (.int p2), .val (.int p3), .val (.int (Int32.ofNat n)), .val (.ref r1), .unset] [(.int (Int32.ofNat n))])
  refine Go.st (fun _ h => XS.iloadN X1.here hx rfl (hb hby at_15) rfl h) ?_
  show Go p e below _ T1 (mkF m 16 #[.val (.int p1), .val (.int p2), .val (.int p3), .val (.int (Int32.ofNat n)), .val (.ref r1), .unset] [(.int (Int32.ofNat n)), (.int (Int32.ofNat n))])
  refine Go.st (fun _ h => XS.icmpYes X1.here hx rfl (pc0 := 16) (pc' := 21) rfl (hb hby at_16) rfl ((teq (rfl : (Int32.ofNat n) = (Int32.ofNat n))).1) (by decide) (by decide) h) ?_
  show Go p e below _ T1 (mkF m 21 #[.val (.int p1), .val (.int p2), .val (.int p3), .val (.int (Int32.ofNat n)), .val (.ref r1), .unset] [])
  refine Go.st (fun _ h => XS.iloadN X1.here hx rfl (hb hby at_21) rfl h) ?_
  show Go p e below _ T1 (mkF m 22 #[.val (.int p1), .val (.int p2), .val (.int p3), .val (.int (Int32.ofNat n)), .val (.ref r1), .unset] [(.int (Int32.ofNat n))])
  by_cases hz : Int32.ofNat n = (0 : Int32)
  ·
    refine Go.st (fun _ h => XS.ifNo X1.here hx rfl (hb hby at_22) rfl ((if0 _ _).trans (teq (hz : (Int32.ofNat n) = (0 : Int32))).2) h) ?_
    show Go p e below _ T1 (mkF m 25 #[.val (.int p1), .val (.int p2), .val (.int p3), .val (.int (Int32.ofNat n)), .val (.ref r1), .unset] [])
    refine Go.st (fun _ h => XT.iconstV X1.here hx rfl (1 : Int32) (hb hby at_25) (by decide) h) ?_
    show Go p e below _ T1 (mkF m 26 #[.val (.int p1), .val (.int p2), .val (.int p3), .val (.int (Int32.ofNat n)), .val (.ref r1), .unset] [(.int (1 : Int32))])
    refine Go.retZ X1 hx hlk hret rfl (hb hby at_26) (by decide) (by decide) ?_
    exact ⟨rfl, N1⟩
  ·
    have hp := own_pos hn hz
    have hpi : 0 < (Int32.ofNat n).toInt := by rw [own_ofNat hn]; omega
    refine Go.st (fun _ h => XS.ifYes X1.here hx rfl (pc0 := 22) (pc' := 27) rfl (hb hby at_22) rfl ((if0 _ _).trans (feq (hz : ¬ ((Int32.ofNat n) = (0 : Int32)))).2) (by decide) (by decide) h) ?_
    show Go p e below _ T1 (mkF m 27 #[.val (.int p1), .val (.int p2), .val (.int p3), .val (.int (Int32.ofNat n)), .val (.ref r1), .unset] [])
    refine Go.st (fun _ h => XS.iloadN X1.here hx rfl (hb hby at_27) rfl h) ?_
    show Go p e below _ T1 (mkF m 28 #[.val (.int p1), .val (.int p2), .val (.int p3), .val (.int (Int32.ofNat n)), .val (.ref r1), .unset] [(.int p3)])
    refine Go.st (fun _ h => X1.ldcI hx hown (mvT hZ (hw _ (List.mem_of_getElem? (i := 5) rfl))) rfl (hb hby at_28) h) ?_
    show Go p e below _ T1 (mkF m 30 #[.val (.int p1), .val (.int p2), .val (.int p3), .val (.int (Int32.ofNat n)), .val (.ref r1), .unset] [(.int (2147483647 : Int32)), (.int p3)])
    refine Go.st (fun _ h => XS.iand X1.here hx rfl (hb hby at_30) rfl h) ?_
    show Go p e below _ T1 (mkF m 31 #[.val (.int p1), .val (.int p2), .val (.int p3), .val (.int (Int32.ofNat n)), .val (.ref r1), .unset] [(.int (p3 &&& (2147483647 : Int32)))])
    refine Go.st (fun _ h => XS.iloadN X1.here hx rfl (hb hby at_31) rfl h) ?_
    show Go p e below _ T1 (mkF m 32 #[.val (.int p1), .val (.int p2), .val (.int p3), .val (.int (Int32.ofNat n)), .val (.ref r1), .unset] [(.int (Int32.ofNat n)), (.int (p3 &&& (2147483647 : Int32)))])
    refine Go.st (fun _ h => iremM X1 hx rfl (hb hby at_32) rfl hz h) ?_
    show Go p e below _ T1 (mkF m 33 #[.val (.int p1), .val (.int p2), .val (.int p3), .val (.int (Int32.ofNat n)), .val (.ref r1), .unset] [(.int ((p3 &&& (2147483647 : Int32)) % (Int32.ofNat n)))])
    refine Go.st (fun _ h => XS.istore X1.here hx rfl (hb hby at_33) rfl (l' := #[.val (.int p1), .val (.int p2), .val (.int p3), .val (.int (Int32.ofNat n)), .val (.ref r1), .val (.int ((p3 &&& (2147483647 : Int32)) % (Int32.ofNat n)))]) rfl h) ?_
    show Go p e below _ T1 (mkF m 35 #[.val (.int p1), .val (.int p2), .val (.int p3), .val (.int (Int32.ofNat n)), .val (.ref r1), .val (.int ((p3 &&& (2147483647 : Int32)) % (Int32.ofNat n)))] [])
    obtain ⟨q, h_q⟩ : ∃ z : Int32, z = ((p3 &&& (2147483647 : Int32)) % (Int32.ofNat n)) := ⟨_, rfl⟩
    rw [← h_q]
    show Go p e below _ T1 (mkF m 35 #[.val (.int p1), .val (.int p2), .val (.int p3), .val (.int (Int32.ofNat n)), .val (.ref r1), .val (.int q)] [])
    have hq : 0 ≤ q.toInt ∧ q.toInt < (Int32.ofNat n).toInt := by rw [h_q]; exact own_mod hpi
    have hq1 : q < Int32.ofNat n := by rw [Int32.lt_iff_toInt_lt]; exact hq.2
    refine Go.st (fun _ h => XS.aload X1.here hx rfl (hb hby at_35) rfl rfl h) ?_
    show Go p e below _ T1 (mkF m 37 #[.val (.int p1), .val (.int p2), .val (.int p3), .val (.int (Int32.ofNat n)), .val (.ref r1), .val (.int q)] [(.ref r1)])
    refine Go.st (fun _ h => XS.iload X1.here hx rfl (hb hby at_37) rfl h) ?_
    show Go p e below _ T1 (mkF m 39 #[.val (.int p1), .val (.int p2), .val (.int p3), .val (.int (Int32.ofNat n)), .val (.ref r1), .val (.int q)] [(.int q), (.ref r1)])
    refine Go.st (own_ldI X1 hx hZ rfl Vc1 (own_i0 hq.1) hq1 (own_run_at hn (own_i0 hq.1) hq1) rfl rfl (hb hby at_39)) ?_
    show Go p e below _ T1 (mkF m 40 #[.val (.int p1), .val (.int p2), .val (.int p3), .val (.int (Int32.ofNat n)), .val (.ref r1), .val (.int q)] [(.int (p1 + q))])
    refine Go.st (fun _ h => XS.iloadN X1.here hx rfl (hb hby at_40) rfl h) ?_
    show Go p e below _ T1 (mkF m 41 #[.val (.int p1), .val (.int p2), .val (.int p3), .val (.int (Int32.ofNat n)), .val (.ref r1), .val (.int q)] [(.int p1), (.int (p1 + q))])
    refine Go.st (fun _ h => XS.iload X1.here hx rfl (hb hby at_41) rfl h) ?_
    show Go p e below _ T1 (mkF m 43 #[.val (.int p1), .val (.int p2), .val (.int p3), .val (.int (Int32.ofNat n)), .val (.ref r1), .val (.int q)] [(.int q), (.int p1), (.int (p1 + q))])
    refine Go.st (fun _ h => XS.iadd X1.here hx rfl (hb hby at_43) rfl h) ?_
    show Go p e below _ T1 (mkF m 44 #[.val (.int p1), .val (.int p2), .val (.int p3), .val (.int (Int32.ofNat n)), .val (.ref r1), .val (.int q)] [(.int (p1 + q)), (.int (p1 + q))])
    refine Go.st (fun _ h => XS.icmpNo X1.here hx rfl (hb hby at_44) rfl ((teq (rfl : (p1 + q) = (p1 + q))).2) h) ?_
    show Go p e below _ T1 (mkF m 47 #[.val (.int p1), .val (.int p2), .val (.int p3), .val (.int (Int32.ofNat n)), .val (.ref r1), .val (.int q)] [])
    refine Go.st (fun _ h => XS.aload X1.here hx rfl (hb hby at_47) rfl rfl h) ?_
    show Go p e below _ T1 (mkF m 49 #[.val (.int p1), .val (.int p2), .val (.int p3), .val (.int (Int32.ofNat n)), .val (.ref r1), .val (.int q)] [(.ref r1)])
    refine Go.st (fun _ h => XT.iconstV X1.here hx rfl (0 : Int32) (hb hby at_49) (by decide) h) ?_
    show Go p e below _ T1 (mkF m 50 #[.val (.int p1), .val (.int p2), .val (.int p3), .val (.int (Int32.ofNat n)), .val (.ref r1), .val (.int q)] [(.int (0 : Int32)), (.ref r1)])
    refine Go.st (own_ldI X1 hx hZ rfl Vc1 (by decide) (own_lt hn hp) (own_run_at hn (by decide) (own_lt hn hp)) rfl rfl (hb hby at_50)) ?_
    show Go p e below _ T1 (mkF m 51 #[.val (.int p1), .val (.int p2), .val (.int p3), .val (.int (Int32.ofNat n)), .val (.ref r1), .val (.int q)] [(.int (p1 + (0 : Int32)))])
    refine Go.st (fun _ h => XS.iloadN X1.here hx rfl (hb hby at_51) rfl h) ?_
    show Go p e below _ T1 (mkF m 52 #[.val (.int p1), .val (.int p2), .val (.int p3), .val (.int (Int32.ofNat n)), .val (.ref r1), .val (.int q)] [(.int p1), (.int (p1 + (0 : Int32)))])
    refine Go.st (fun _ h => XS.icmpNo X1.here hx rfl (hb hby at_52) rfl ((teq (Int32.add_zero p1 : (p1 + (0 : Int32)) = p1)).2) h) ?_
    show Go p e below _ T1 (mkF m 55 #[.val (.int p1), .val (.int p2), .val (.int p3), .val (.int (Int32.ofNat n)), .val (.ref r1), .val (.int q)] [])
    refine Go.st (fun _ h => XS.aload X1.here hx rfl (hb hby at_55) rfl rfl h) ?_
    show Go p e below _ T1 (mkF m 57 #[.val (.int p1), .val (.int p2), .val (.int p3), .val (.int (Int32.ofNat n)), .val (.ref r1), .val (.int q)] [(.ref r1)])
    refine Go.st (fun _ h => XS.iloadN X1.here hx rfl (hb hby at_57) rfl h) ?_
    show Go p e below _ T1 (mkF m 58 #[.val (.int p1), .val (.int p2), .val (.int p3), .val (.int (Int32.ofNat n)), .val (.ref r1), .val (.int q)] [(.int (Int32.ofNat n)), (.ref r1)])
    refine Go.st (fun _ h => XT.iconstV X1.here hx rfl (1 : Int32) (hb hby at_58) (by decide) h) ?_
    show Go p e below _ T1 (mkF m 59 #[.val (.int p1), .val (.int p2), .val (.int p3), .val (.int (Int32.ofNat n)), .val (.ref r1), .val (.int q)] [(.int (1 : Int32)), (.int (Int32.ofNat n)), (.ref r1)])
    refine Go.st (fun _ h => XS.isub X1.here hx rfl (hb hby at_59) rfl h) ?_
    show Go p e below _ T1 (mkF m 60 #[.val (.int p1), .val (.int p2), .val (.int p3), .val (.int (Int32.ofNat n)), .val (.ref r1), .val (.int q)] [(.int ((Int32.ofNat n) - (1 : Int32))), (.ref r1)])
    rw [own_pred hn hp]
    show Go p e below _ T1 (mkF m 60 #[.val (.int p1), .val (.int p2), .val (.int p3), .val (.int (Int32.ofNat n)), .val (.ref r1), .val (.int q)] [(.int (Int32.ofNat (n - 1))), (.ref r1)])
    refine Go.st (own_ldI X1 hx hZ rfl Vc1 (own_nneg (by omega)) (own_lt hn (by omega)) (own_run_at hn (own_nneg (by omega)) (own_lt hn (by omega))) rfl rfl (hb hby at_60)) ?_
    show Go p e below _ T1 (mkF m 61 #[.val (.int p1), .val (.int p2), .val (.int p3), .val (.int (Int32.ofNat n)), .val (.ref r1), .val (.int q)] [(.int (p1 + (Int32.ofNat (n - 1))))])
    refine Go.st (fun _ h => XS.iloadN X1.here hx rfl (hb hby at_61) rfl h) ?_
    show Go p e below _ T1 (mkF m 62 #[.val (.int p1), .val (.int p2), .val (.int p3), .val (.int (Int32.ofNat n)), .val (.ref r1), .val (.int q)] [(.int p1), (.int (p1 + (Int32.ofNat (n - 1))))])
    refine Go.st (fun _ h => XS.iloadN X1.here hx rfl (hb hby at_62) rfl h) ?_
    show Go p e below _ T1 (mkF m 63 #[.val (.int p1), .val (.int p2), .val (.int p3), .val (.int (Int32.ofNat n)), .val (.ref r1), .val (.int q)] [(.int (Int32.ofNat n)), (.int p1), (.int (p1 + (Int32.ofNat (n - 1))))])
    refine Go.st (fun _ h => XT.iconstV X1.here hx rfl (1 : Int32) (hb hby at_63) (by decide) h) ?_
    show Go p e below _ T1 (mkF m 64 #[.val (.int p1), .val (.int p2), .val (.int p3), .val (.int (Int32.ofNat n)), .val (.ref r1), .val (.int q)] [(.int (1 : Int32)), (.int (Int32.ofNat n)), (.int p1), (.int (p1 + (Int32.ofNat (n - 1))))])
    refine Go.st (fun _ h => XS.isub X1.here hx rfl (hb hby at_64) rfl h) ?_
    show Go p e below _ T1 (mkF m 65 #[.val (.int p1), .val (.int p2), .val (.int p3), .val (.int (Int32.ofNat n)), .val (.ref r1), .val (.int q)] [(.int ((Int32.ofNat n) - (1 : Int32))), (.int p1), (.int (p1 + (Int32.ofNat (n - 1))))])
    refine Go.st (fun _ h => XS.iadd X1.here hx rfl (hb hby at_65) rfl h) ?_
    show Go p e below _ T1 (mkF m 66 #[.val (.int p1), .val (.int p2), .val (.int p3), .val (.int (Int32.ofNat n)), .val (.ref r1), .val (.int q)] [(.int (p1 + ((Int32.ofNat n) - (1 : Int32)))), (.int (p1 + (Int32.ofNat (n - 1))))])
    refine Go.st (fun _ h => XS.icmpNo X1.here hx rfl (hb hby at_66) rfl ((teq (by rw [own_pred hn hp] : (p1 + (Int32.ofNat (n - 1))) = (p1 + ((Int32.ofNat n) - (1 : Int32))))).2) h) ?_
    show Go p e below _ T1 (mkF m 69 #[.val (.int p1), .val (.int p2), .val (.int p3), .val (.int (Int32.ofNat n)), .val (.ref r1), .val (.int q)] [])
    refine Go.st (fun _ h => XT.iconstV X1.here hx rfl (1 : Int32) (hb hby at_69) (by decide) h) ?_
    show Go p e below _ T1 (mkF m 70 #[.val (.int p1), .val (.int p2), .val (.int p3), .val (.int (Int32.ofNat n)), .val (.ref r1), .val (.int q)] [(.int (1 : Int32))])
    refine Go.st (fun _ h => XS.goto X1.here hx rfl (pc0 := 70) (pc' := 74) rfl (hb hby at_70) (by decide) (by decide) h) ?_
    show Go p e below _ T1 (mkF m 74 #[.val (.int p1), .val (.int p2), .val (.int p3), .val (.int (Int32.ofNat n)), .val (.ref r1), .val (.int q)] [(.int (1 : Int32))])
    refine Go.retZ X1 hx hlk hret rfl (hb hby at_74) (by decide) (by decide) ?_
    exact ⟨rfl, N1⟩
set_option maxRecDepth 65536 in
set_option maxHeartbeats 40000000 in
theorem comes_1 {Post : Tables → Env → Array Value → State → Outcome → State → Prop} (hpost : ∀ tb e args s v u, (limb_1_1.after args s (.returned v) u = true ∧ limb_1_2.after args s (.returned v) u = true ∧ True) → FrameEnd s (.returned v) u (Jvm.fieldLocs frame_1_writes args s ++ Jvm.arrayLocs frame_1_arrays args s ++ Jvm.staticLocs frame_1_statics s) 16 128 → Post tb e args s (.returned v) u) :
    ArmFor flags0 classFile x code maxLocals ret World_1 tables_1 room_1 Calls_1 rest_1 Pre_1 Post := by
  intro l hfl _ _ p e ha hc hk s m args below hf hA hF happ hP
  obtain ⟨hcalls, hrest, hpre⟩ := hP
  obtain ⟨-, -, -, hnamed, -, -, -, hat⟩ := (Spec.applies_iff hf).mp happ
  obtain ⟨hg, hn⟩ := and_e (Cond.before_iff.mp (show (Jvm.Cond.and given_1 narrow_1).before args s = true from hpre))
  obtain ⟨g0, hg⟩ := and_e hg
  obtain ⟨g1, hg⟩ := and_e hg
  obtain ⟨g2, hg⟩ := and_e hg
  obtain ⟨w0, w1, w2, rfl⟩ : ∃ w0 w1 w2 : Value, args = #[w0, w1, w2] := by
    have hs : args.size = 3 := by simpa [Cond.value, given_1] using g0
    obtain ⟨L⟩ := args
    match L, hs with
    | [w0, w1, w2], _ => exact ⟨w0, w1, w2, rfl⟩
  have hw := fun d (hd : d ∈ tables_1) => atoms_spec (ws := Jvm.Cond.code x code maxLocals ret :: tables_1) hat d (List.mem_cons_of_mem _ hd)
  have hfit : Fit s := fun {y c} hc i hi => by
    obtain ⟨ha, rfl⟩ := Array.getElem?_eq_some_iff.mp hc
    have q := List.all_eq_true.mp ((Array.all_eq_true_iff_forall_mem.mp hF) _ (Array.getElem_mem ha)) i (List.mem_range.mpr hi)
    simpa [Array.getElem?_eq_getElem hi] using q
  obtain ⟨i0, q0⟩ := is_v g1
  obtain rfl : w0 = (.int i0) := Option.some.inj q0
  obtain ⟨i1, q1⟩ := is_v g2
  obtain rfl : w1 = (.int i1) := Option.some.inj q1
  obtain ⟨i2, q2⟩ := is_v hg
  obtain rfl : w2 = (.int i2) := Option.some.inj q2
  obtain ⟨n, o, h1, h2, h3, v, L, rfl, hP, hq⟩ := rmLaw l s _ hw i0 i1 i2 s.heap s.heap.size (Nat.le_refl _) p e ha hc hk s m _ below hf ((Spec.applies_iff_loose hf).mp happ).1 ⟨rfl, State.Warmed39.refl s, rfl⟩ trivial
  obtain ⟨rfl, N⟩ := hP
  refine ⟨n, _, h1, h2, h3, hpost _ _ _ _ _ _ ⟨Cond.after_iff.mpr rfl, Cond.after_iff.mpr (eq_i res_at (Term.int_eval (1)) rfl), trivial⟩ ⟨hq.1, hq.2.1, (hq.2.2.sift fun y hy => Or.inr (N y hy)).mono (by decide) (by decide)⟩⟩
theorem main_1_1 : Claimed_1_1 := comes_1 fun _ _ _ _ _ _ h hF => ⟨h.1, hF⟩
theorem main_1_2 : Claimed_1_2 := comes_1 fun _ _ _ _ _ _ h hF => ⟨h.2.1, hF⟩
end Jvm.Pilot.@@N@@
namespace Jvm.Pilot.@@N@@
open Jvm Jvm.ClassFile Sem Op Lib Jvm.Free Jvm.Stand Jvm.Pilot.@@N@@.Jvm.D
/-! MADE BY PROGRAM (witnessworld.py) out of the Statement's table words and the real class files: 9 classes; the members and pool entries that the words name. The judged class is class 1, her method 1. -/
namespace start1
open Jvm.ClassFile
def u (s : String) : CpInfo := .utf8 (stringToUtf16 s)
/-- a pool by its gaps: so many unusable entries, then the entry; so many at the end -/
def gap : Nat → List CpInfo → List CpInfo
  | 0, r => r
  | n + 1, r => .unusable :: gap n r
def poolList (es : List (Nat × CpInfo)) (last : Nat) : List CpInfo := es.foldr (fun e r => gap e.1 (e.2 :: r)) (gap last [])
def pool (es : List (Nat × CpInfo)) (last : Nat) : Array CpInfo := ⟨poolList es last⟩
def fileOf (pool : Array CpInfo) (this : Nat) (attrs : Array Attribute := #[]) (ms : Array MethodInfo := #[]) (fl : Nat := 33) (sup : Nat := 0) (ifs : Array Nat := #[]) (fds : Array FieldInfo := #[]) : ClassFile where
  minorVersion := 0
  majorVersion := 65
  constantPool := pool
  accessFlags := fl
  thisClass := this
  superClass := sup
  interfaces := ifs
  fields := fds
  methods := ms
  attributes := attrs
def plain (name : String) (sup : Option ClassId) : Class where
  name := name
  kind := .ordinary
  loader := none
  accessFlags := 33
  super := sup
  interfaces := #[]
  cf := none
  fields := #[]
  methods := #[]
  instanceTypes := #[]
  staticTypes := #[]
  resolved := #[]
  callSites := []
  init := .initialized
  statics := none
  mirror := none

def pool0 : Array CpInfo := pool [(5, u "<init>"), (0, u "()V"), (1, .class_ 10), (1, u "java/lang/Object")] 113

def k0m0 : Method := { name := "<init>", desc := "()V", sig := { parameters := [], returnType := none }, accessFlags := 1, code := none }
/-- java/lang/Object -/
def k0 : Class := { plain "java/lang/Object" none with
  accessFlags := 33
  interfaces := #[]
  cf := some (fileOf pool0 8 #[] #[{ accessFlags := 1, nameIndex := 5, descriptorIndex := 6, attributes := #[] }] 33 0 #[] #[])
  fields := #[]
  methods := #[k0m0]
  instanceTypes := #[]
  staticTypes := #[]
  resolved := Array.replicate 124 none
  statics := none }

def pool1 : Array CpInfo := pool [(2, .class_ 4), (1, u "java/lang/Object"), (0, u "<init>"), (0, u "()V"), (0, .methodref 8 9), (0, .class_ 10), (0, .nameAndType 11 12), (0, u "com/example/bindwell/bindwell/collect/ListChange"), (0, u "run"), (0, u "(II)[I"), (0, .integer 2147483647), (0, .class_ 15), (0, u "com/example/bindwell/bindwell/collect/ListChangeRunPinLaw"), (2, u "law"), (0, u "(III)Z")] 5

def k1m0 : Method := { name := "<init>", desc := "()V", sig := { parameters := [], returnType := none }, accessFlags := 1, code := none }
def k1c1 : Code := { maxStack := 4, maxLocals := 6, code := code, exceptionTable := #[], attributes := #[] }
def k1m1 : Method := { name := "law", desc := "(III)Z", sig := { parameters := [.int, .int, .int], returnType := some .boolean }, accessFlags := 9, code := some k1c1 }
/-- com/example/bindwell/bindwell/collect/ListChangeRunPinLaw -/
def k1 : Class := { plain "com/example/bindwell/bindwell/collect/ListChangeRunPinLaw" (some 0) with
  accessFlags := 49
  interfaces := #[]
  cf := some (fileOf pool1 14 #[] #[{ accessFlags := 1, nameIndex := 5, descriptorIndex := 6, attributes := #[] }, { accessFlags := 9, nameIndex := 18, descriptorIndex := 19, attributes := #[] }] 49 2 #[] #[])
  fields := #[]
  methods := #[k1m0, k1m1]
  instanceTypes := #[]
  staticTypes := #[]
  resolved := Array.replicate 25 none
  statics := none }

def pool2 : Array CpInfo := pool [(2, .class_ 4), (1, u "com/example/bindwell/bindwell/collect/ListChange"), (3, .class_ 10), (1, u "java/lang/Object"), (3, u "removed"), (0, u "Ljava/util/List;"), (2, u "removedAt"), (0, u "[I"), (2, u "added"), (2, u "addedAt"), (2, u "movedTo"), (8, u "NO_INDICES"), (6, u "run"), (0, u "(II)[I"), (38, u "number"), (0, u "J")] 95

def k2c0 : Code := { maxStack := 4, maxLocals := 4, code := prog_22_method_7_code, exceptionTable := #[], attributes := #[] }
def k2m0 : Method := { name := "run", desc := "(II)[I", sig := { parameters := [.int, .int], returnType := some (.array .int) }, accessFlags := 8, code := some k2c0 }
/-- com/example/bindwell/bindwell/collect/ListChange -/
def k2 : Class := { plain "com/example/bindwell/bindwell/collect/ListChange" (some 0) with
  accessFlags := 49
  interfaces := #[]
  cf := some (fileOf pool2 2 #[] #[{ accessFlags := 8, nameIndex := 44, descriptorIndex := 45, attributes := #[] }] 49 8 #[] #[{ accessFlags := 24, nameIndex := 37, descriptorIndex := 19, attributes := #[] }, { accessFlags := 18, nameIndex := 14, descriptorIndex := 15, attributes := #[] }, { accessFlags := 18, nameIndex := 18, descriptorIndex := 19, attributes := #[] }, { accessFlags := 18, nameIndex := 22, descriptorIndex := 15, attributes := #[] }, { accessFlags := 18, nameIndex := 25, descriptorIndex := 19, attributes := #[] }, { accessFlags := 18, nameIndex := 28, descriptorIndex := 19, attributes := #[] }, { accessFlags := 2, nameIndex := 84, descriptorIndex := 85, attributes := #[] }])
  fields := #[{ name := "NO_INDICES", type := (.array .int), accessFlags := 24, slot := 0, constantValue := 0 }, { name := "removed", type := (.object "java/util/List"), accessFlags := 18, slot := 0, constantValue := 0 }, { name := "removedAt", type := (.array .int), accessFlags := 18, slot := 1, constantValue := 0 }, { name := "added", type := (.object "java/util/List"), accessFlags := 18, slot := 2, constantValue := 0 }, { name := "addedAt", type := (.array .int), accessFlags := 18, slot := 3, constantValue := 0 }, { name := "movedTo", type := (.array .int), accessFlags := 18, slot := 4, constantValue := 0 }, { name := "number", type := .long, accessFlags := 2, slot := 5, constantValue := 0 }]
  methods := #[k2m0]
  instanceTypes := #[(.object "java/util/List"), (.array .int), (.object "java/util/List"), (.array .int), (.array .int), .long]
  staticTypes := #[(.array .int)]
  resolved := Array.replicate 181 none
  statics := none }

def pool3 : Array CpInfo := pool [(1, u "java/lang/Cloneable"), (0, .class_ 1), (0, u "java/lang/Object"), (0, .class_ 3)] 3

/-- java/lang/Cloneable -/
def k3 : Class := { plain "java/lang/Cloneable" (some 0) with
  accessFlags := 1537
  interfaces := #[]
  cf := some (fileOf pool3 2 #[] #[] 1537 4 #[] #[])
  fields := #[]
  methods := #[]
  instanceTypes := #[]
  staticTypes := #[]
  resolved := Array.replicate 8 none
  statics := none }

def pool4 : Array CpInfo := pool [(1, u "java/io/Serializable"), (0, .class_ 1), (0, u "java/lang/Object"), (0, .class_ 3)] 3

/-- java/io/Serializable -/
def k4 : Class := { plain "java/io/Serializable" (some 0) with
  accessFlags := 1537
  interfaces := #[]
  cf := some (fileOf pool4 2 #[] #[] 1537 4 #[] #[])
  fields := #[]
  methods := #[]
  instanceTypes := #[]
  staticTypes := #[]
  resolved := Array.replicate 8 none
  statics := none }

/-- the primitive byte -/
def k5 : Class := { plain "byte" none with kind := .primitive 'B', accessFlags := 0x411 }
/-- [B -/
def k6 : Class := { plain "[B" (some 0) with kind := .array 5 .byte, interfaces := #[3, 4], accessFlags := 1041 }

/-- the primitive int -/
def k7 : Class := { plain "int" none with kind := .primitive 'I', accessFlags := 0x411 }
/-- [I -/
def k8 : Class := { plain "[I" (some 0) with kind := .array 7 .int, interfaces := #[3, 4], accessFlags := 1041 }

def heap : Heap := #[]
def classes : Array Class := #[k0, k1, k2, k3, k4, k5, k6, k7, k8]
def interned : List (Array UInt16 × Addr) := []
def slotsUsed : Nat := 0
def theMethod : MethodId := ⟨1, 1⟩
def args0 : Array Value := #[.int 5, .int 6, .int 7]
def aboutOver (below : List Frame) : State where
  vm := { classes := classes, interned := interned.toArray }
  heap := heap
  slotsUsed := slotsUsed
  threads := #[{ frames := .invoking theMethod args0 :: below }]
def below0 : List Frame := [.native { method := ⟨0, 0⟩, args := #[] }]
def about1 : State := aboutOver below0
def p0 : Program := .bare "" "" ""
def e0 : Env := launch0.env 0 0 0
theorem w_frames : about1.frames = Frame.invoking theMethod args0 :: below0 := rfl
set_option maxRecDepth 65536 in
theorem w_args : argsFit about1.vm theMethod args0 = true := by decide +kernel
set_option maxRecDepth 65536 in
theorem w_heap : heapFits about1 = true := by decide +kernel
set_option maxRecDepth 65536 in
theorem w_runnable : about1.curStatus? = some .runnable := by decide +kernel
set_option maxRecDepth 65536 in
theorem w_alone : about1.alone = true := by decide +kernel
set_option maxRecDepth 65536 in
theorem w_named : about1.methodNamed? x = some theMethod := by decide +kernel
set_option maxRecDepth 65536 in
theorem w_hears : about1.hears theMethod below0 = true := by decide +kernel
set_option maxRecDepth 65536 in
theorem w_ripe : about1.ripe theMethod args0 below0 = true := by decide +kernel
theorem w_running : about1.status = .running := rfl
set_option maxRecDepth 65536 in
theorem w_room : about1.hasRoom e0.platform room_1 = true :=
  launch0.hasRoom_least _ room_1 (by decide +kernel) (by decide +kernel) (by decide +kernel) (by decide +kernel) (by decide +kernel) (by decide +kernel)
theorem allAtoms_all (ts : List Jvm.Cond) (a : Array Jvm.Value) (st : Jvm.State) : (allAtoms ts).before a st = ts.all (fun c => c.before a st) := by
  induction ts with
  | nil => rfl
  | cons c t ih =>
    show (Jvm.Cond.and c (allAtoms t)).before a st = _
    rw [Jvm.Cond.before_and, ih, List.all_cons]
def words1 : List Jvm.Cond := Jvm.Cond.code x code maxLocals ret :: tables_1
/-- a 'code' word, met by the world's own term for the bytes: nothing is compared byte by byte -/
theorem code_word {y : MethodName} {bytes : ByteArray} {mx : Nat} {rt : Option FieldType} {a : Array Value} {s : State} {m : MethodId} {meth : Method} {c : Code} (h1 : s.methodNamed? y = some m) (h2 : s.vm.method? m = some meth) (h3 : meth.code = some c) (h4 : c.code = bytes)
    (h5 : (c.maxLocals == mx && c.exceptionTable.isEmpty && decide (c.maxStack ≤ mostOperands) && decide (meth.sig.returnType = rt) && !meth.locks && decide (parseMethodDescriptor y.desc = some meth.sig)) = true) : (Jvm.Cond.code y bytes mx rt).before a s = true := by
  simp only [Bool.and_eq_true, beq_iff_eq, Bool.not_eq_true', decide_eq_true_eq] at h5
  obtain ⟨⟨⟨⟨⟨g1, g2⟩, g3⟩, g4⟩, g5⟩, g6⟩ := h5
  simp [Cond.before, Cond.holds, Cond.value, h1, h2, h3, h4, g1, g2, g3, g4, g5, g6]
def isCode : Jvm.Cond → Bool
  | .code _ _ _ _ => true
  | _ => false
theorem all_split {L : List Jvm.Cond} {P : Jvm.Cond → Bool} (h1 : L.all (fun c => isCode c || P c) = true) (h2 : ∀ c ∈ L.filter isCode, P c = true) : L.all P = true := by
  refine List.all_eq_true.mpr fun c hc => ?_
  have h := List.all_eq_true.mp h1 c hc
  rcases Bool.eq_false_or_eq_true (isCode c) with hi | hi
  · exact h2 c (List.mem_filter.mpr ⟨hc, hi⟩)
  · simpa [hi] using h
set_option maxRecDepth 65536 in
theorem w_c0 : (Jvm.Cond.code x code maxLocals ret).before args0 about1 = true := code_word (m := ⟨1, 1⟩) (meth := k1m1) (c := k1c1) (by decide +kernel) rfl rfl rfl (by decide +kernel)
set_option maxRecDepth 65536 in
theorem w_c1 : (Jvm.Cond.code ({ cls := "com/example/bindwell/bindwell/collect/ListChange", name := "run", desc := "(II)[I" } : Jvm.MethodName) prog_22_method_7_code (4 : Nat) (Option.some (Jvm.ClassFile.FieldType.array Jvm.ClassFile.FieldType.int))).before args0 about1 = true := code_word (m := ⟨2, 0⟩) (meth := k2m0) (c := k2c0) (by decide +kernel) rfl rfl rfl (by decide +kernel)
def codes1 : List Jvm.Cond := [Jvm.Cond.code x code maxLocals ret, Jvm.Cond.code ({ cls := "com/example/bindwell/bindwell/collect/ListChange", name := "run", desc := "(II)[I" } : Jvm.MethodName) prog_22_method_7_code (4 : Nat) (Option.some (Jvm.ClassFile.FieldType.array Jvm.ClassFile.FieldType.int))]
set_option maxRecDepth 65536 in
theorem codes_eq : words1.filter isCode = codes1 := rfl
theorem w_codes : ∀ c ∈ words1.filter isCode, c.before args0 about1 = true := by
  rw [codes_eq]
  intro c hc
  simp only [codes1, List.mem_cons, List.not_mem_nil, or_false] at hc
  rcases hc with rfl | rfl
  · exact w_c0
  · exact w_c1
set_option maxRecDepth 65536 in
theorem w_t1 : words1.all (fun c => isCode c || c.before args0 about1) = true := by decide +kernel
theorem w_tables : (allAtoms (Jvm.Cond.code x code maxLocals ret :: tables_1)).before args0 about1 = true := by
  rw [allAtoms_all]
  show words1.all (fun c => c.before args0 about1) = true
  refine all_split ?_ w_codes
  rw [w_t1]
set_option maxRecDepth 65536 in
theorem w_case : (Jvm.Cond.and given_1 narrow_1).before args0 about1 = true := by decide +kernel
theorem w_applies : (headSpec (Jvm.Cond.code x code maxLocals ret :: tables_1) room_1).applies x e0.platform about1 = true :=
  (Spec.applies_iff w_frames).mpr ⟨w_running, w_runnable, w_alone, w_named, w_hears, w_ripe, w_room, w_tables⟩
theorem atStart : AtStart classFile x code maxLocals ret World_1 tables_1 room_1 Calls_1 rest_1 Pre_1 launch0 p0 e0 about1 theMethod args0 below0 :=
  ⟨lists_1, trivial, launch0.admits_env _ _ _, launch0.least_env, fairChoices_fair.cas, fairChoices_fair.clock, w_frames, w_args, w_heap, w_applies, trivial, trivial, w_case⟩
end start1
theorem witness_1 : WitnessClaimed_1 := ⟨start1.p0, start1.e0, start1.about1, start1.theMethod, start1.args0, start1.below0, start1.atStart⟩
end Jvm.Pilot.@@N@@
