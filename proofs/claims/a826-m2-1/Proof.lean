import JvmDerived
import JvmDerived.Pilot.@@N@@Statement
import JvmDerived.Pilot.@@N@@Code
set_option linter.unusedVariables false
set_option linter.unusedSimpArgs false
@@BLOCK:NumsL.lean.txt@@
namespace Jvm.Pilot.@@N@@
open Jvm Jvm.ClassFile Sem Op Lib Jvm.Free Jvm.Stand Jvm.LawKit Jvm.RoadKit Bundle Jvm.Pilot.@@N@@.Jvm.D
/-! GoKit: a walk told forwards. Go: from this frame on the method comes to its end as Q says; Does: what a call of a method does (over the library's MetFree). -/
section GoKit
variable {p : Program} {l : Launch} {e : Env} {R : Room} {s : State} {m : MethodId} {args : Array Value} {below : List Frame} {meth : Method} {c : Code} {T T' : State} {locs : List Loc} {cells slots : Nat} {Z : State} {a0 : Array Value} {h : Heap} {g g' : JFrame} {Q : Outcome → State → Prop}
def Go (p : Program) (e : Env) (below : List Frame) (Q : Outcome → State → Prop) (T : State) (g : JFrame) : Prop :=
  ∃ s₂ o, Steps p.tables e below (T.setTop g) s₂ ∧ s₂.status = .running ∧ Ended s₂ below o ∧ Q o s₂
theorem Go.st (k : ∀ target, Steps p.tables e below (T'.setTop g') target → Steps p.tables e below (T.setTop g) target) (H : Go p e below Q T' g') : Go p e below Q T g := by
  obtain ⟨s₂, o, h1, r⟩ := H; exact ⟨s₂, o, k _ h1, r⟩
theorem Go.eq (q : g = g') (H : Go p e below Q T g') : Go p e below Q T g := q ▸ H
def Ends (s : State) (k n : Nat) (P : Option Value → Heap → List Loc → Prop) : Outcome → State → Prop :=
  fun o U' => ∃ v L, o = .returned v ∧ P v U'.heap L ∧ FrameEnd s o U' L k n
theorem Go.ret (X : Stand p l e R s m args below meth c T locs cells slots) (hx : p.tables.exec = Jvm.exec) (hlk : meth.locks = false) {pc : Nat} {Ls : Array Slot} {w : Value} {t : FieldType} {i : Instr} {rest : List Value} {P : Option Value → Heap → List Loc → Prop} {k n : Nat}
    (hret : meth.sig.returnType = some t) (hn : narrow t w = w)
    (hi : (i = .ireturn ∧ (t = .int ∨ t = .boolean ∨ t = .byte ∨ t = .char ∨ t = .short) ∧ ∃ z, w = .int z) ∨ (i = .lreturn ∧ t = .long ∧ ∃ z, w = .long z) ∨ (i = .dreturn ∧ t = .double ∧ ∃ z, w = .double z) ∨ (i = .freturn ∧ t = .float ∧ ∃ z, w = .float z) ∨ (i = .areturn ∧ t.isReference = true ∧ w.isRef = true))
    (hd : decode c.code pc = .ok (i, 1)) (hk : cells ≤ k) (hs : slots ≤ n) (hP : P (some w) T.heap locs) : Go p e below (Ends s k n P) T (mkF m pc Ls (w :: rest)) := by
  obtain ⟨fs, hr, hrun, hended, hW, hsame⟩ := X.leave (v := some w) (fun h => by rw [hret] at h; cases h) hlk
  exact ⟨_, _, retOut X hx hret hn hi hd hr, hrun, hended, _, _, rfl, hP, ⟨_, rfl⟩, hW, hsame.mono hk hs⟩
theorem Go.retV (X : Stand p l e R s m args below meth c T locs cells slots) (hx : p.tables.exec = Jvm.exec) (hlk : meth.locks = false) {pc : Nat} {Ls : Array Slot} {P : Option Value → Heap → List Loc → Prop} {k n : Nat}
    (hret : meth.sig.returnType = none) (hd : decode c.code pc = .ok (.return_, 1)) (hk : cells ≤ k) (hs : slots ≤ n) (hP : P none T.heap locs) : Go p e below (Ends s k n P) T (mkF m pc Ls []) := by
  obtain ⟨fs, hr, hrun, hended, hW, hsame⟩ := X.leave (v := none) (fun _ => rfl) hlk
  exact ⟨_, _, X.returnOut hx hret hd hr, hrun, hended, _, _, rfl, hP, ⟨_, rfl⟩, hW, hsame.mono hk hs⟩
theorem Go.retZ (X : Stand p l e R s m args below meth c T locs cells slots) (hx : p.tables.exec = Jvm.exec) (hlk : meth.locks = false) {pc : Nat} {Ls : Array Slot} {z : Int32} {rest : List Value} {P : Option Value → Heap → List Loc → Prop} {k n : Nat}
    (hret : meth.sig.returnType = some .boolean) (hn : narrow .boolean (.int z) = .int z) (hd : decode c.code pc = .ok (.ireturn, 1)) (hk : cells ≤ k) (hs : slots ≤ n) (hP : P (some (.int z)) T.heap locs) : Go p e below (Ends s k n P) T (mkF m pc Ls (.int z :: rest)) :=
  Go.ret X hx hlk hret hn (Or.inl ⟨rfl, Or.inr (Or.inl rfl), z, rfl⟩) hd hk hs hP
theorem Go.retC (X : Stand p l e R s m args below meth c T locs cells slots) (hx : p.tables.exec = Jvm.exec) (hlk : meth.locks = false) {pc : Nat} {Ls : Array Slot} {z : Int32} {rest : List Value} {P : Option Value → Heap → List Loc → Prop} {k n : Nat}
    (hret : meth.sig.returnType = some .char) (hn : narrow .char (.int z) = .int z) (hd : decode c.code pc = .ok (.ireturn, 1)) (hk : cells ≤ k) (hs : slots ≤ n) (hP : P (some (.int z)) T.heap locs) : Go p e below (Ends s k n P) T (mkF m pc Ls (.int z :: rest)) :=
  Go.ret X hx hlk hret hn (Or.inl ⟨rfl, Or.inr (Or.inr (Or.inr (Or.inl rfl))), z, rfl⟩) hd hk hs hP
theorem Go.retI (X : Stand p l e R s m args below meth c T locs cells slots) (hx : p.tables.exec = Jvm.exec) (hlk : meth.locks = false) {pc : Nat} {Ls : Array Slot} {z : Int32} {rest : List Value} {P : Option Value → Heap → List Loc → Prop} {k n : Nat}
    (hret : meth.sig.returnType = some .int) (hd : decode c.code pc = .ok (.ireturn, 1)) (hk : cells ≤ k) (hs : slots ≤ n) (hP : P (some (.int z)) T.heap locs) : Go p e below (Ends s k n P) T (mkF m pc Ls (.int z :: rest)) :=
  Go.ret X hx hlk hret rfl (Or.inl ⟨rfl, Or.inl rfl, z, rfl⟩) hd hk hs hP
theorem Go.retJ (X : Stand p l e R s m args below meth c T locs cells slots) (hx : p.tables.exec = Jvm.exec) (hlk : meth.locks = false) {pc : Nat} {Ls : Array Slot} {z : Int64} {rest : List Value} {P : Option Value → Heap → List Loc → Prop} {k n : Nat}
    (hret : meth.sig.returnType = some .long) (hd : decode c.code pc = .ok (.lreturn, 1)) (hk : cells ≤ k) (hs : slots ≤ n) (hP : P (some (.long z)) T.heap locs) : Go p e below (Ends s k n P) T (mkF m pc Ls (.long z :: rest)) :=
  Go.ret X hx hlk hret rfl (Or.inr (Or.inl ⟨rfl, rfl, z, rfl⟩)) hd hk hs hP
theorem Go.retA (X : Stand p l e R s m args below meth c T locs cells slots) (hx : p.tables.exec = Jvm.exec) (hlk : meth.locks = false) {pc : Nat} {Ls : Array Slot} {w : Value} {t : FieldType} {rest : List Value} {P : Option Value → Heap → List Loc → Prop} {k n : Nat}
    (hret : meth.sig.returnType = some t) (ht : t.isReference = true) (hw : w.isRef = true) (hn : narrow t w = w) (hd : decode c.code pc = .ok (.areturn, 1)) (hk : cells ≤ k) (hs : slots ≤ n) (hP : P (some w) T.heap locs) : Go p e below (Ends s k n P) T (mkF m pc Ls (w :: rest)) :=
  Go.ret X hx hlk hret hn (Or.inr (Or.inr (Or.inr (Or.inr ⟨rfl, ht, hw⟩)))) hd hk hs hP
/-- what a call does: the arguments, the heap before, and P: what it returns, the heap behind, the places written -/
def Does (l : Launch) (Z : State) (y : MethodName) (bytes : ByteArray) (maxL : Nat) (ret : Option FieldType) (ws : List Jvm.Cond) (rm : Room) (as' : Array Value) (h : Heap) (P : Option Value → Heap → List Loc → Prop) : Prop :=
  MetFree l y (head1 (Jvm.Cond.code y bytes maxL ret :: ws) rm) (fun a U => a = as' ∧ Z.Warmed39 U.vm ∧ U.heap = h) (fun _ _ _ _ _ => True) (fun _ U o U' => ∃ v L, o = .returned v ∧ P v U'.heap L ∧ FrameEnd U o U' L rm.cells rm.slots)
theorem Does.intro {y : MethodName} {bytes : ByteArray} {maxL : Nat} {ret : Option FieldType} {ws : List Jvm.Cond} {rm : Room} {as' : Array Value} {P : Option Value → Heap → List Loc → Prop} {Ls : Array Slot} (hpn : plainName y.cls = true) (hef : ∀ m, entryFrame m as' maxL = mkF m 0 Ls [])
    (body : ∀ (p : Program) (e : Env) (s : State) (m : MethodId) (below : List Frame) (meth : Method) (c : Code) (s₁ : State), p.tables.exec = Jvm.exec → c.code = bytes → c.maxLocals = maxL → s.vm.findClass y.cls = some m.cls → meth.name = y.name → meth.sig.returnType = ret → meth.locks = false →
      Z.Warmed39 s.vm → s₁.heap = h → Stand p l e rm s m as' below meth c s₁ [] 0 0 → Go p e below (Ends s rm.cells rm.slots P) s₁ (mkF m 0 Ls [])) : Does l Z y bytes maxL ret ws rm as' h P := by
  refine MetFree.of_bodySF (plainFor_of_name hpn) hisR ?_
  intro p e s m args below meth c s₁ Bd hml0 hP hK
  obtain ⟨rfl, hZ, hh⟩ := hP
  have := body p e s m below meth c s₁ Bd.exec Bd.bytes hml0 (findClass_of_methodNamed Bd.named) (name_of_methodNamed Bd.named Bd.method).1 Bd.returns Bd.notSynchronized hZ (by rw [← hh, Bd.state]; rfl) (Stand.of_body Bd)
  obtain ⟨s₂, o, h1, h2, h3, h4⟩ := this
  exact ⟨s₂, o, castTop (hef m) h1, h2, h3, h4⟩
theorem Does.mono {y : MethodName} {bytes : ByteArray} {maxL : Nat} {ret : Option FieldType} {ws : List Jvm.Cond} {rm : Room} {as' : Array Value} {P P' : Option Value → Heap → List Loc → Prop} (D : Does l Z y bytes maxL ret ws rm as' h P) (q : ∀ v h' L, P v h' L → P' v h' L) : Does l Z y bytes maxL ret ws rm as' h P' := by
  intro p e ha hc hk s m args below hf happ hP hK
  obtain ⟨n, o, h1, h2, h3, v, L, h4, h5, h6⟩ := D p e ha hc hk s m args below hf happ hP hK
  exact ⟨n, o, h1, h2, h3, v, L, h4, q _ _ _ h5, h6⟩
theorem Does.static {y : MethodName} {bytes : ByteArray} {maxL : Nat} {ret : Option FieldType} {rm : Room} {P : Option Value → Heap → List Loc → Prop} {own : String} {index : Nat} {argsL rest : List Value} (D : Does l Z y bytes maxL ret [] rm argsL.toArray h P)
    (X : Stand p l e R s m args below meth c T locs cells slots) (hx : p.tables.exec = Jvm.exec) (hZ : Z.Warmed39 s.vm) (hown : s.vm.findClass own = some m.cls) (eT : T.heap = h) (w1 : (Cond.methodLink own index y).before a0 Z = true) (w2 : (Cond.static y).before a0 Z = true) (w3 : (Cond.initialized y.cls).before a0 Z = true) (w4 : (Cond.code y bytes maxL ret).before a0 Z = true)
    (hy : y.cls ≠ "java/lang/invoke/MethodHandle" ∧ y.cls ≠ "java/lang/invoke/VarHandle") (hg : g.method = m) (hsize : g.locals.size = c.maxLocals) (hlen : ∀ sig, parseMethodDescriptor y.desc = some sig → argsL.length = sig.parameters.length)
    (hstack : g.stack = argsL.reverse ++ rest) (hd : decode c.code g.pc = .ok (.invokestatic index, 3)) {W : Nat} (hW : 2 * g.monitorRoom + (rest.map fun v => v.category).sum ≤ W) (hf : rm.frames + 1 ≤ R.frames) (hl : W + (maxL + 11) + rm.locals ≤ R.locals) (hc : cells + rm.cells ≤ R.cells) (hs : slots + rm.slots ≤ R.slots) :
    ∃ v T' L, Stand p l e R s m args below meth c T' (locs ++ L) (cells + rm.cells) (slots + rm.slots) ∧ P v T'.heap L ∧ ∀ target, Steps p.tables e below (T'.setTop { g with pc := g.pc + 3, stack := v.toList ++ rest }) target → Steps p.tables e below (T.setTop g) target := by
  obtain ⟨v, vm₁, ⟨T', L', k', n'⟩, -, X', ⟨L, hQ, q1, q2, q3⟩, st⟩ := Jvm.LawKit.callS X hx (y := y) hown (mvT hZ w1) (mvT hZ w2) (mvT hZ w3) (mvT hZ w4) hy (backOf (W := W) D hZ w4 w3 hf hl) hg hsize (argsL := argsL) (rest := rest) hlen hstack hW hd (fun _ _ => ⟨rfl, eT, hc, hs⟩)
  dsimp only [Pt.U, Pt.locs, Pt.cells, Pt.slots] at X' q1 q2 q3 st hQ
  subst q1 q2 q3
  exact ⟨v, T', L, X', hQ, st⟩
theorem Does.special {y : MethodName} {bytes : ByteArray} {maxL : Nat} {rm : Room} {P : Option Value → Heap → List Loc → Prop} {own : String} {index : Nat} {a : Addr} {argsL rest : List Value} (D : Does l Z y bytes maxL none [] rm (.ref a :: argsL).toArray h P)
    (X : Stand p l e R s m args below meth c T locs cells slots) (hx : p.tables.exec = Jvm.exec) (hZ : Z.Warmed39 s.vm) (hown : s.vm.findClass own = some m.cls) (eT : T.heap = h) (hnm : y.name = "<init>") (w1 : (Cond.methodLink own index y).before a0 Z = true) (w2 : (Cond.instanceMethod y).before a0 Z = true) (w3 : (Cond.initialized y.cls).before a0 Z = true) (w4 : (Cond.code y bytes maxL none).before a0 Z = true)
    (hy : y.cls ≠ "java/lang/invoke/MethodHandle" ∧ y.cls ≠ "java/lang/invoke/VarHandle") (hg : g.method = m) (hsize : g.locals.size = c.maxLocals) (hlen : ∀ sig, parseMethodDescriptor y.desc = some sig → argsL.length = sig.parameters.length)
    (hstack : g.stack = argsL.reverse ++ .ref a :: rest) (hd : decode c.code g.pc = .ok (.invokespecial index, 3)) {W : Nat} (hW : 2 * g.monitorRoom + (rest.map fun v => v.category).sum ≤ W) (hf : rm.frames + 1 ≤ R.frames) (hl : W + (maxL + 11) + rm.locals ≤ R.locals) (hc : cells + rm.cells ≤ R.cells) (hs : slots + rm.slots ≤ R.slots) :
    ∃ v T' L, Stand p l e R s m args below meth c T' (locs ++ L) (cells + rm.cells) (slots + rm.slots) ∧ P v T'.heap L ∧ ∀ target, Steps p.tables e below (T'.setTop { g with pc := g.pc + 3, stack := v.toList ++ rest }) target → Steps p.tables e below (T.setTop g) target := by
  obtain ⟨v, vm₁, ⟨T', L', k', n'⟩, -, X', ⟨L, hQ, q1, q2, q3⟩, st⟩ := X.specialBack hx (y := y) hnm hown (mvT hZ w1) (mvT hZ w2) (mvT hZ w4) hy (backOf (W := W) D hZ w4 w3 hf hl) hg hsize (Steps.refl _) (a := a) (argsL := argsL) (rest := rest) hlen hstack hW hd (fun _ _ => ⟨rfl, eT, hc, hs⟩)
  dsimp only [Pt.U, Pt.locs, Pt.cells, Pt.slots] at X' q1 q2 q3 st hQ
  subst q1 q2 q3
  exact ⟨v, T', L, X', hQ, fun _ k => st.trans k⟩
theorem Does.virtual {y : MethodName} {bytes : ByteArray} {maxL : Nat} {ret : Option FieldType} {rm : Room} {P : Option Value → Heap → List Loc → Prop} {own C : String} {index : Nat} {a : Addr} {argsL rest : List Value} (D : Does l Z y bytes maxL ret [] rm (.ref a :: argsL).toArray h P)
    (X : Stand p l e R s m args below meth c T locs cells slots) (hx : p.tables.exec = Jvm.exec) (hZ : Z.Warmed39 s.vm) (hown : s.vm.findClass own = some m.cls) (eT : T.heap = h) (E : Exa Z h a C) (w1 : (Cond.methodLink own index y).before a0 Z = true) (w2 : (Cond.declares y).before a0 Z = true) (w2' : (Cond.selects C y y).before a0 Z = true) (w2'' : (Cond.instanceMethod y).before a0 Z = true) (w3 : (Cond.initialized y.cls).before a0 Z = true) (w4 : (Cond.code y bytes maxL ret).before a0 Z = true)
    (hy : y.cls ≠ "java/lang/invoke/MethodHandle" ∧ y.cls ≠ "java/lang/invoke/VarHandle") (hg : g.method = m) (hsize : g.locals.size = c.maxLocals) (hlen : ∀ sig, parseMethodDescriptor y.desc = some sig → argsL.length = sig.parameters.length)
    (hstack : g.stack = argsL.reverse ++ .ref a :: rest) (hd : decode c.code g.pc = .ok (.invokevirtual index, 3)) {W : Nat} (hW : 2 * g.monitorRoom + (rest.map fun v => v.category).sum ≤ W) (hf : rm.frames + 1 ≤ R.frames) (hl : W + (maxL + 11) + rm.locals ≤ R.locals) (hc : cells + rm.cells ≤ R.cells) (hs : slots + rm.slots ≤ R.slots) :
    ∃ v T' L, Stand p l e R s m args below meth c T' (locs ++ L) (cells + rm.cells) (slots + rm.slots) ∧ P v T'.heap L ∧ ∀ target, Steps p.tables e below (T'.setTop { g with pc := g.pc + 3, stack := v.toList ++ rest }) target → Steps p.tables e below (T.setTop g) target := by
  obtain ⟨cB, kB, q1, -, q3⟩ := isOf hZ eT E
  obtain ⟨v, vm₁, ⟨T', L', k', n'⟩, -, X', ⟨L, hQ, q1, q2, q3⟩, st⟩ := X.virtualBack hx (y := y) (z := y) hown (mvT hZ w1) (mvT hZ w2) (notFace_of_selects (args := #[]) (mvT hZ w2')) (mvT hZ w2') (mvT hZ w2'') hy (backOf (W := W) D hZ w4 w3 hf hl) q1 q3 hg hsize (Steps.refl _) (argsL := argsL) (rest := rest) hlen hstack hW hd (fun _ _ => ⟨rfl, eT, hc, hs⟩)
  dsimp only [Pt.U, Pt.locs, Pt.cells, Pt.slots] at X' q1 q2 q3 st hQ
  subst q1 q2 q3
  exact ⟨v, T', L, X', hQ, fun _ k => st.trans k⟩
theorem Does.virtualUp {x' z : MethodName} {owner : String} {bytes : ByteArray} {maxL : Nat} {ret : Option FieldType} {rm : Room} {P : Option Value → Heap → List Loc → Prop} {own C : String} {index : Nat} {a : Addr} {argsL rest : List Value} (D : Does l Z z bytes maxL ret [] rm (.ref a :: argsL).toArray h P)
    (X : Stand p l e R s m args below meth c T locs cells slots) (hx : p.tables.exec = Jvm.exec) (hZ : Z.Warmed39 s.vm) (hown : s.vm.findClass own = some m.cls) (eT : T.heap = h) (E : Exa Z h a C) (w1 : (Cond.methodLink own index x').before a0 Z = true) (w1' : (Cond.sameMethod x'.cls owner x'.name x'.desc).before a0 Z = true) (w2 : (Cond.declares ⟨owner, x'.name, x'.desc⟩).before a0 Z = true) (w2' : (Cond.selects C x' z).before a0 Z = true) (w2'' : (Cond.instanceMethod z).before a0 Z = true) (w3 : (Cond.initialized z.cls).before a0 Z = true) (w4 : (Cond.code z bytes maxL ret).before a0 Z = true)
    (hy : owner ≠ "java/lang/invoke/MethodHandle" ∧ owner ≠ "java/lang/invoke/VarHandle") (hg : g.method = m) (hsize : g.locals.size = c.maxLocals) (hlen : ∀ sig, parseMethodDescriptor x'.desc = some sig → argsL.length = sig.parameters.length)
    (hstack : g.stack = argsL.reverse ++ .ref a :: rest) (hd : decode c.code g.pc = .ok (.invokevirtual index, 3)) {W : Nat} (hW : 2 * g.monitorRoom + (rest.map fun v => v.category).sum ≤ W) (hf : rm.frames + 1 ≤ R.frames) (hl : W + (maxL + 11) + rm.locals ≤ R.locals) (hc : cells + rm.cells ≤ R.cells) (hs : slots + rm.slots ≤ R.slots) :
    ∃ v T' L, Stand p l e R s m args below meth c T' (locs ++ L) (cells + rm.cells) (slots + rm.slots) ∧ P v T'.heap L ∧ ∀ target, Steps p.tables e below (T'.setTop { g with pc := g.pc + 3, stack := v.toList ++ rest }) target → Steps p.tables e below (T.setTop g) target := by
  obtain ⟨cB, kB, q1, -, q3⟩ := isOf hZ eT E
  obtain ⟨v, vm₁, ⟨T', L', k', n'⟩, -, X', ⟨L, hQ, q1, q2, q3⟩, st⟩ := X.virtualBackUp hx (x := x') (y := z) hown (mvT hZ w1) (mvT hZ w1') (mvT hZ w2) hy (mvT hZ w2') (mvT hZ w2'') (backOf (W := W) D hZ w4 w3 hf hl) q1 q3 hg hsize (Steps.refl _) (argsL := argsL) (rest := rest) hlen hstack hW hd (fun _ _ => ⟨rfl, eT, hc, hs⟩)
  dsimp only [Pt.U, Pt.locs, Pt.cells, Pt.slots] at X' q1 q2 q3 st hQ
  subst q1 q2 q3
  exact ⟨v, T', L, X', hQ, fun _ k => st.trans k⟩
/-- a call that leaves the heap as it was and returns w -/
abbrev Val (w : Option Value) (h : Heap) : Option Value → Heap → List Loc → Prop := fun v h' L => v = w ∧ L = [] ∧ h' = h
theorem own_still {w : Option Value} {rm : Room} {rest : List Value} (hc : rm.cells = 0) (hs : rm.slots = 0)
    (H : ∃ v T' L, Stand p l e R s m args below meth c T' (locs ++ L) (cells + rm.cells) (slots + rm.slots) ∧ Val w h v T'.heap L ∧ ∀ target, Steps p.tables e below (T'.setTop { g with pc := g.pc + 3, stack := v.toList ++ rest }) target → Steps p.tables e below (T.setTop g) target) :
    ∃ T', Stand p l e R s m args below meth c T' locs cells slots ∧ T'.heap = h ∧ ∀ target, Steps p.tables e below (T'.setTop { g with pc := g.pc + 3, stack := w.toList ++ rest }) target → Steps p.tables e below (T.setTop g) target := by
  obtain ⟨v, T', L, X', ⟨rfl, rfl, e'⟩, st⟩ := H
  rw [hc, hs, List.append_nil] at X'
  exact ⟨T', X', e', st⟩
theorem own_Llt {x y : Int64} (h : x < y) : XT.cmpL x y < 0 := (lw_lt x y).mpr h
theorem own_Lnlt {x y : Int64} (h : ¬ x < y) : ¬ XT.cmpL x y < 0 := fun q => h ((lw_lt x y).mp q)
theorem own_Lgt {x y : Int64} (h : y < x) : 0 < XT.cmpL x y := (lw_gt x y).mpr h
theorem own_Lngt {x y : Int64} (h : ¬ y < x) : ¬ 0 < XT.cmpL x y := fun q => h ((lw_gt x y).mp q)
theorem own_Leq {x y : Int64} (h : x = y) : XT.cmpL x y = 0 := (lw_eq x y).mpr h
theorem own_Lneq {x y : Int64} (h : ¬ x = y) : ¬ XT.cmpL x y = 0 := fun q => h ((lw_eq x y).mp q)
theorem own_aeq {a b : Addr} (h : a = b) : XT.acmp .eq (.ref a) (.ref b) = true ∧ XT.acmp .ne (.ref a) (.ref b) = false := by subst h; exact ⟨decide_eq_true rfl, decide_eq_false (fun q => q rfl)⟩
theorem own_ane {a b : Addr} (h : ¬ a = b) : XT.acmp .eq (.ref a) (.ref b) = false ∧ XT.acmp .ne (.ref a) (.ref b) = true := ⟨decide_eq_false (fun q => h (by cases q; rfl)), decide_eq_true (fun q => h (by cases q; rfl))⟩
theorem own_ext {h0 h : Heap} (K : Keep h0 h []) : Ext h0 h := ⟨K.1, fun x c q => K.2.1 x c q nin0⟩
end GoKit
/-! ArrKit: arrays by Arv, one law a step -/
section ArrKit
variable {p : Program} {l : Launch} {e : Env} {R : Room} {s : State} {m : MethodId} {args : Array Value} {below : List Frame} {meth : Method} {c : Code} {T T' : State} {locs : List Loc} {cells slots : Nat} {Z : State} {a0 : Array Value} {h : Heap} {g g' : JFrame} {a : Addr} {k : ClassId} {z j : Int32} {vs : List Value} {dv : Value} {rest : List Value} {ty : FieldType}
theorem own_stI (X : Stand p l e R s m args below meth c T locs cells slots) (hx : p.tables.exec = Jvm.exec) (hZ : Z.Warmed39 s.vm) (eT : T.heap = h) (Vv : Arv Z h a k .int z vs dv) {x : Int32} (hj0 : ¬ j < 0) (hj1 : j < z) (i : Nat) (hi : j.toNatClampNeg = i) (hl : i < vs.length) (hg : g.method = m) (hs : g.stack = .int x :: .int j :: .ref a :: rest) (hd : decode c.code g.pc = .ok (.iastore, 1)) :
    ∃ T' h', Stand p l e R s m args below meth c T' (locs ++ [⟨a, j.toNatClampNeg⟩]) cells slots ∧ T'.heap = h' ∧ Wr h h' a j.toNatClampNeg (.int x) ∧ Arv Z h' a k .int z (vs.set i (.int x)) dv ∧ ∀ target, Steps p.tables e below (T'.setTop { g with pc := g.pc + 1, stack := rest }) target → Steps p.tables e below (T.setTop g) target := by
  obtain ⟨c', A, q1, S, q3, H, G⟩ := Vv
  obtain ⟨T', h', X', e', W, st⟩ := stI X hx hZ eT A (inb_of S ⟨hj0, hj1⟩) hg hs hd
  exact ⟨T', h', X', e', W, Arv.set A q1 S q3 H G rfl W i hi hl, st⟩
theorem own_stC (X : Stand p l e R s m args below meth c T locs cells slots) (hx : p.tables.exec = Jvm.exec) (hZ : Z.Warmed39 s.vm) (eT : T.heap = h) (Vv : Arv Z h a k .char z vs dv) {x : Int32} (hj0 : ¬ j < 0) (hj1 : j < z) (i : Nat) (hi : j.toNatClampNeg = i) (hl : i < vs.length) (hg : g.method = m) (hs : g.stack = .int x :: .int j :: .ref a :: rest) (hd : decode c.code g.pc = .ok (.castore, 1)) :
    ∃ T' h', Stand p l e R s m args below meth c T' (locs ++ [⟨a, j.toNatClampNeg⟩]) cells slots ∧ T'.heap = h' ∧ Wr h h' a j.toNatClampNeg (.int (nar .char x)) ∧ Arv Z h' a k .char z (vs.set i (.int (nar .char x))) dv ∧ ∀ target, Steps p.tables e below (T'.setTop { g with pc := g.pc + 1, stack := rest }) target → Steps p.tables e below (T.setTop g) target := by
  obtain ⟨c', A, q1, S, q3, H, G⟩ := Vv
  obtain ⟨T', h', X', e', W, st⟩ := stC X hx hZ eT A (inb_of S ⟨hj0, hj1⟩) hg hs hd
  exact ⟨T', h', X', e', W, Arv.set A q1 S q3 H G (fits_nar_char x) W i hi hl, st⟩
theorem own_stR (X : Stand p l e R s m args below meth c T locs cells slots) (hx : p.tables.exec = Jvm.exec) (hZ : Z.Warmed39 s.vm) (eT : T.heap = h) {C K : String} (Vv : Arv Z h a k (.object C) z vs dv) (O : Ovr Z k K) {y : Addr} (I : Ins Z h y K true) (hj0 : ¬ j < 0) (hj1 : j < z) (i : Nat) (hi : j.toNatClampNeg = i) (hl : i < vs.length) (hg : g.method = m) (hs : g.stack = .ref y :: .int j :: .ref a :: rest) (hd : decode c.code g.pc = .ok (.aastore, 1)) :
    ∃ T' h', Stand p l e R s m args below meth c T' (locs ++ [⟨a, j.toNatClampNeg⟩]) cells slots ∧ T'.heap = h' ∧ Wr h h' a j.toNatClampNeg (.ref y) ∧ Arv Z h' a k (.object C) z (vs.set i (.ref y)) dv ∧ ∀ target, Steps p.tables e below (T'.setTop { g with pc := g.pc + 1, stack := rest }) target → Steps p.tables e below (T.setTop g) target := by
  obtain ⟨c', A, q1, S, q3, H, G⟩ := Vv
  obtain ⟨T', h', X', e', W, st⟩ := stR X hx hZ eT A (inb_of S ⟨hj0, hj1⟩) rfl (Sto.ofV A q1 O I) hg hs hd
  exact ⟨T', h', X', e', W, Arv.set A q1 S q3 H G rfl W i hi hl, st⟩
theorem own_ldI (X : Stand p l e R s m args below meth c T locs cells slots) (hx : p.tables.exec = Jvm.exec) (hZ : Z.Warmed39 s.vm) (eT : T.heap = h) (Vv : Arv Z h a k .int z vs dv) {w : Int32} (hj0 : ¬ j < 0) (hj1 : j < z) (hv : vs.getD j.toNatClampNeg dv = .int w) (hg : g.method = m) (hs : g.stack = .int j :: .ref a :: rest) (hd : decode c.code g.pc = .ok (.iaload, 1)) :
    ∀ target, Steps p.tables e below (T.setTop { g with pc := g.pc + 1, stack := .int w :: rest }) target → Steps p.tables e below (T.setTop g) target := by
  obtain ⟨c', A, q1, S, q3, H, G⟩ := Vv
  have q := inb_of S ⟨hj0, hj1⟩
  exact fun t k => X.iaload hx (by rw [eT]; exact A.1) (State.isArrayOf_alike hZ.alike A.2.1) A.2.2 q (Has.at H q hv) hg hs hd t k
theorem own_ldC (X : Stand p l e R s m args below meth c T locs cells slots) (hx : p.tables.exec = Jvm.exec) (hZ : Z.Warmed39 s.vm) (eT : T.heap = h) (Vv : Arv Z h a k .char z vs dv) {w : Int32} (hj0 : ¬ j < 0) (hj1 : j < z) (hv : vs.getD j.toNatClampNeg dv = .int w) (hg : g.method = m) (hs : g.stack = .int j :: .ref a :: rest) (hd : decode c.code g.pc = .ok (.caload, 1)) :
    ∀ target, Steps p.tables e below (T.setTop { g with pc := g.pc + 1, stack := .int w :: rest }) target → Steps p.tables e below (T.setTop g) target := by
  obtain ⟨c', A, q1, S, q3, H, G⟩ := Vv
  have q := inb_of S ⟨hj0, hj1⟩
  exact fun t k => X.caload hx (by rw [eT]; exact A.1) (State.isArrayOf_alike hZ.alike A.2.1) A.2.2 q (Has.at H q hv) hg hs hd t k
theorem own_ldB (X : Stand p l e R s m args below meth c T locs cells slots) (hx : p.tables.exec = Jvm.exec) (hZ : Z.Warmed39 s.vm) (eT : T.heap = h) (Vv : Arv Z h a k .byte z vs dv) {w : Int32} (hj0 : ¬ j < 0) (hj1 : j < z) (hv : vs.getD j.toNatClampNeg dv = .int w) (hg : g.method = m) (hs : g.stack = .int j :: .ref a :: rest) (hd : decode c.code g.pc = .ok (.baload, 1)) :
    ∀ target, Steps p.tables e below (T.setTop { g with pc := g.pc + 1, stack := .int w :: rest }) target → Steps p.tables e below (T.setTop g) target := by
  obtain ⟨c', A, q1, S, q3, H, G⟩ := Vv
  have q := inb_of S ⟨hj0, hj1⟩
  exact fun t k => X.baloadBytes hx (by rw [eT]; exact A.1) (State.isArrayOf_alike hZ.alike A.2.1) A.2.2 q (Has.at H q hv) hg hs hd t k
theorem own_ldR (X : Stand p l e R s m args below meth c T locs cells slots) (hx : p.tables.exec = Jvm.exec) (hZ : Z.Warmed39 s.vm) (eT : T.heap = h) (Vv : Arv Z h a k ty z vs dv) (hty : ty.isReference = true) {w : Value} (hj0 : ¬ j < 0) (hj1 : j < z) (hv : vs.getD j.toNatClampNeg dv = w) (hg : g.method = m) (hs : g.stack = .int j :: .ref a :: rest) (hd : decode c.code g.pc = .ok (.aaload, 1)) :
    ∀ target, Steps p.tables e below (T.setTop { g with pc := g.pc + 1, stack := w :: rest }) target → Steps p.tables e below (T.setTop g) target := by
  obtain ⟨c', A, q1, S, q3, H, G⟩ := Vv
  have q := inb_of S ⟨hj0, hj1⟩
  exact fun t k => X.aaload hx (by rw [eT]; exact A.1) (State.isArrayOf_alike hZ.alike A.2.1) hty A.2.2 q (Has.at H q hv) hg hs hd t k
theorem own_len (X : Stand p l e R s m args below meth c T locs cells slots) (hx : p.tables.exec = Jvm.exec) (hZ : Z.Warmed39 s.vm) (eT : T.heap = h) (Vv : Arv Z h a k ty z vs dv) (hg : g.method = m) (hs : g.stack = .ref a :: rest) (hd : decode c.code g.pc = .ok (.arraylength, 1)) :
    ∀ target, Steps p.tables e below (T.setTop { g with pc := g.pc + 1, stack := .int z :: rest }) target → Steps p.tables e below (T.setTop g) target := by
  obtain ⟨c', A, q1, S, q3, H, G⟩ := Vv
  exact fun t k => X.arraylength hx (by rw [eT]; exact A.1) (State.isArrayOf_alike hZ.alike A.2.1) hg hs hd t (by rw [len_of S q3]; exact k)
end ArrKit
theorem own_sta {Z : State} {args : Array Value} {C f d K : String} (h : (Jvm.Cond.exactly (.static C f d) K).value args Z none Z [] = some true) (wi : (Jvm.Cond.initialized C).before args Z = true) (wl : (Jvm.Cond.laysStatic C f d).before args Z = true) :
    ∃ x, (Term.static C f d).eval args Z none [] Z = some (.ref x) ∧ Sta Z Z.heap C f d (.ref x) ∧ Exa Z Z.heap x K := by
  obtain ⟨x, ev⟩ := exa_v h
  exact ⟨x, ev, Sta.start ev (Or.inr ⟨wi, wl⟩), Exa.start ev h⟩
theorem own_fldI {Z : State} {args : Array Value} {t : Term} {O n d : String} {k : Int32} {x : Addr} (ev : t.eval args Z none [] Z = some (.ref x)) (h : (Jvm.Cond.eq (.field t O n d) (.int k)).value args Z none Z [] = some true) : Fld Z Z.heap x O n d (.int k) := by
  obtain ⟨u, v, e1, e2, k1, -⟩ := cmp_v (Or.inl h)
  have e3 : v = .int k := by simpa [Term.eval] using e2.symm
  subst e3
  obtain ⟨z, rfl⟩ : ∃ z, u = .int z := by cases u <;> simp [Kin, Value.isRef] at k1 ⊢
  have q : z = k := gotT (Cond.eq_ints e1 e2) h
  subst q
  exact Fld.start ((fld_at ev).symm.trans e1)
def own_rule (c : Int32) : Int32 := if c = 0 then 0 else 1
theorem own_mod {x n : Int32} (h : 0 < n.toInt) : 0 ≤ ((x &&& (2147483647 : Int32)) % n).toInt ∧ ((x &&& (2147483647 : Int32)) % n).toInt < n.toInt := by
  have e1 := Jvm.Kit.i32_mask x (2147483647 : Int32) (k := 31) (by decide) (by decide)
  rw [Int32.toInt_mod]
  generalize (x &&& (2147483647 : Int32)).toInt = u at *
  have : 0 ≤ u := by rw [e1]; exact Int.emod_nonneg _ (by decide)
  rw [Int.tmod_eq_emod_of_nonneg this]
  exact ⟨Int.emod_nonneg u (by omega), Int.emod_lt_of_pos u h⟩
theorem own_17 {q : Int32} (h : 0 ≤ q.toInt ∧ q.toInt < 17) : q = 0 ∨ q = 1 ∨ q = 2 ∨ q = 3 ∨ q = 4 ∨ q = 5 ∨ q = 6 ∨ q = 7 ∨ q = 8 ∨ q = 9 ∨ q = 10 ∨ q = 11 ∨ q = 12 ∨ q = 13 ∨ q = 14 ∨ q = 15 ∨ q = 16 := by
  simp only [← Int32.toInt_inj, Int32.reduceToInt]; omega
theorem d_prog_20_method_6_code_0 : decode prog_20_method_6_code 0 = .ok (.aload_n 0, 1) := by decide +kernel
theorem d_prog_20_method_6_code_1 : decode prog_20_method_6_code 1 = .ok (.getfield 78, 3) := by decide +kernel
theorem d_prog_20_method_6_code_4 : decode prog_20_method_6_code 4 = .ok (.ifCond .eq 7, 3) := by decide +kernel
theorem d_prog_20_method_6_code_11 : decode prog_20_method_6_code 11 = .ok (.iconst 0, 1) := by decide +kernel
theorem d_prog_20_method_6_code_12 : decode prog_20_method_6_code 12 = .ok (.ireturn, 1) := by decide +kernel
theorem d_prog_20_method_6_code_7 : decode prog_20_method_6_code 7 = .ok (.iconst 1, 1) := by decide +kernel
theorem d_prog_20_method_6_code_8 : decode prog_20_method_6_code 8 = .ok (.goto 4, 3) := by decide +kernel
theorem pn_com_example_billwright_billwright_CostDetail : plainName "com/example/billwright/billwright/CostDetail" = true := by first | (simp [plainName, overriddenIn]; done) | decide +kernel
theorem pd_2829Z : parseMethodDescriptor "()Z" = some ⟨[], some .boolean⟩ := by decide +kernel
theorem pn_com_example_billwright_billwright_CostDetailRuleFieldPinLaw : plainName "com/example/billwright/billwright/CostDetailRuleFieldPinLaw" = true := by first | (simp [plainName, overriddenIn]; done) | decide +kernel
theorem ef_rmRule (x0 : Addr) (m : MethodId) : entryFrame m #[(.ref x0)] 1 = mkF m 0 #[.val (.ref x0)] [] := by first | (simp [entryFrame, mkF, argsToLocals, Value.category]; done) | rfl
set_option maxRecDepth 65536 in
set_option maxHeartbeats 40000000 in
theorem rmRule (l : Launch) (Z : State) (a0 : Array Value) (hw : ∀ d ∈ tables_1, d.before a0 Z = true) (b1 : Addr) (p1 : Int32) (h0 : Heap) (F1 : Fld Z h0 b1 "com/example/billwright/billwright/CostDetail" "letter" "C" (.int p1)) :
    Does l Z (⟨"com/example/billwright/billwright/CostDetail", "ruleField", "()Z"⟩ : MethodName) prog_20_method_6_code 1 (some .boolean) [] ({ frames := 0, cells := 0, slots := 0, locals := 0 } : Room) #[(.ref b1)] h0 (Val (some (.int (own_rule p1))) h0) := by
  refine Does.intro pn_com_example_billwright_billwright_CostDetail (ef_rmRule b1) ?_
  intro p e s m below meth c s₁ hx hby hml hown hnm hret hlk hZ e0 X0
  show Go p e below _ s₁ (mkF m 0 #[.val (.ref b1)] [])
  refine Go.st (fun _ h => XS.aloadN X0.here hx rfl (hb hby d_prog_20_method_6_code_0) rfl rfl h) ?_
  show Go p e below _ s₁ (mkF m 1 #[.val (.ref b1)] [(.ref b1)])
  obtain ⟨T1, X1, e1, st1⟩ := getF X0 hx hZ hown (host := "") (Or.inl (hw _ (List.mem_of_getElem? (i := 44) rfl))) Via.refl e0 F1 (g := (mkF m 1 #[.val (.ref b1)] [(.ref b1)])) rfl rfl (hb hby d_prog_20_method_6_code_1)
  refine Go.st st1 ?_
  show Go p e below _ T1 (mkF m 4 #[.val (.ref b1)] [(.int p1)])
  by_cases hc2 : p1 = (0 : Int32)
  · refine Go.st (fun _ h => XS.ifYes X1.here hx rfl (pc0 := 4) (pc' := 11) rfl (hb hby d_prog_20_method_6_code_4) rfl ((if0 _ _).trans (teq hc2).1) (by decide) (by decide) h) ?_
    show Go p e below _ T1 (mkF m 11 #[.val (.ref b1)] [])
    refine Go.st (fun _ h => XT.iconstV X1.here hx rfl (0 : Int32) (hb hby d_prog_20_method_6_code_11) (by decide) h) ?_
    show Go p e below _ T1 (mkF m 12 #[.val (.ref b1)] [(.int (0 : Int32))])
    refine Go.retZ X1 hx hlk hret rfl (hb hby d_prog_20_method_6_code_12) (by decide) (by decide) ?_
    exact ⟨by simp only [own_rule, hc2, if_true, if_false], rfl, e1⟩
  · refine Go.st (fun _ h => XS.ifNo X1.here hx rfl (hb hby d_prog_20_method_6_code_4) rfl ((if0 _ _).trans (feq hc2).1) h) ?_
    show Go p e below _ T1 (mkF m 7 #[.val (.ref b1)] [])
    refine Go.st (fun _ h => XT.iconstV X1.here hx rfl (1 : Int32) (hb hby d_prog_20_method_6_code_7) (by decide) h) ?_
    show Go p e below _ T1 (mkF m 8 #[.val (.ref b1)] [(.int (1 : Int32))])
    refine Go.st (fun _ h => XS.goto X1.here hx rfl (pc0 := 8) (pc' := 12) rfl (hb hby d_prog_20_method_6_code_8) (by decide) (by decide) h) ?_
    show Go p e below _ T1 (mkF m 12 #[.val (.ref b1)] [(.int (1 : Int32))])
    refine Go.retZ X1 hx hlk hret rfl (hb hby d_prog_20_method_6_code_12) (by decide) (by decide) ?_
    exact ⟨by simp only [own_rule, hc2, if_true, if_false], rfl, e1⟩
theorem ef_rmLaw (x0 : Int32) (m : MethodId) : entryFrame m #[(.int x0)] maxLocals = mkF m 0 #[.val (.int x0), .unset, .unset, .unset] [] := by first | (simp [entryFrame, mkF, argsToLocals, Value.category, maxLocals]; done) | rfl
set_option maxRecDepth 65536 in
set_option maxHeartbeats 40000000 in
theorem rmLaw (l : Launch) (Z : State) (a0 : Array Value) (hw : ∀ d ∈ tables_1, d.before a0 Z = true) (p1 : Int32) (a_WORK_ORDER a_WORK_ORDER_CLASS a_CONTRACT a_PARENT_CONTRACT a_BUSINESS_UNIT_CLASS a_COMPANY a_DOCUMENT_TYPE a_TAX_AREA a_EMPLOYEE a_JOB_STEP a_JOB_TYPE a_PAY_TYPE a_HOME_BUSINESS_UNIT a_COST_POOL a_EQUIPMENT a_RATE_GROUP a_RATE_CODE : Addr) (h0 : Heap) (n0 : Nat) (Z0 : n0 ≤ h0.size) (S_WORK_ORDER : Sta Z h0 "com/example/billwright/billwright/CostDetail" "WORK_ORDER" "Lcom/example/billwright/billwright/CostDetail;" (.ref a_WORK_ORDER)) (E_WORK_ORDER : Exa Z h0 a_WORK_ORDER "com/example/billwright/billwright/CostDetail") (F_WORK_ORDER_letter : Fld Z h0 a_WORK_ORDER "com/example/billwright/billwright/CostDetail" "letter" "C" (.int (0 : Int32))) (S_WORK_ORDER_CLASS : Sta Z h0 "com/example/billwright/billwright/CostDetail" "WORK_ORDER_CLASS" "Lcom/example/billwright/billwright/CostDetail;" (.ref a_WORK_ORDER_CLASS)) (E_WORK_ORDER_CLASS : Exa Z h0 a_WORK_ORDER_CLASS "com/example/billwright/billwright/CostDetail") (F_WORK_ORDER_CLASS_letter : Fld Z h0 a_WORK_ORDER_CLASS "com/example/billwright/billwright/CostDetail" "letter" "C" (.int (0 : Int32))) (S_CONTRACT : Sta Z h0 "com/example/billwright/billwright/CostDetail" "CONTRACT" "Lcom/example/billwright/billwright/CostDetail;" (.ref a_CONTRACT)) (E_CONTRACT : Exa Z h0 a_CONTRACT "com/example/billwright/billwright/CostDetail") (F_CONTRACT_letter : Fld Z h0 a_CONTRACT "com/example/billwright/billwright/CostDetail" "letter" "C" (.int (0 : Int32))) (S_PARENT_CONTRACT : Sta Z h0 "com/example/billwright/billwright/CostDetail" "PARENT_CONTRACT" "Lcom/example/billwright/billwright/CostDetail;" (.ref a_PARENT_CONTRACT)) (E_PARENT_CONTRACT : Exa Z h0 a_PARENT_CONTRACT "com/example/billwright/billwright/CostDetail") (F_PARENT_CONTRACT_letter : Fld Z h0 a_PARENT_CONTRACT "com/example/billwright/billwright/CostDetail" "letter" "C" (.int (0 : Int32))) (S_BUSINESS_UNIT_CLASS : Sta Z h0 "com/example/billwright/billwright/CostDetail" "BUSINESS_UNIT_CLASS" "Lcom/example/billwright/billwright/CostDetail;" (.ref a_BUSINESS_UNIT_CLASS)) (E_BUSINESS_UNIT_CLASS : Exa Z h0 a_BUSINESS_UNIT_CLASS "com/example/billwright/billwright/CostDetail") (F_BUSINESS_UNIT_CLASS_letter : Fld Z h0 a_BUSINESS_UNIT_CLASS "com/example/billwright/billwright/CostDetail" "letter" "C" (.int (0 : Int32))) (S_COMPANY : Sta Z h0 "com/example/billwright/billwright/CostDetail" "COMPANY" "Lcom/example/billwright/billwright/CostDetail;" (.ref a_COMPANY)) (E_COMPANY : Exa Z h0 a_COMPANY "com/example/billwright/billwright/CostDetail") (F_COMPANY_letter : Fld Z h0 a_COMPANY "com/example/billwright/billwright/CostDetail" "letter" "C" (.int (0 : Int32))) (S_DOCUMENT_TYPE : Sta Z h0 "com/example/billwright/billwright/CostDetail" "DOCUMENT_TYPE" "Lcom/example/billwright/billwright/CostDetail;" (.ref a_DOCUMENT_TYPE)) (E_DOCUMENT_TYPE : Exa Z h0 a_DOCUMENT_TYPE "com/example/billwright/billwright/CostDetail") (F_DOCUMENT_TYPE_letter : Fld Z h0 a_DOCUMENT_TYPE "com/example/billwright/billwright/CostDetail" "letter" "C" (.int (0 : Int32))) (S_TAX_AREA : Sta Z h0 "com/example/billwright/billwright/CostDetail" "TAX_AREA" "Lcom/example/billwright/billwright/CostDetail;" (.ref a_TAX_AREA)) (E_TAX_AREA : Exa Z h0 a_TAX_AREA "com/example/billwright/billwright/CostDetail") (F_TAX_AREA_letter : Fld Z h0 a_TAX_AREA "com/example/billwright/billwright/CostDetail" "letter" "C" (.int (0 : Int32))) (S_EMPLOYEE : Sta Z h0 "com/example/billwright/billwright/CostDetail" "EMPLOYEE" "Lcom/example/billwright/billwright/CostDetail;" (.ref a_EMPLOYEE)) (E_EMPLOYEE : Exa Z h0 a_EMPLOYEE "com/example/billwright/billwright/CostDetail") (F_EMPLOYEE_letter : Fld Z h0 a_EMPLOYEE "com/example/billwright/billwright/CostDetail" "letter" "C" (.int (69 : Int32))) (S_JOB_STEP : Sta Z h0 "com/example/billwright/billwright/CostDetail" "JOB_STEP" "Lcom/example/billwright/billwright/CostDetail;" (.ref a_JOB_STEP)) (E_JOB_STEP : Exa Z h0 a_JOB_STEP "com/example/billwright/billwright/CostDetail") (F_JOB_STEP_letter : Fld Z h0 a_JOB_STEP "com/example/billwright/billwright/CostDetail" "letter" "C" (.int (83 : Int32))) (S_JOB_TYPE : Sta Z h0 "com/example/billwright/billwright/CostDetail" "JOB_TYPE" "Lcom/example/billwright/billwright/CostDetail;" (.ref a_JOB_TYPE)) (E_JOB_TYPE : Exa Z h0 a_JOB_TYPE "com/example/billwright/billwright/CostDetail") (F_JOB_TYPE_letter : Fld Z h0 a_JOB_TYPE "com/example/billwright/billwright/CostDetail" "letter" "C" (.int (84 : Int32))) (S_PAY_TYPE : Sta Z h0 "com/example/billwright/billwright/CostDetail" "PAY_TYPE" "Lcom/example/billwright/billwright/CostDetail;" (.ref a_PAY_TYPE)) (E_PAY_TYPE : Exa Z h0 a_PAY_TYPE "com/example/billwright/billwright/CostDetail") (F_PAY_TYPE_letter : Fld Z h0 a_PAY_TYPE "com/example/billwright/billwright/CostDetail" "letter" "C" (.int (80 : Int32))) (S_HOME_BUSINESS_UNIT : Sta Z h0 "com/example/billwright/billwright/CostDetail" "HOME_BUSINESS_UNIT" "Lcom/example/billwright/billwright/CostDetail;" (.ref a_HOME_BUSINESS_UNIT)) (E_HOME_BUSINESS_UNIT : Exa Z h0 a_HOME_BUSINESS_UNIT "com/example/billwright/billwright/CostDetail") (F_HOME_BUSINESS_UNIT_letter : Fld Z h0 a_HOME_BUSINESS_UNIT "com/example/billwright/billwright/CostDetail" "letter" "C" (.int (72 : Int32))) (S_COST_POOL : Sta Z h0 "com/example/billwright/billwright/CostDetail" "COST_POOL" "Lcom/example/billwright/billwright/CostDetail;" (.ref a_COST_POOL)) (E_COST_POOL : Exa Z h0 a_COST_POOL "com/example/billwright/billwright/CostDetail") (F_COST_POOL_letter : Fld Z h0 a_COST_POOL "com/example/billwright/billwright/CostDetail" "letter" "C" (.int (67 : Int32))) (S_EQUIPMENT : Sta Z h0 "com/example/billwright/billwright/CostDetail" "EQUIPMENT" "Lcom/example/billwright/billwright/CostDetail;" (.ref a_EQUIPMENT)) (E_EQUIPMENT : Exa Z h0 a_EQUIPMENT "com/example/billwright/billwright/CostDetail") (F_EQUIPMENT_letter : Fld Z h0 a_EQUIPMENT "com/example/billwright/billwright/CostDetail" "letter" "C" (.int (81 : Int32))) (S_RATE_GROUP : Sta Z h0 "com/example/billwright/billwright/CostDetail" "RATE_GROUP" "Lcom/example/billwright/billwright/CostDetail;" (.ref a_RATE_GROUP)) (E_RATE_GROUP : Exa Z h0 a_RATE_GROUP "com/example/billwright/billwright/CostDetail") (F_RATE_GROUP_letter : Fld Z h0 a_RATE_GROUP "com/example/billwright/billwright/CostDetail" "letter" "C" (.int (71 : Int32))) (S_RATE_CODE : Sta Z h0 "com/example/billwright/billwright/CostDetail" "RATE_CODE" "Lcom/example/billwright/billwright/CostDetail;" (.ref a_RATE_CODE)) (E_RATE_CODE : Exa Z h0 a_RATE_CODE "com/example/billwright/billwright/CostDetail") (F_RATE_CODE_letter : Fld Z h0 a_RATE_CODE "com/example/billwright/billwright/CostDetail" "letter" "C" (.int (82 : Int32))) :
    Does l Z x code maxLocals ret tables_1 room_1 #[(.int p1)] h0 (fun v h L => v = some (.int 1) ∧ Fr n0 L) := by
  refine Does.intro pn_com_example_billwright_billwright_CostDetailRuleFieldPinLaw (ef_rmLaw p1) ?_
  intro p e s m below meth c s₁ hx hby hml hown hnm hret hlk hZ e0 X0
  show Go p e below _ s₁ (mkF m 0 #[.val (.int p1), .unset, .unset, .unset] [])
  have N0 := Fr.nil n0
  refine Go.st (fun _ h => XT.bipushV X0.here hx rfl (17 : Int32) (hb hby at_0) (by decide) h) ?_
  show Go p e below _ s₁ (mkF m 2 #[.val (.int p1), .unset, .unset, .unset] [(.int (17 : Int32))])
  obtain ⟨T1, h1, k1, X1, e1, E1, A1, O1, st1⟩ := newR X0 hx hZ hown (hw _ (List.mem_of_getElem? (i := 0) rfl)) (hw _ (List.mem_of_getElem? (i := 1) rfl)) e0 (g := (mkF m 2 #[.val (.int p1), .unset, .unset, .unset] [(.int (17 : Int32))])) rfl (hb hby at_2) rfl (by decide) (cap := 17) (by decide) (by decide) (by decide) (by decide)
  obtain ⟨o1, g1⟩ : ∃ z, z = h0.size := ⟨_, rfl⟩
  rw [← g1] at A1 st1
  have ne_a_BUSINESS_UNIT_CLASS_o1 : a_BUSINESS_UNIT_CLASS ≠ o1 := by rw [g1]; exact Nat.ne_of_lt E_BUSINESS_UNIT_CLASS.lt
  have ne_a_COMPANY_o1 : a_COMPANY ≠ o1 := by rw [g1]; exact Nat.ne_of_lt E_COMPANY.lt
  have ne_a_CONTRACT_o1 : a_CONTRACT ≠ o1 := by rw [g1]; exact Nat.ne_of_lt E_CONTRACT.lt
  have ne_a_COST_POOL_o1 : a_COST_POOL ≠ o1 := by rw [g1]; exact Nat.ne_of_lt E_COST_POOL.lt
  have ne_a_DOCUMENT_TYPE_o1 : a_DOCUMENT_TYPE ≠ o1 := by rw [g1]; exact Nat.ne_of_lt E_DOCUMENT_TYPE.lt
  have ne_a_EMPLOYEE_o1 : a_EMPLOYEE ≠ o1 := by rw [g1]; exact Nat.ne_of_lt E_EMPLOYEE.lt
  have ne_a_EQUIPMENT_o1 : a_EQUIPMENT ≠ o1 := by rw [g1]; exact Nat.ne_of_lt E_EQUIPMENT.lt
  have ne_a_HOME_BUSINESS_UNIT_o1 : a_HOME_BUSINESS_UNIT ≠ o1 := by rw [g1]; exact Nat.ne_of_lt E_HOME_BUSINESS_UNIT.lt
  have ne_a_JOB_STEP_o1 : a_JOB_STEP ≠ o1 := by rw [g1]; exact Nat.ne_of_lt E_JOB_STEP.lt
  have ne_a_JOB_TYPE_o1 : a_JOB_TYPE ≠ o1 := by rw [g1]; exact Nat.ne_of_lt E_JOB_TYPE.lt
  have ne_a_PARENT_CONTRACT_o1 : a_PARENT_CONTRACT ≠ o1 := by rw [g1]; exact Nat.ne_of_lt E_PARENT_CONTRACT.lt
  have ne_a_PAY_TYPE_o1 : a_PAY_TYPE ≠ o1 := by rw [g1]; exact Nat.ne_of_lt E_PAY_TYPE.lt
  have ne_a_RATE_CODE_o1 : a_RATE_CODE ≠ o1 := by rw [g1]; exact Nat.ne_of_lt E_RATE_CODE.lt
  have ne_a_RATE_GROUP_o1 : a_RATE_GROUP ≠ o1 := by rw [g1]; exact Nat.ne_of_lt E_RATE_GROUP.lt
  have ne_a_TAX_AREA_o1 : a_TAX_AREA ≠ o1 := by rw [g1]; exact Nat.ne_of_lt E_TAX_AREA.lt
  have ne_a_WORK_ORDER_o1 : a_WORK_ORDER ≠ o1 := by rw [g1]; exact Nat.ne_of_lt E_WORK_ORDER.lt
  have ne_a_WORK_ORDER_CLASS_o1 : a_WORK_ORDER_CLASS ≠ o1 := by rw [g1]; exact Nat.ne_of_lt E_WORK_ORDER_CLASS.lt
  have le_o1 : h0.size ≤ o1 := by rw [g1]; exact (Keep.refl _ []).1
  have K1 := (Keep.refl _ []).ext E1
  have V1 : Arv Z h1 o1 k1 (.object "com/example/billwright/billwright/CostDetail") (17 : Int32) [.null, .null, .null, .null, .null, .null, .null, .null, .null, .null, .null, .null, .null, .null, .null, .null, .null] .null := (Arv.new A1 (by decide)).pad (pad_rep [] .null 17)
  refine Go.st st1 ?_
  show Go p e below _ T1 (mkF m 5 #[.val (.int p1), .unset, .unset, .unset] [(.ref o1)])
  refine Go.st (fun _ h => XS.dup X1.here hx rfl (hb hby at_5) rfl rfl h) ?_
  show Go p e below _ T1 (mkF m 6 #[.val (.int p1), .unset, .unset, .unset] [(.ref o1), (.ref o1)])
  refine Go.st (fun _ h => XT.iconstV X1.here hx rfl (0 : Int32) (hb hby at_6) (by decide) h) ?_
  show Go p e below _ T1 (mkF m 7 #[.val (.int p1), .unset, .unset, .unset] [(.int (0 : Int32)), (.ref o1), (.ref o1)])
  obtain ⟨T2, X2, e2, st2⟩ := getS2 X1 hx hZ hown (host := "") (Or.inl (hw _ (List.mem_of_getElem? (i := 2) rfl))) Via.refl e1 (S_WORK_ORDER.ext (own_ext K1)) (g := (mkF m 7 #[.val (.int p1), .unset, .unset, .unset] [(.int (0 : Int32)), (.ref o1), (.ref o1)])) rfl (hb hby at_7)
  refine Go.st st2 ?_
  show Go p e below _ T2 (mkF m 10 #[.val (.int p1), .unset, .unset, .unset] [(.ref a_WORK_ORDER), (.int (0 : Int32)), (.ref o1), (.ref o1)])
  obtain ⟨T3, h3, X3, e3, W3, V3, st3⟩ := own_stR X2 hx hZ e2 (j := (0 : Int32)) V1 O1 (Ins.self (E_WORK_ORDER.keep K1)) (by decide) (by decide) 0 (by decide) (by simp) (g := (mkF m 10 #[.val (.int p1), .unset, .unset, .unset] [(.ref a_WORK_ORDER), (.int (0 : Int32)), (.ref o1), (.ref o1)])) rfl rfl (hb hby at_10)
  have N3 := Fr.snoc X3 N0 (Nat.le_trans Z0 le_o1)
  have K3 := K1.wr W3 (Or.inr le_o1)
  have V3' : Arv Z h3 o1 k1 (.object "com/example/billwright/billwright/CostDetail") (17 : Int32) [(.ref a_WORK_ORDER), .null, .null, .null, .null, .null, .null, .null, .null, .null, .null, .null, .null, .null, .null, .null, .null] .null := V3
  refine Go.st st3 ?_
  show Go p e below _ T3 (mkF m 11 #[.val (.int p1), .unset, .unset, .unset] [(.ref o1)])
  refine Go.st (fun _ h => XS.dup X3.here hx rfl (hb hby at_11) rfl rfl h) ?_
  show Go p e below _ T3 (mkF m 12 #[.val (.int p1), .unset, .unset, .unset] [(.ref o1), (.ref o1)])
  refine Go.st (fun _ h => XT.iconstV X3.here hx rfl (1 : Int32) (hb hby at_12) (by decide) h) ?_
  show Go p e below _ T3 (mkF m 13 #[.val (.int p1), .unset, .unset, .unset] [(.int (1 : Int32)), (.ref o1), (.ref o1)])
  obtain ⟨T4, X4, e4, st4⟩ := getS2 X3 hx hZ hown (host := "") (Or.inl (hw _ (List.mem_of_getElem? (i := 6) rfl))) Via.refl e3 (S_WORK_ORDER_CLASS.ext (own_ext K3)) (g := (mkF m 13 #[.val (.int p1), .unset, .unset, .unset] [(.int (1 : Int32)), (.ref o1), (.ref o1)])) rfl (hb hby at_13)
  refine Go.st st4 ?_
  show Go p e below _ T4 (mkF m 16 #[.val (.int p1), .unset, .unset, .unset] [(.ref a_WORK_ORDER_CLASS), (.int (1 : Int32)), (.ref o1), (.ref o1)])
  obtain ⟨T5, h5, X5, e5, W5, V5, st5⟩ := own_stR X4 hx hZ e4 (j := (1 : Int32)) V3' O1 (Ins.self (E_WORK_ORDER_CLASS.keep K3)) (by decide) (by decide) 1 (by decide) (by simp) (g := (mkF m 16 #[.val (.int p1), .unset, .unset, .unset] [(.ref a_WORK_ORDER_CLASS), (.int (1 : Int32)), (.ref o1), (.ref o1)])) rfl rfl (hb hby at_16)
  have N5 := Fr.snoc X5 N3 (Nat.le_trans Z0 le_o1)
  have K5 := K3.wr W5 (Or.inr le_o1)
  have V5' : Arv Z h5 o1 k1 (.object "com/example/billwright/billwright/CostDetail") (17 : Int32) [(.ref a_WORK_ORDER), (.ref a_WORK_ORDER_CLASS), .null, .null, .null, .null, .null, .null, .null, .null, .null, .null, .null, .null, .null, .null, .null] .null := V5
  refine Go.st st5 ?_
  show Go p e below _ T5 (mkF m 17 #[.val (.int p1), .unset, .unset, .unset] [(.ref o1)])
  refine Go.st (fun _ h => XS.dup X5.here hx rfl (hb hby at_17) rfl rfl h) ?_
  show Go p e below _ T5 (mkF m 18 #[.val (.int p1), .unset, .unset, .unset] [(.ref o1), (.ref o1)])
  refine Go.st (fun _ h => XT.iconstV X5.here hx rfl (2 : Int32) (hb hby at_18) (by decide) h) ?_
  show Go p e below _ T5 (mkF m 19 #[.val (.int p1), .unset, .unset, .unset] [(.int (2 : Int32)), (.ref o1), (.ref o1)])
  obtain ⟨T6, X6, e6, st6⟩ := getS2 X5 hx hZ hown (host := "") (Or.inl (hw _ (List.mem_of_getElem? (i := 8) rfl))) Via.refl e5 (S_CONTRACT.ext (own_ext K5)) (g := (mkF m 19 #[.val (.int p1), .unset, .unset, .unset] [(.int (2 : Int32)), (.ref o1), (.ref o1)])) rfl (hb hby at_19)
  refine Go.st st6 ?_
  show Go p e below _ T6 (mkF m 22 #[.val (.int p1), .unset, .unset, .unset] [(.ref a_CONTRACT), (.int (2 : Int32)), (.ref o1), (.ref o1)])
  obtain ⟨T7, h7, X7, e7, W7, V7, st7⟩ := own_stR X6 hx hZ e6 (j := (2 : Int32)) V5' O1 (Ins.self (E_CONTRACT.keep K5)) (by decide) (by decide) 2 (by decide) (by simp) (g := (mkF m 22 #[.val (.int p1), .unset, .unset, .unset] [(.ref a_CONTRACT), (.int (2 : Int32)), (.ref o1), (.ref o1)])) rfl rfl (hb hby at_22)
  have N7 := Fr.snoc X7 N5 (Nat.le_trans Z0 le_o1)
  have K7 := K5.wr W7 (Or.inr le_o1)
  have V7' : Arv Z h7 o1 k1 (.object "com/example/billwright/billwright/CostDetail") (17 : Int32) [(.ref a_WORK_ORDER), (.ref a_WORK_ORDER_CLASS), (.ref a_CONTRACT), .null, .null, .null, .null, .null, .null, .null, .null, .null, .null, .null, .null, .null, .null] .null := V7
  refine Go.st st7 ?_
  show Go p e below _ T7 (mkF m 23 #[.val (.int p1), .unset, .unset, .unset] [(.ref o1)])
  refine Go.st (fun _ h => XS.dup X7.here hx rfl (hb hby at_23) rfl rfl h) ?_
  show Go p e below _ T7 (mkF m 24 #[.val (.int p1), .unset, .unset, .unset] [(.ref o1), (.ref o1)])
  refine Go.st (fun _ h => XT.iconstV X7.here hx rfl (3 : Int32) (hb hby at_24) (by decide) h) ?_
  show Go p e below _ T7 (mkF m 25 #[.val (.int p1), .unset, .unset, .unset] [(.int (3 : Int32)), (.ref o1), (.ref o1)])
  obtain ⟨T8, X8, e8, st8⟩ := getS2 X7 hx hZ hown (host := "") (Or.inl (hw _ (List.mem_of_getElem? (i := 10) rfl))) Via.refl e7 (S_PARENT_CONTRACT.ext (own_ext K7)) (g := (mkF m 25 #[.val (.int p1), .unset, .unset, .unset] [(.int (3 : Int32)), (.ref o1), (.ref o1)])) rfl (hb hby at_25)
  refine Go.st st8 ?_
  show Go p e below _ T8 (mkF m 28 #[.val (.int p1), .unset, .unset, .unset] [(.ref a_PARENT_CONTRACT), (.int (3 : Int32)), (.ref o1), (.ref o1)])
  obtain ⟨T9, h9, X9, e9, W9, V9, st9⟩ := own_stR X8 hx hZ e8 (j := (3 : Int32)) V7' O1 (Ins.self (E_PARENT_CONTRACT.keep K7)) (by decide) (by decide) 3 (by decide) (by simp) (g := (mkF m 28 #[.val (.int p1), .unset, .unset, .unset] [(.ref a_PARENT_CONTRACT), (.int (3 : Int32)), (.ref o1), (.ref o1)])) rfl rfl (hb hby at_28)
  have N9 := Fr.snoc X9 N7 (Nat.le_trans Z0 le_o1)
  have K9 := K7.wr W9 (Or.inr le_o1)
  have V9' : Arv Z h9 o1 k1 (.object "com/example/billwright/billwright/CostDetail") (17 : Int32) [(.ref a_WORK_ORDER), (.ref a_WORK_ORDER_CLASS), (.ref a_CONTRACT), (.ref a_PARENT_CONTRACT), .null, .null, .null, .null, .null, .null, .null, .null, .null, .null, .null, .null, .null] .null := V9
  refine Go.st st9 ?_
  show Go p e below _ T9 (mkF m 29 #[.val (.int p1), .unset, .unset, .unset] [(.ref o1)])
  refine Go.st (fun _ h => XS.dup X9.here hx rfl (hb hby at_29) rfl rfl h) ?_
  show Go p e below _ T9 (mkF m 30 #[.val (.int p1), .unset, .unset, .unset] [(.ref o1), (.ref o1)])
  refine Go.st (fun _ h => XT.iconstV X9.here hx rfl (4 : Int32) (hb hby at_30) (by decide) h) ?_
  show Go p e below _ T9 (mkF m 31 #[.val (.int p1), .unset, .unset, .unset] [(.int (4 : Int32)), (.ref o1), (.ref o1)])
  obtain ⟨T10, X10, e10, st10⟩ := getS2 X9 hx hZ hown (host := "") (Or.inl (hw _ (List.mem_of_getElem? (i := 12) rfl))) Via.refl e9 (S_BUSINESS_UNIT_CLASS.ext (own_ext K9)) (g := (mkF m 31 #[.val (.int p1), .unset, .unset, .unset] [(.int (4 : Int32)), (.ref o1), (.ref o1)])) rfl (hb hby at_31)
  refine Go.st st10 ?_
  show Go p e below _ T10 (mkF m 34 #[.val (.int p1), .unset, .unset, .unset] [(.ref a_BUSINESS_UNIT_CLASS), (.int (4 : Int32)), (.ref o1), (.ref o1)])
  obtain ⟨T11, h11, X11, e11, W11, V11, st11⟩ := own_stR X10 hx hZ e10 (j := (4 : Int32)) V9' O1 (Ins.self (E_BUSINESS_UNIT_CLASS.keep K9)) (by decide) (by decide) 4 (by decide) (by simp) (g := (mkF m 34 #[.val (.int p1), .unset, .unset, .unset] [(.ref a_BUSINESS_UNIT_CLASS), (.int (4 : Int32)), (.ref o1), (.ref o1)])) rfl rfl (hb hby at_34)
  have N11 := Fr.snoc X11 N9 (Nat.le_trans Z0 le_o1)
  have K11 := K9.wr W11 (Or.inr le_o1)
  have V11' : Arv Z h11 o1 k1 (.object "com/example/billwright/billwright/CostDetail") (17 : Int32) [(.ref a_WORK_ORDER), (.ref a_WORK_ORDER_CLASS), (.ref a_CONTRACT), (.ref a_PARENT_CONTRACT), (.ref a_BUSINESS_UNIT_CLASS), .null, .null, .null, .null, .null, .null, .null, .null, .null, .null, .null, .null] .null := V11
  refine Go.st st11 ?_
  show Go p e below _ T11 (mkF m 35 #[.val (.int p1), .unset, .unset, .unset] [(.ref o1)])
  refine Go.st (fun _ h => XS.dup X11.here hx rfl (hb hby at_35) rfl rfl h) ?_
  show Go p e below _ T11 (mkF m 36 #[.val (.int p1), .unset, .unset, .unset] [(.ref o1), (.ref o1)])
  refine Go.st (fun _ h => XT.iconstV X11.here hx rfl (5 : Int32) (hb hby at_36) (by decide) h) ?_
  show Go p e below _ T11 (mkF m 37 #[.val (.int p1), .unset, .unset, .unset] [(.int (5 : Int32)), (.ref o1), (.ref o1)])
  obtain ⟨T12, X12, e12, st12⟩ := getS2 X11 hx hZ hown (host := "") (Or.inl (hw _ (List.mem_of_getElem? (i := 14) rfl))) Via.refl e11 (S_COMPANY.ext (own_ext K11)) (g := (mkF m 37 #[.val (.int p1), .unset, .unset, .unset] [(.int (5 : Int32)), (.ref o1), (.ref o1)])) rfl (hb hby at_37)
  refine Go.st st12 ?_
  show Go p e below _ T12 (mkF m 40 #[.val (.int p1), .unset, .unset, .unset] [(.ref a_COMPANY), (.int (5 : Int32)), (.ref o1), (.ref o1)])
  obtain ⟨T13, h13, X13, e13, W13, V13, st13⟩ := own_stR X12 hx hZ e12 (j := (5 : Int32)) V11' O1 (Ins.self (E_COMPANY.keep K11)) (by decide) (by decide) 5 (by decide) (by simp) (g := (mkF m 40 #[.val (.int p1), .unset, .unset, .unset] [(.ref a_COMPANY), (.int (5 : Int32)), (.ref o1), (.ref o1)])) rfl rfl (hb hby at_40)
  have N13 := Fr.snoc X13 N11 (Nat.le_trans Z0 le_o1)
  have K13 := K11.wr W13 (Or.inr le_o1)
  have V13' : Arv Z h13 o1 k1 (.object "com/example/billwright/billwright/CostDetail") (17 : Int32) [(.ref a_WORK_ORDER), (.ref a_WORK_ORDER_CLASS), (.ref a_CONTRACT), (.ref a_PARENT_CONTRACT), (.ref a_BUSINESS_UNIT_CLASS), (.ref a_COMPANY), .null, .null, .null, .null, .null, .null, .null, .null, .null, .null, .null] .null := V13
  refine Go.st st13 ?_
  show Go p e below _ T13 (mkF m 41 #[.val (.int p1), .unset, .unset, .unset] [(.ref o1)])
  refine Go.st (fun _ h => XS.dup X13.here hx rfl (hb hby at_41) rfl rfl h) ?_
  show Go p e below _ T13 (mkF m 42 #[.val (.int p1), .unset, .unset, .unset] [(.ref o1), (.ref o1)])
  refine Go.st (fun _ h => XT.bipushV X13.here hx rfl (6 : Int32) (hb hby at_42) (by decide) h) ?_
  show Go p e below _ T13 (mkF m 44 #[.val (.int p1), .unset, .unset, .unset] [(.int (6 : Int32)), (.ref o1), (.ref o1)])
  obtain ⟨T14, X14, e14, st14⟩ := getS2 X13 hx hZ hown (host := "") (Or.inl (hw _ (List.mem_of_getElem? (i := 16) rfl))) Via.refl e13 (S_DOCUMENT_TYPE.ext (own_ext K13)) (g := (mkF m 44 #[.val (.int p1), .unset, .unset, .unset] [(.int (6 : Int32)), (.ref o1), (.ref o1)])) rfl (hb hby at_44)
  refine Go.st st14 ?_
  show Go p e below _ T14 (mkF m 47 #[.val (.int p1), .unset, .unset, .unset] [(.ref a_DOCUMENT_TYPE), (.int (6 : Int32)), (.ref o1), (.ref o1)])
  obtain ⟨T15, h15, X15, e15, W15, V15, st15⟩ := own_stR X14 hx hZ e14 (j := (6 : Int32)) V13' O1 (Ins.self (E_DOCUMENT_TYPE.keep K13)) (by decide) (by decide) 6 (by decide) (by simp) (g := (mkF m 47 #[.val (.int p1), .unset, .unset, .unset] [(.ref a_DOCUMENT_TYPE), (.int (6 : Int32)), (.ref o1), (.ref o1)])) rfl rfl (hb hby at_47)
  have N15 := Fr.snoc X15 N13 (Nat.le_trans Z0 le_o1)
  have K15 := K13.wr W15 (Or.inr le_o1)
  have V15' : Arv Z h15 o1 k1 (.object "com/example/billwright/billwright/CostDetail") (17 : Int32) [(.ref a_WORK_ORDER), (.ref a_WORK_ORDER_CLASS), (.ref a_CONTRACT), (.ref a_PARENT_CONTRACT), (.ref a_BUSINESS_UNIT_CLASS), (.ref a_COMPANY), (.ref a_DOCUMENT_TYPE), .null, .null, .null, .null, .null, .null, .null, .null, .null, .null] .null := V15
  refine Go.st st15 ?_
  show Go p e below _ T15 (mkF m 48 #[.val (.int p1), .unset, .unset, .unset] [(.ref o1)])
  refine Go.st (fun _ h => XS.dup X15.here hx rfl (hb hby at_48) rfl rfl h) ?_
  show Go p e below _ T15 (mkF m 49 #[.val (.int p1), .unset, .unset, .unset] [(.ref o1), (.ref o1)])
  refine Go.st (fun _ h => XT.bipushV X15.here hx rfl (7 : Int32) (hb hby at_49) (by decide) h) ?_
  show Go p e below _ T15 (mkF m 51 #[.val (.int p1), .unset, .unset, .unset] [(.int (7 : Int32)), (.ref o1), (.ref o1)])
  obtain ⟨T16, X16, e16, st16⟩ := getS2 X15 hx hZ hown (host := "") (Or.inl (hw _ (List.mem_of_getElem? (i := 18) rfl))) Via.refl e15 (S_TAX_AREA.ext (own_ext K15)) (g := (mkF m 51 #[.val (.int p1), .unset, .unset, .unset] [(.int (7 : Int32)), (.ref o1), (.ref o1)])) rfl (hb hby at_51)
  refine Go.st st16 ?_
  show Go p e below _ T16 (mkF m 54 #[.val (.int p1), .unset, .unset, .unset] [(.ref a_TAX_AREA), (.int (7 : Int32)), (.ref o1), (.ref o1)])
  obtain ⟨T17, h17, X17, e17, W17, V17, st17⟩ := own_stR X16 hx hZ e16 (j := (7 : Int32)) V15' O1 (Ins.self (E_TAX_AREA.keep K15)) (by decide) (by decide) 7 (by decide) (by simp) (g := (mkF m 54 #[.val (.int p1), .unset, .unset, .unset] [(.ref a_TAX_AREA), (.int (7 : Int32)), (.ref o1), (.ref o1)])) rfl rfl (hb hby at_54)
  have N17 := Fr.snoc X17 N15 (Nat.le_trans Z0 le_o1)
  have K17 := K15.wr W17 (Or.inr le_o1)
  have V17' : Arv Z h17 o1 k1 (.object "com/example/billwright/billwright/CostDetail") (17 : Int32) [(.ref a_WORK_ORDER), (.ref a_WORK_ORDER_CLASS), (.ref a_CONTRACT), (.ref a_PARENT_CONTRACT), (.ref a_BUSINESS_UNIT_CLASS), (.ref a_COMPANY), (.ref a_DOCUMENT_TYPE), (.ref a_TAX_AREA), .null, .null, .null, .null, .null, .null, .null, .null, .null] .null := V17
  refine Go.st st17 ?_
  show Go p e below _ T17 (mkF m 55 #[.val (.int p1), .unset, .unset, .unset] [(.ref o1)])
  refine Go.st (fun _ h => XS.dup X17.here hx rfl (hb hby at_55) rfl rfl h) ?_
  show Go p e below _ T17 (mkF m 56 #[.val (.int p1), .unset, .unset, .unset] [(.ref o1), (.ref o1)])
  refine Go.st (fun _ h => XT.bipushV X17.here hx rfl (8 : Int32) (hb hby at_56) (by decide) h) ?_
  show Go p e below _ T17 (mkF m 58 #[.val (.int p1), .unset, .unset, .unset] [(.int (8 : Int32)), (.ref o1), (.ref o1)])
  obtain ⟨T18, X18, e18, st18⟩ := getS2 X17 hx hZ hown (host := "") (Or.inl (hw _ (List.mem_of_getElem? (i := 20) rfl))) Via.refl e17 (S_EMPLOYEE.ext (own_ext K17)) (g := (mkF m 58 #[.val (.int p1), .unset, .unset, .unset] [(.int (8 : Int32)), (.ref o1), (.ref o1)])) rfl (hb hby at_58)
  refine Go.st st18 ?_
  show Go p e below _ T18 (mkF m 61 #[.val (.int p1), .unset, .unset, .unset] [(.ref a_EMPLOYEE), (.int (8 : Int32)), (.ref o1), (.ref o1)])
  obtain ⟨T19, h19, X19, e19, W19, V19, st19⟩ := own_stR X18 hx hZ e18 (j := (8 : Int32)) V17' O1 (Ins.self (E_EMPLOYEE.keep K17)) (by decide) (by decide) 8 (by decide) (by simp) (g := (mkF m 61 #[.val (.int p1), .unset, .unset, .unset] [(.ref a_EMPLOYEE), (.int (8 : Int32)), (.ref o1), (.ref o1)])) rfl rfl (hb hby at_61)
  have N19 := Fr.snoc X19 N17 (Nat.le_trans Z0 le_o1)
  have K19 := K17.wr W19 (Or.inr le_o1)
  have V19' : Arv Z h19 o1 k1 (.object "com/example/billwright/billwright/CostDetail") (17 : Int32) [(.ref a_WORK_ORDER), (.ref a_WORK_ORDER_CLASS), (.ref a_CONTRACT), (.ref a_PARENT_CONTRACT), (.ref a_BUSINESS_UNIT_CLASS), (.ref a_COMPANY), (.ref a_DOCUMENT_TYPE), (.ref a_TAX_AREA), (.ref a_EMPLOYEE), .null, .null, .null, .null, .null, .null, .null, .null] .null := V19
  refine Go.st st19 ?_
  show Go p e below _ T19 (mkF m 62 #[.val (.int p1), .unset, .unset, .unset] [(.ref o1)])
  refine Go.st (fun _ h => XS.dup X19.here hx rfl (hb hby at_62) rfl rfl h) ?_
  show Go p e below _ T19 (mkF m 63 #[.val (.int p1), .unset, .unset, .unset] [(.ref o1), (.ref o1)])
  refine Go.st (fun _ h => XT.bipushV X19.here hx rfl (9 : Int32) (hb hby at_63) (by decide) h) ?_
  show Go p e below _ T19 (mkF m 65 #[.val (.int p1), .unset, .unset, .unset] [(.int (9 : Int32)), (.ref o1), (.ref o1)])
  obtain ⟨T20, X20, e20, st20⟩ := getS2 X19 hx hZ hown (host := "") (Or.inl (hw _ (List.mem_of_getElem? (i := 22) rfl))) Via.refl e19 (S_JOB_STEP.ext (own_ext K19)) (g := (mkF m 65 #[.val (.int p1), .unset, .unset, .unset] [(.int (9 : Int32)), (.ref o1), (.ref o1)])) rfl (hb hby at_65)
  refine Go.st st20 ?_
  show Go p e below _ T20 (mkF m 68 #[.val (.int p1), .unset, .unset, .unset] [(.ref a_JOB_STEP), (.int (9 : Int32)), (.ref o1), (.ref o1)])
  obtain ⟨T21, h21, X21, e21, W21, V21, st21⟩ := own_stR X20 hx hZ e20 (j := (9 : Int32)) V19' O1 (Ins.self (E_JOB_STEP.keep K19)) (by decide) (by decide) 9 (by decide) (by simp) (g := (mkF m 68 #[.val (.int p1), .unset, .unset, .unset] [(.ref a_JOB_STEP), (.int (9 : Int32)), (.ref o1), (.ref o1)])) rfl rfl (hb hby at_68)
  have N21 := Fr.snoc X21 N19 (Nat.le_trans Z0 le_o1)
  have K21 := K19.wr W21 (Or.inr le_o1)
  have V21' : Arv Z h21 o1 k1 (.object "com/example/billwright/billwright/CostDetail") (17 : Int32) [(.ref a_WORK_ORDER), (.ref a_WORK_ORDER_CLASS), (.ref a_CONTRACT), (.ref a_PARENT_CONTRACT), (.ref a_BUSINESS_UNIT_CLASS), (.ref a_COMPANY), (.ref a_DOCUMENT_TYPE), (.ref a_TAX_AREA), (.ref a_EMPLOYEE), (.ref a_JOB_STEP), .null, .null, .null, .null, .null, .null, .null] .null := V21
  refine Go.st st21 ?_
  show Go p e below _ T21 (mkF m 69 #[.val (.int p1), .unset, .unset, .unset] [(.ref o1)])
  refine Go.st (fun _ h => XS.dup X21.here hx rfl (hb hby at_69) rfl rfl h) ?_
  show Go p e below _ T21 (mkF m 70 #[.val (.int p1), .unset, .unset, .unset] [(.ref o1), (.ref o1)])
  refine Go.st (fun _ h => XT.bipushV X21.here hx rfl (10 : Int32) (hb hby at_70) (by decide) h) ?_
  show Go p e below _ T21 (mkF m 72 #[.val (.int p1), .unset, .unset, .unset] [(.int (10 : Int32)), (.ref o1), (.ref o1)])
  obtain ⟨T22, X22, e22, st22⟩ := getS2 X21 hx hZ hown (host := "") (Or.inl (hw _ (List.mem_of_getElem? (i := 24) rfl))) Via.refl e21 (S_JOB_TYPE.ext (own_ext K21)) (g := (mkF m 72 #[.val (.int p1), .unset, .unset, .unset] [(.int (10 : Int32)), (.ref o1), (.ref o1)])) rfl (hb hby at_72)
  refine Go.st st22 ?_
  show Go p e below _ T22 (mkF m 75 #[.val (.int p1), .unset, .unset, .unset] [(.ref a_JOB_TYPE), (.int (10 : Int32)), (.ref o1), (.ref o1)])
  obtain ⟨T23, h23, X23, e23, W23, V23, st23⟩ := own_stR X22 hx hZ e22 (j := (10 : Int32)) V21' O1 (Ins.self (E_JOB_TYPE.keep K21)) (by decide) (by decide) 10 (by decide) (by simp) (g := (mkF m 75 #[.val (.int p1), .unset, .unset, .unset] [(.ref a_JOB_TYPE), (.int (10 : Int32)), (.ref o1), (.ref o1)])) rfl rfl (hb hby at_75)
  have N23 := Fr.snoc X23 N21 (Nat.le_trans Z0 le_o1)
  have K23 := K21.wr W23 (Or.inr le_o1)
  have V23' : Arv Z h23 o1 k1 (.object "com/example/billwright/billwright/CostDetail") (17 : Int32) [(.ref a_WORK_ORDER), (.ref a_WORK_ORDER_CLASS), (.ref a_CONTRACT), (.ref a_PARENT_CONTRACT), (.ref a_BUSINESS_UNIT_CLASS), (.ref a_COMPANY), (.ref a_DOCUMENT_TYPE), (.ref a_TAX_AREA), (.ref a_EMPLOYEE), (.ref a_JOB_STEP), (.ref a_JOB_TYPE), .null, .null, .null, .null, .null, .null] .null := V23
  refine Go.st st23 ?_
  show Go p e below _ T23 (mkF m 76 #[.val (.int p1), .unset, .unset, .unset] [(.ref o1)])
  refine Go.st (fun _ h => XS.dup X23.here hx rfl (hb hby at_76) rfl rfl h) ?_
  show Go p e below _ T23 (mkF m 77 #[.val (.int p1), .unset, .unset, .unset] [(.ref o1), (.ref o1)])
  refine Go.st (fun _ h => XT.bipushV X23.here hx rfl (11 : Int32) (hb hby at_77) (by decide) h) ?_
  show Go p e below _ T23 (mkF m 79 #[.val (.int p1), .unset, .unset, .unset] [(.int (11 : Int32)), (.ref o1), (.ref o1)])
  obtain ⟨T24, X24, e24, st24⟩ := getS2 X23 hx hZ hown (host := "") (Or.inl (hw _ (List.mem_of_getElem? (i := 26) rfl))) Via.refl e23 (S_PAY_TYPE.ext (own_ext K23)) (g := (mkF m 79 #[.val (.int p1), .unset, .unset, .unset] [(.int (11 : Int32)), (.ref o1), (.ref o1)])) rfl (hb hby at_79)
  refine Go.st st24 ?_
  show Go p e below _ T24 (mkF m 82 #[.val (.int p1), .unset, .unset, .unset] [(.ref a_PAY_TYPE), (.int (11 : Int32)), (.ref o1), (.ref o1)])
  obtain ⟨T25, h25, X25, e25, W25, V25, st25⟩ := own_stR X24 hx hZ e24 (j := (11 : Int32)) V23' O1 (Ins.self (E_PAY_TYPE.keep K23)) (by decide) (by decide) 11 (by decide) (by simp) (g := (mkF m 82 #[.val (.int p1), .unset, .unset, .unset] [(.ref a_PAY_TYPE), (.int (11 : Int32)), (.ref o1), (.ref o1)])) rfl rfl (hb hby at_82)
  have N25 := Fr.snoc X25 N23 (Nat.le_trans Z0 le_o1)
  have K25 := K23.wr W25 (Or.inr le_o1)
  have V25' : Arv Z h25 o1 k1 (.object "com/example/billwright/billwright/CostDetail") (17 : Int32) [(.ref a_WORK_ORDER), (.ref a_WORK_ORDER_CLASS), (.ref a_CONTRACT), (.ref a_PARENT_CONTRACT), (.ref a_BUSINESS_UNIT_CLASS), (.ref a_COMPANY), (.ref a_DOCUMENT_TYPE), (.ref a_TAX_AREA), (.ref a_EMPLOYEE), (.ref a_JOB_STEP), (.ref a_JOB_TYPE), (.ref a_PAY_TYPE), .null, .null, .null, .null, .null] .null := V25
  refine Go.st st25 ?_
  show Go p e below _ T25 (mkF m 83 #[.val (.int p1), .unset, .unset, .unset] [(.ref o1)])
  refine Go.st (fun _ h => XS.dup X25.here hx rfl (hb hby at_83) rfl rfl h) ?_
  show Go p e below _ T25 (mkF m 84 #[.val (.int p1), .unset, .unset, .unset] [(.ref o1), (.ref o1)])
  refine Go.st (fun _ h => XT.bipushV X25.here hx rfl (12 : Int32) (hb hby at_84) (by decide) h) ?_
  show Go p e below _ T25 (mkF m 86 #[.val (.int p1), .unset, .unset, .unset] [(.int (12 : Int32)), (.ref o1), (.ref o1)])
  obtain ⟨T26, X26, e26, st26⟩ := getS2 X25 hx hZ hown (host := "") (Or.inl (hw _ (List.mem_of_getElem? (i := 28) rfl))) Via.refl e25 (S_HOME_BUSINESS_UNIT.ext (own_ext K25)) (g := (mkF m 86 #[.val (.int p1), .unset, .unset, .unset] [(.int (12 : Int32)), (.ref o1), (.ref o1)])) rfl (hb hby at_86)
  refine Go.st st26 ?_
  show Go p e below _ T26 (mkF m 89 #[.val (.int p1), .unset, .unset, .unset] [(.ref a_HOME_BUSINESS_UNIT), (.int (12 : Int32)), (.ref o1), (.ref o1)])
  obtain ⟨T27, h27, X27, e27, W27, V27, st27⟩ := own_stR X26 hx hZ e26 (j := (12 : Int32)) V25' O1 (Ins.self (E_HOME_BUSINESS_UNIT.keep K25)) (by decide) (by decide) 12 (by decide) (by simp) (g := (mkF m 89 #[.val (.int p1), .unset, .unset, .unset] [(.ref a_HOME_BUSINESS_UNIT), (.int (12 : Int32)), (.ref o1), (.ref o1)])) rfl rfl (hb hby at_89)
  have N27 := Fr.snoc X27 N25 (Nat.le_trans Z0 le_o1)
  have K27 := K25.wr W27 (Or.inr le_o1)
  have V27' : Arv Z h27 o1 k1 (.object "com/example/billwright/billwright/CostDetail") (17 : Int32) [(.ref a_WORK_ORDER), (.ref a_WORK_ORDER_CLASS), (.ref a_CONTRACT), (.ref a_PARENT_CONTRACT), (.ref a_BUSINESS_UNIT_CLASS), (.ref a_COMPANY), (.ref a_DOCUMENT_TYPE), (.ref a_TAX_AREA), (.ref a_EMPLOYEE), (.ref a_JOB_STEP), (.ref a_JOB_TYPE), (.ref a_PAY_TYPE), (.ref a_HOME_BUSINESS_UNIT), .null, .null, .null, .null] .null := V27
  refine Go.st st27 ?_
  show Go p e below _ T27 (mkF m 90 #[.val (.int p1), .unset, .unset, .unset] [(.ref o1)])
  refine Go.st (fun _ h => XS.dup X27.here hx rfl (hb hby at_90) rfl rfl h) ?_
  show Go p e below _ T27 (mkF m 91 #[.val (.int p1), .unset, .unset, .unset] [(.ref o1), (.ref o1)])
  refine Go.st (fun _ h => XT.bipushV X27.here hx rfl (13 : Int32) (hb hby at_91) (by decide) h) ?_
  show Go p e below _ T27 (mkF m 93 #[.val (.int p1), .unset, .unset, .unset] [(.int (13 : Int32)), (.ref o1), (.ref o1)])
  obtain ⟨T28, X28, e28, st28⟩ := getS2 X27 hx hZ hown (host := "") (Or.inl (hw _ (List.mem_of_getElem? (i := 30) rfl))) Via.refl e27 (S_COST_POOL.ext (own_ext K27)) (g := (mkF m 93 #[.val (.int p1), .unset, .unset, .unset] [(.int (13 : Int32)), (.ref o1), (.ref o1)])) rfl (hb hby at_93)
  refine Go.st st28 ?_
  show Go p e below _ T28 (mkF m 96 #[.val (.int p1), .unset, .unset, .unset] [(.ref a_COST_POOL), (.int (13 : Int32)), (.ref o1), (.ref o1)])
  obtain ⟨T29, h29, X29, e29, W29, V29, st29⟩ := own_stR X28 hx hZ e28 (j := (13 : Int32)) V27' O1 (Ins.self (E_COST_POOL.keep K27)) (by decide) (by decide) 13 (by decide) (by simp) (g := (mkF m 96 #[.val (.int p1), .unset, .unset, .unset] [(.ref a_COST_POOL), (.int (13 : Int32)), (.ref o1), (.ref o1)])) rfl rfl (hb hby at_96)
  have N29 := Fr.snoc X29 N27 (Nat.le_trans Z0 le_o1)
  have K29 := K27.wr W29 (Or.inr le_o1)
  have V29' : Arv Z h29 o1 k1 (.object "com/example/billwright/billwright/CostDetail") (17 : Int32) [(.ref a_WORK_ORDER), (.ref a_WORK_ORDER_CLASS), (.ref a_CONTRACT), (.ref a_PARENT_CONTRACT), (.ref a_BUSINESS_UNIT_CLASS), (.ref a_COMPANY), (.ref a_DOCUMENT_TYPE), (.ref a_TAX_AREA), (.ref a_EMPLOYEE), (.ref a_JOB_STEP), (.ref a_JOB_TYPE), (.ref a_PAY_TYPE), (.ref a_HOME_BUSINESS_UNIT), (.ref a_COST_POOL), .null, .null, .null] .null := V29
  refine Go.st st29 ?_
  show Go p e below _ T29 (mkF m 97 #[.val (.int p1), .unset, .unset, .unset] [(.ref o1)])
  refine Go.st (fun _ h => XS.dup X29.here hx rfl (hb hby at_97) rfl rfl h) ?_
  show Go p e below _ T29 (mkF m 98 #[.val (.int p1), .unset, .unset, .unset] [(.ref o1), (.ref o1)])
  refine Go.st (fun _ h => XT.bipushV X29.here hx rfl (14 : Int32) (hb hby at_98) (by decide) h) ?_
  show Go p e below _ T29 (mkF m 100 #[.val (.int p1), .unset, .unset, .unset] [(.int (14 : Int32)), (.ref o1), (.ref o1)])
  obtain ⟨T30, X30, e30, st30⟩ := getS2 X29 hx hZ hown (host := "") (Or.inl (hw _ (List.mem_of_getElem? (i := 32) rfl))) Via.refl e29 (S_EQUIPMENT.ext (own_ext K29)) (g := (mkF m 100 #[.val (.int p1), .unset, .unset, .unset] [(.int (14 : Int32)), (.ref o1), (.ref o1)])) rfl (hb hby at_100)
  refine Go.st st30 ?_
  show Go p e below _ T30 (mkF m 103 #[.val (.int p1), .unset, .unset, .unset] [(.ref a_EQUIPMENT), (.int (14 : Int32)), (.ref o1), (.ref o1)])
  obtain ⟨T31, h31, X31, e31, W31, V31, st31⟩ := own_stR X30 hx hZ e30 (j := (14 : Int32)) V29' O1 (Ins.self (E_EQUIPMENT.keep K29)) (by decide) (by decide) 14 (by decide) (by simp) (g := (mkF m 103 #[.val (.int p1), .unset, .unset, .unset] [(.ref a_EQUIPMENT), (.int (14 : Int32)), (.ref o1), (.ref o1)])) rfl rfl (hb hby at_103)
  have N31 := Fr.snoc X31 N29 (Nat.le_trans Z0 le_o1)
  have K31 := K29.wr W31 (Or.inr le_o1)
  have V31' : Arv Z h31 o1 k1 (.object "com/example/billwright/billwright/CostDetail") (17 : Int32) [(.ref a_WORK_ORDER), (.ref a_WORK_ORDER_CLASS), (.ref a_CONTRACT), (.ref a_PARENT_CONTRACT), (.ref a_BUSINESS_UNIT_CLASS), (.ref a_COMPANY), (.ref a_DOCUMENT_TYPE), (.ref a_TAX_AREA), (.ref a_EMPLOYEE), (.ref a_JOB_STEP), (.ref a_JOB_TYPE), (.ref a_PAY_TYPE), (.ref a_HOME_BUSINESS_UNIT), (.ref a_COST_POOL), (.ref a_EQUIPMENT), .null, .null] .null := V31
  refine Go.st st31 ?_
  show Go p e below _ T31 (mkF m 104 #[.val (.int p1), .unset, .unset, .unset] [(.ref o1)])
  refine Go.st (fun _ h => XS.dup X31.here hx rfl (hb hby at_104) rfl rfl h) ?_
  show Go p e below _ T31 (mkF m 105 #[.val (.int p1), .unset, .unset, .unset] [(.ref o1), (.ref o1)])
  refine Go.st (fun _ h => XT.bipushV X31.here hx rfl (15 : Int32) (hb hby at_105) (by decide) h) ?_
  show Go p e below _ T31 (mkF m 107 #[.val (.int p1), .unset, .unset, .unset] [(.int (15 : Int32)), (.ref o1), (.ref o1)])
  obtain ⟨T32, X32, e32, st32⟩ := getS2 X31 hx hZ hown (host := "") (Or.inl (hw _ (List.mem_of_getElem? (i := 34) rfl))) Via.refl e31 (S_RATE_GROUP.ext (own_ext K31)) (g := (mkF m 107 #[.val (.int p1), .unset, .unset, .unset] [(.int (15 : Int32)), (.ref o1), (.ref o1)])) rfl (hb hby at_107)
  refine Go.st st32 ?_
  show Go p e below _ T32 (mkF m 110 #[.val (.int p1), .unset, .unset, .unset] [(.ref a_RATE_GROUP), (.int (15 : Int32)), (.ref o1), (.ref o1)])
  obtain ⟨T33, h33, X33, e33, W33, V33, st33⟩ := own_stR X32 hx hZ e32 (j := (15 : Int32)) V31' O1 (Ins.self (E_RATE_GROUP.keep K31)) (by decide) (by decide) 15 (by decide) (by simp) (g := (mkF m 110 #[.val (.int p1), .unset, .unset, .unset] [(.ref a_RATE_GROUP), (.int (15 : Int32)), (.ref o1), (.ref o1)])) rfl rfl (hb hby at_110)
  have N33 := Fr.snoc X33 N31 (Nat.le_trans Z0 le_o1)
  have K33 := K31.wr W33 (Or.inr le_o1)
  have V33' : Arv Z h33 o1 k1 (.object "com/example/billwright/billwright/CostDetail") (17 : Int32) [(.ref a_WORK_ORDER), (.ref a_WORK_ORDER_CLASS), (.ref a_CONTRACT), (.ref a_PARENT_CONTRACT), (.ref a_BUSINESS_UNIT_CLASS), (.ref a_COMPANY), (.ref a_DOCUMENT_TYPE), (.ref a_TAX_AREA), (.ref a_EMPLOYEE), (.ref a_JOB_STEP), (.ref a_JOB_TYPE), (.ref a_PAY_TYPE), (.ref a_HOME_BUSINESS_UNIT), (.ref a_COST_POOL), (.ref a_EQUIPMENT), (.ref a_RATE_GROUP), .null] .null := V33
  refine Go.st st33 ?_
  show Go p e below _ T33 (mkF m 111 #[.val (.int p1), .unset, .unset, .unset] [(.ref o1)])
  refine Go.st (fun _ h => XS.dup X33.here hx rfl (hb hby at_111) rfl rfl h) ?_
  show Go p e below _ T33 (mkF m 112 #[.val (.int p1), .unset, .unset, .unset] [(.ref o1), (.ref o1)])
  refine Go.st (fun _ h => XT.bipushV X33.here hx rfl (16 : Int32) (hb hby at_112) (by decide) h) ?_
  show Go p e below _ T33 (mkF m 114 #[.val (.int p1), .unset, .unset, .unset] [(.int (16 : Int32)), (.ref o1), (.ref o1)])
  obtain ⟨T34, X34, e34, st34⟩ := getS2 X33 hx hZ hown (host := "") (Or.inl (hw _ (List.mem_of_getElem? (i := 36) rfl))) Via.refl e33 (S_RATE_CODE.ext (own_ext K33)) (g := (mkF m 114 #[.val (.int p1), .unset, .unset, .unset] [(.int (16 : Int32)), (.ref o1), (.ref o1)])) rfl (hb hby at_114)
  refine Go.st st34 ?_
  show Go p e below _ T34 (mkF m 117 #[.val (.int p1), .unset, .unset, .unset] [(.ref a_RATE_CODE), (.int (16 : Int32)), (.ref o1), (.ref o1)])
  obtain ⟨T35, h35, X35, e35, W35, V35, st35⟩ := own_stR X34 hx hZ e34 (j := (16 : Int32)) V33' O1 (Ins.self (E_RATE_CODE.keep K33)) (by decide) (by decide) 16 (by decide) (by simp) (g := (mkF m 117 #[.val (.int p1), .unset, .unset, .unset] [(.ref a_RATE_CODE), (.int (16 : Int32)), (.ref o1), (.ref o1)])) rfl rfl (hb hby at_117)
  have N35 := Fr.snoc X35 N33 (Nat.le_trans Z0 le_o1)
  have K35 := K33.wr W35 (Or.inr le_o1)
  have V35' : Arv Z h35 o1 k1 (.object "com/example/billwright/billwright/CostDetail") (17 : Int32) [(.ref a_WORK_ORDER), (.ref a_WORK_ORDER_CLASS), (.ref a_CONTRACT), (.ref a_PARENT_CONTRACT), (.ref a_BUSINESS_UNIT_CLASS), (.ref a_COMPANY), (.ref a_DOCUMENT_TYPE), (.ref a_TAX_AREA), (.ref a_EMPLOYEE), (.ref a_JOB_STEP), (.ref a_JOB_TYPE), (.ref a_PAY_TYPE), (.ref a_HOME_BUSINESS_UNIT), (.ref a_COST_POOL), (.ref a_EQUIPMENT), (.ref a_RATE_GROUP), (.ref a_RATE_CODE)] .null := V35
  refine Go.st st35 ?_
  show Go p e below _ T35 (mkF m 118 #[.val (.int p1), .unset, .unset, .unset] [(.ref o1)])
  refine Go.st (fun _ h => XS.astoreN X35.here hx rfl (hb hby at_118) rfl rfl (l' := #[.val (.int p1), .val (.ref o1), .unset, .unset]) rfl h) ?_
  show Go p e below _ T35 (mkF m 119 #[.val (.int p1), .val (.ref o1), .unset, .unset] [])
  refine Go.st (fun _ h => XS.iloadN X35.here hx rfl (hb hby at_119) rfl h) ?_
  show Go p e below _ T35 (mkF m 120 #[.val (.int p1), .val (.ref o1), .unset, .unset] [(.int p1)])
  refine Go.st (fun _ h => X35.ldcI hx hown (mvT hZ (hw _ (List.mem_of_getElem? (i := 38) rfl))) rfl (hb hby at_120) h) ?_
  show Go p e below _ T35 (mkF m 122 #[.val (.int p1), .val (.ref o1), .unset, .unset] [(.int (2147483647 : Int32)), (.int p1)])
  refine Go.st (fun _ h => XS.iand X35.here hx rfl (hb hby at_122) rfl h) ?_
  show Go p e below _ T35 (mkF m 123 #[.val (.int p1), .val (.ref o1), .unset, .unset] [(.int (p1 &&& (2147483647 : Int32)))])
  refine Go.st (fun _ h => XT.bipushV X35.here hx rfl (17 : Int32) (hb hby at_123) (by decide) h) ?_
  show Go p e below _ T35 (mkF m 125 #[.val (.int p1), .val (.ref o1), .unset, .unset] [(.int (17 : Int32)), (.int (p1 &&& (2147483647 : Int32)))])
  refine Go.st (fun _ h => iremM X35 hx rfl (hb hby at_125) rfl (by decide) h) ?_
  show Go p e below _ T35 (mkF m 126 #[.val (.int p1), .val (.ref o1), .unset, .unset] [(.int ((p1 &&& (2147483647 : Int32)) % (17 : Int32)))])
  refine Go.st (fun _ h => XS.istoreN X35.here hx rfl (hb hby at_126) rfl (l' := #[.val (.int p1), .val (.ref o1), .val (.int ((p1 &&& (2147483647 : Int32)) % (17 : Int32))), .unset]) rfl h) ?_
  show Go p e below _ T35 (mkF m 127 #[.val (.int p1), .val (.ref o1), .val (.int ((p1 &&& (2147483647 : Int32)) % (17 : Int32))), .unset] [])
  obtain ⟨q, h_q⟩ : ∃ z : Int32, z = ((p1 &&& (2147483647 : Int32)) % (17 : Int32)) := ⟨_, rfl⟩
  rw [← h_q]
  show Go p e below _ T35 (mkF m 127 #[.val (.int p1), .val (.ref o1), .val (.int q), .unset] [])
  have hq := own_17 (q := q) (by rw [h_q]; exact own_mod (by decide))
  rcases hq with rfl | rfl | rfl | rfl | rfl | rfl | rfl | rfl | rfl | rfl | rfl | rfl | rfl | rfl | rfl | rfl | rfl
  ·
    show Go p e below _ T35 (mkF m 127 #[.val (.int p1), .val (.ref o1), .val (.int (0 : Int32)), .unset] [])
    refine Go.st (fun _ h => XS.iloadN X35.here hx rfl (hb hby at_127) rfl h) ?_
    show Go p e below _ T35 (mkF m 128 #[.val (.int p1), .val (.ref o1), .val (.int (0 : Int32)), .unset] [(.int (0 : Int32))])
    refine Go.st (fun _ h => XT.bipushV X35.here hx rfl (8 : Int32) (hb hby at_128) (by decide) h) ?_
    show Go p e below _ T35 (mkF m 130 #[.val (.int p1), .val (.ref o1), .val (.int (0 : Int32)), .unset] [(.int (8 : Int32)), (.int (0 : Int32))])
    refine Go.st (fun _ h => XS.icmpYes X35.here hx rfl (pc0 := 130) (pc' := 137) rfl (hb hby at_130) rfl (by decide) (by decide) (by decide) h) ?_
    show Go p e below _ T35 (mkF m 137 #[.val (.int p1), .val (.ref o1), .val (.int (0 : Int32)), .unset] [])
    refine Go.st (fun _ h => XT.iconstV X35.here hx rfl (0 : Int32) (hb hby at_137) (by decide) h) ?_
    show Go p e below _ T35 (mkF m 138 #[.val (.int p1), .val (.ref o1), .val (.int (0 : Int32)), .unset] [(.int (0 : Int32))])
    refine Go.st (fun _ h => XS.istoreN X35.here hx rfl (hb hby at_138) rfl (l' := #[.val (.int p1), .val (.ref o1), .val (.int (0 : Int32)), .val (.int (0 : Int32))]) rfl h) ?_
    show Go p e below _ T35 (mkF m 139 #[.val (.int p1), .val (.ref o1), .val (.int (0 : Int32)), .val (.int (0 : Int32))] [])
    refine Go.st (fun _ h => XS.aloadN X35.here hx rfl (hb hby at_139) rfl rfl h) ?_
    show Go p e below _ T35 (mkF m 140 #[.val (.int p1), .val (.ref o1), .val (.int (0 : Int32)), .val (.int (0 : Int32))] [(.ref o1)])
    refine Go.st (fun _ h => XS.iloadN X35.here hx rfl (hb hby at_140) rfl h) ?_
    show Go p e below _ T35 (mkF m 141 #[.val (.int p1), .val (.ref o1), .val (.int (0 : Int32)), .val (.int (0 : Int32))] [(.int (0 : Int32)), (.ref o1)])
    refine Go.st (own_ldR X35 hx hZ e35 V35' rfl (by decide) (by decide) rfl rfl rfl (hb hby at_141)) ?_
    show Go p e below _ T35 (mkF m 142 #[.val (.int p1), .val (.ref o1), .val (.int (0 : Int32)), .val (.int (0 : Int32))] [(.ref a_WORK_ORDER)])
    obtain ⟨T36, X36, e36, st36⟩ := own_still rfl rfl (Does.virtual (y := (⟨"com/example/billwright/billwright/CostDetail", "ruleField", "()Z"⟩ : MethodName)) (g := (mkF m 142 #[.val (.int p1), .val (.ref o1), .val (.int (0 : Int32)), .val (.int (0 : Int32))] [(.ref a_WORK_ORDER)])) (a := a_WORK_ORDER) (rmRule l Z a0 hw a_WORK_ORDER (0 : Int32) h35 (F_WORK_ORDER_letter.keep K35 nin0)) X35 hx hZ hown e35 (E_WORK_ORDER.keep K35) (hw _ (List.mem_of_getElem? (i := 39) rfl)) (hw _ (List.mem_of_getElem? (i := 40) rfl)) (hw _ (List.mem_of_getElem? (i := 42) rfl)) (hw _ (List.mem_of_getElem? (i := 41) rfl)) (hw _ (List.mem_of_getElem? (i := 3) rfl)) (hw _ (List.mem_of_getElem? (i := 43) rfl)) (by decide) rfl (by rw [hml]; rfl) (argsL := []) (rest := []) (lenOf pd_2829Z rfl) rfl (hb hby at_142) (W := 0) (by show 2 * 0 + _ ≤ _; exact Nat.le_of_eq rfl) (by decide) (by decide) (by decide) (by decide))
    refine Go.st st36 ?_
    show Go p e below _ T36 (mkF m 145 #[.val (.int p1), .val (.ref o1), .val (.int (0 : Int32)), .val (.int (0 : Int32))] [(.int (own_rule (0 : Int32)))])
    refine Go.st (fun _ h => XS.iloadN X36.here hx rfl (hb hby at_145) rfl h) ?_
    show Go p e below _ T36 (mkF m 146 #[.val (.int p1), .val (.ref o1), .val (.int (0 : Int32)), .val (.int (0 : Int32))] [(.int (0 : Int32)), (.int (own_rule (0 : Int32)))])
    refine Go.st (fun _ h => XS.icmpNo X36.here hx rfl (hb hby at_146) rfl (by decide) h) ?_
    show Go p e below _ T36 (mkF m 149 #[.val (.int p1), .val (.ref o1), .val (.int (0 : Int32)), .val (.int (0 : Int32))] [])
    refine Go.st (fun _ h => XT.iconstV X36.here hx rfl (1 : Int32) (hb hby at_149) (by decide) h) ?_
    show Go p e below _ T36 (mkF m 150 #[.val (.int p1), .val (.ref o1), .val (.int (0 : Int32)), .val (.int (0 : Int32))] [(.int (1 : Int32))])
    refine Go.st (fun _ h => XS.goto X36.here hx rfl (pc0 := 150) (pc' := 154) rfl (hb hby at_150) (by decide) (by decide) h) ?_
    show Go p e below _ T36 (mkF m 154 #[.val (.int p1), .val (.ref o1), .val (.int (0 : Int32)), .val (.int (0 : Int32))] [(.int (1 : Int32))])
    refine Go.retZ X36 hx hlk hret rfl (hb hby at_154) (by decide) (by decide) ?_
    exact ⟨rfl, N35⟩
  ·
    show Go p e below _ T35 (mkF m 127 #[.val (.int p1), .val (.ref o1), .val (.int (1 : Int32)), .unset] [])
    refine Go.st (fun _ h => XS.iloadN X35.here hx rfl (hb hby at_127) rfl h) ?_
    show Go p e below _ T35 (mkF m 128 #[.val (.int p1), .val (.ref o1), .val (.int (1 : Int32)), .unset] [(.int (1 : Int32))])
    refine Go.st (fun _ h => XT.bipushV X35.here hx rfl (8 : Int32) (hb hby at_128) (by decide) h) ?_
    show Go p e below _ T35 (mkF m 130 #[.val (.int p1), .val (.ref o1), .val (.int (1 : Int32)), .unset] [(.int (8 : Int32)), (.int (1 : Int32))])
    refine Go.st (fun _ h => XS.icmpYes X35.here hx rfl (pc0 := 130) (pc' := 137) rfl (hb hby at_130) rfl (by decide) (by decide) (by decide) h) ?_
    show Go p e below _ T35 (mkF m 137 #[.val (.int p1), .val (.ref o1), .val (.int (1 : Int32)), .unset] [])
    refine Go.st (fun _ h => XT.iconstV X35.here hx rfl (0 : Int32) (hb hby at_137) (by decide) h) ?_
    show Go p e below _ T35 (mkF m 138 #[.val (.int p1), .val (.ref o1), .val (.int (1 : Int32)), .unset] [(.int (0 : Int32))])
    refine Go.st (fun _ h => XS.istoreN X35.here hx rfl (hb hby at_138) rfl (l' := #[.val (.int p1), .val (.ref o1), .val (.int (1 : Int32)), .val (.int (0 : Int32))]) rfl h) ?_
    show Go p e below _ T35 (mkF m 139 #[.val (.int p1), .val (.ref o1), .val (.int (1 : Int32)), .val (.int (0 : Int32))] [])
    refine Go.st (fun _ h => XS.aloadN X35.here hx rfl (hb hby at_139) rfl rfl h) ?_
    show Go p e below _ T35 (mkF m 140 #[.val (.int p1), .val (.ref o1), .val (.int (1 : Int32)), .val (.int (0 : Int32))] [(.ref o1)])
    refine Go.st (fun _ h => XS.iloadN X35.here hx rfl (hb hby at_140) rfl h) ?_
    show Go p e below _ T35 (mkF m 141 #[.val (.int p1), .val (.ref o1), .val (.int (1 : Int32)), .val (.int (0 : Int32))] [(.int (1 : Int32)), (.ref o1)])
    refine Go.st (own_ldR X35 hx hZ e35 V35' rfl (by decide) (by decide) rfl rfl rfl (hb hby at_141)) ?_
    show Go p e below _ T35 (mkF m 142 #[.val (.int p1), .val (.ref o1), .val (.int (1 : Int32)), .val (.int (0 : Int32))] [(.ref a_WORK_ORDER_CLASS)])
    obtain ⟨T37, X37, e37, st37⟩ := own_still rfl rfl (Does.virtual (y := (⟨"com/example/billwright/billwright/CostDetail", "ruleField", "()Z"⟩ : MethodName)) (g := (mkF m 142 #[.val (.int p1), .val (.ref o1), .val (.int (1 : Int32)), .val (.int (0 : Int32))] [(.ref a_WORK_ORDER_CLASS)])) (a := a_WORK_ORDER_CLASS) (rmRule l Z a0 hw a_WORK_ORDER_CLASS (0 : Int32) h35 (F_WORK_ORDER_CLASS_letter.keep K35 nin0)) X35 hx hZ hown e35 (E_WORK_ORDER_CLASS.keep K35) (hw _ (List.mem_of_getElem? (i := 39) rfl)) (hw _ (List.mem_of_getElem? (i := 40) rfl)) (hw _ (List.mem_of_getElem? (i := 42) rfl)) (hw _ (List.mem_of_getElem? (i := 41) rfl)) (hw _ (List.mem_of_getElem? (i := 3) rfl)) (hw _ (List.mem_of_getElem? (i := 43) rfl)) (by decide) rfl (by rw [hml]; rfl) (argsL := []) (rest := []) (lenOf pd_2829Z rfl) rfl (hb hby at_142) (W := 0) (by show 2 * 0 + _ ≤ _; exact Nat.le_of_eq rfl) (by decide) (by decide) (by decide) (by decide))
    refine Go.st st37 ?_
    show Go p e below _ T37 (mkF m 145 #[.val (.int p1), .val (.ref o1), .val (.int (1 : Int32)), .val (.int (0 : Int32))] [(.int (own_rule (0 : Int32)))])
    refine Go.st (fun _ h => XS.iloadN X37.here hx rfl (hb hby at_145) rfl h) ?_
    show Go p e below _ T37 (mkF m 146 #[.val (.int p1), .val (.ref o1), .val (.int (1 : Int32)), .val (.int (0 : Int32))] [(.int (0 : Int32)), (.int (own_rule (0 : Int32)))])
    refine Go.st (fun _ h => XS.icmpNo X37.here hx rfl (hb hby at_146) rfl (by decide) h) ?_
    show Go p e below _ T37 (mkF m 149 #[.val (.int p1), .val (.ref o1), .val (.int (1 : Int32)), .val (.int (0 : Int32))] [])
    refine Go.st (fun _ h => XT.iconstV X37.here hx rfl (1 : Int32) (hb hby at_149) (by decide) h) ?_
    show Go p e below _ T37 (mkF m 150 #[.val (.int p1), .val (.ref o1), .val (.int (1 : Int32)), .val (.int (0 : Int32))] [(.int (1 : Int32))])
    refine Go.st (fun _ h => XS.goto X37.here hx rfl (pc0 := 150) (pc' := 154) rfl (hb hby at_150) (by decide) (by decide) h) ?_
    show Go p e below _ T37 (mkF m 154 #[.val (.int p1), .val (.ref o1), .val (.int (1 : Int32)), .val (.int (0 : Int32))] [(.int (1 : Int32))])
    refine Go.retZ X37 hx hlk hret rfl (hb hby at_154) (by decide) (by decide) ?_
    exact ⟨rfl, N35⟩
  ·
    show Go p e below _ T35 (mkF m 127 #[.val (.int p1), .val (.ref o1), .val (.int (2 : Int32)), .unset] [])
    refine Go.st (fun _ h => XS.iloadN X35.here hx rfl (hb hby at_127) rfl h) ?_
    show Go p e below _ T35 (mkF m 128 #[.val (.int p1), .val (.ref o1), .val (.int (2 : Int32)), .unset] [(.int (2 : Int32))])
    refine Go.st (fun _ h => XT.bipushV X35.here hx rfl (8 : Int32) (hb hby at_128) (by decide) h) ?_
    show Go p e below _ T35 (mkF m 130 #[.val (.int p1), .val (.ref o1), .val (.int (2 : Int32)), .unset] [(.int (8 : Int32)), (.int (2 : Int32))])
    refine Go.st (fun _ h => XS.icmpYes X35.here hx rfl (pc0 := 130) (pc' := 137) rfl (hb hby at_130) rfl (by decide) (by decide) (by decide) h) ?_
    show Go p e below _ T35 (mkF m 137 #[.val (.int p1), .val (.ref o1), .val (.int (2 : Int32)), .unset] [])
    refine Go.st (fun _ h => XT.iconstV X35.here hx rfl (0 : Int32) (hb hby at_137) (by decide) h) ?_
    show Go p e below _ T35 (mkF m 138 #[.val (.int p1), .val (.ref o1), .val (.int (2 : Int32)), .unset] [(.int (0 : Int32))])
    refine Go.st (fun _ h => XS.istoreN X35.here hx rfl (hb hby at_138) rfl (l' := #[.val (.int p1), .val (.ref o1), .val (.int (2 : Int32)), .val (.int (0 : Int32))]) rfl h) ?_
    show Go p e below _ T35 (mkF m 139 #[.val (.int p1), .val (.ref o1), .val (.int (2 : Int32)), .val (.int (0 : Int32))] [])
    refine Go.st (fun _ h => XS.aloadN X35.here hx rfl (hb hby at_139) rfl rfl h) ?_
    show Go p e below _ T35 (mkF m 140 #[.val (.int p1), .val (.ref o1), .val (.int (2 : Int32)), .val (.int (0 : Int32))] [(.ref o1)])
    refine Go.st (fun _ h => XS.iloadN X35.here hx rfl (hb hby at_140) rfl h) ?_
    show Go p e below _ T35 (mkF m 141 #[.val (.int p1), .val (.ref o1), .val (.int (2 : Int32)), .val (.int (0 : Int32))] [(.int (2 : Int32)), (.ref o1)])
    refine Go.st (own_ldR X35 hx hZ e35 V35' rfl (by decide) (by decide) rfl rfl rfl (hb hby at_141)) ?_
    show Go p e below _ T35 (mkF m 142 #[.val (.int p1), .val (.ref o1), .val (.int (2 : Int32)), .val (.int (0 : Int32))] [(.ref a_CONTRACT)])
    obtain ⟨T38, X38, e38, st38⟩ := own_still rfl rfl (Does.virtual (y := (⟨"com/example/billwright/billwright/CostDetail", "ruleField", "()Z"⟩ : MethodName)) (g := (mkF m 142 #[.val (.int p1), .val (.ref o1), .val (.int (2 : Int32)), .val (.int (0 : Int32))] [(.ref a_CONTRACT)])) (a := a_CONTRACT) (rmRule l Z a0 hw a_CONTRACT (0 : Int32) h35 (F_CONTRACT_letter.keep K35 nin0)) X35 hx hZ hown e35 (E_CONTRACT.keep K35) (hw _ (List.mem_of_getElem? (i := 39) rfl)) (hw _ (List.mem_of_getElem? (i := 40) rfl)) (hw _ (List.mem_of_getElem? (i := 42) rfl)) (hw _ (List.mem_of_getElem? (i := 41) rfl)) (hw _ (List.mem_of_getElem? (i := 3) rfl)) (hw _ (List.mem_of_getElem? (i := 43) rfl)) (by decide) rfl (by rw [hml]; rfl) (argsL := []) (rest := []) (lenOf pd_2829Z rfl) rfl (hb hby at_142) (W := 0) (by show 2 * 0 + _ ≤ _; exact Nat.le_of_eq rfl) (by decide) (by decide) (by decide) (by decide))
    refine Go.st st38 ?_
    show Go p e below _ T38 (mkF m 145 #[.val (.int p1), .val (.ref o1), .val (.int (2 : Int32)), .val (.int (0 : Int32))] [(.int (own_rule (0 : Int32)))])
    refine Go.st (fun _ h => XS.iloadN X38.here hx rfl (hb hby at_145) rfl h) ?_
    show Go p e below _ T38 (mkF m 146 #[.val (.int p1), .val (.ref o1), .val (.int (2 : Int32)), .val (.int (0 : Int32))] [(.int (0 : Int32)), (.int (own_rule (0 : Int32)))])
    refine Go.st (fun _ h => XS.icmpNo X38.here hx rfl (hb hby at_146) rfl (by decide) h) ?_
    show Go p e below _ T38 (mkF m 149 #[.val (.int p1), .val (.ref o1), .val (.int (2 : Int32)), .val (.int (0 : Int32))] [])
    refine Go.st (fun _ h => XT.iconstV X38.here hx rfl (1 : Int32) (hb hby at_149) (by decide) h) ?_
    show Go p e below _ T38 (mkF m 150 #[.val (.int p1), .val (.ref o1), .val (.int (2 : Int32)), .val (.int (0 : Int32))] [(.int (1 : Int32))])
    refine Go.st (fun _ h => XS.goto X38.here hx rfl (pc0 := 150) (pc' := 154) rfl (hb hby at_150) (by decide) (by decide) h) ?_
    show Go p e below _ T38 (mkF m 154 #[.val (.int p1), .val (.ref o1), .val (.int (2 : Int32)), .val (.int (0 : Int32))] [(.int (1 : Int32))])
    refine Go.retZ X38 hx hlk hret rfl (hb hby at_154) (by decide) (by decide) ?_
    exact ⟨rfl, N35⟩
  ·
    show Go p e below _ T35 (mkF m 127 #[.val (.int p1), .val (.ref o1), .val (.int (3 : Int32)), .unset] [])
    refine Go.st (fun _ h => XS.iloadN X35.here hx rfl (hb hby at_127) rfl h) ?_
    show Go p e below _ T35 (mkF m 128 #[.val (.int p1), .val (.ref o1), .val (.int (3 : Int32)), .unset] [(.int (3 : Int32))])
    refine Go.st (fun _ h => XT.bipushV X35.here hx rfl (8 : Int32) (hb hby at_128) (by decide) h) ?_
    show Go p e below _ T35 (mkF m 130 #[.val (.int p1), .val (.ref o1), .val (.int (3 : Int32)), .unset] [(.int (8 : Int32)), (.int (3 : Int32))])
    refine Go.st (fun _ h => XS.icmpYes X35.here hx rfl (pc0 := 130) (pc' := 137) rfl (hb hby at_130) rfl (by decide) (by decide) (by decide) h) ?_
    show Go p e below _ T35 (mkF m 137 #[.val (.int p1), .val (.ref o1), .val (.int (3 : Int32)), .unset] [])
    refine Go.st (fun _ h => XT.iconstV X35.here hx rfl (0 : Int32) (hb hby at_137) (by decide) h) ?_
    show Go p e below _ T35 (mkF m 138 #[.val (.int p1), .val (.ref o1), .val (.int (3 : Int32)), .unset] [(.int (0 : Int32))])
    refine Go.st (fun _ h => XS.istoreN X35.here hx rfl (hb hby at_138) rfl (l' := #[.val (.int p1), .val (.ref o1), .val (.int (3 : Int32)), .val (.int (0 : Int32))]) rfl h) ?_
    show Go p e below _ T35 (mkF m 139 #[.val (.int p1), .val (.ref o1), .val (.int (3 : Int32)), .val (.int (0 : Int32))] [])
    refine Go.st (fun _ h => XS.aloadN X35.here hx rfl (hb hby at_139) rfl rfl h) ?_
    show Go p e below _ T35 (mkF m 140 #[.val (.int p1), .val (.ref o1), .val (.int (3 : Int32)), .val (.int (0 : Int32))] [(.ref o1)])
    refine Go.st (fun _ h => XS.iloadN X35.here hx rfl (hb hby at_140) rfl h) ?_
    show Go p e below _ T35 (mkF m 141 #[.val (.int p1), .val (.ref o1), .val (.int (3 : Int32)), .val (.int (0 : Int32))] [(.int (3 : Int32)), (.ref o1)])
    refine Go.st (own_ldR X35 hx hZ e35 V35' rfl (by decide) (by decide) rfl rfl rfl (hb hby at_141)) ?_
    show Go p e below _ T35 (mkF m 142 #[.val (.int p1), .val (.ref o1), .val (.int (3 : Int32)), .val (.int (0 : Int32))] [(.ref a_PARENT_CONTRACT)])
    obtain ⟨T39, X39, e39, st39⟩ := own_still rfl rfl (Does.virtual (y := (⟨"com/example/billwright/billwright/CostDetail", "ruleField", "()Z"⟩ : MethodName)) (g := (mkF m 142 #[.val (.int p1), .val (.ref o1), .val (.int (3 : Int32)), .val (.int (0 : Int32))] [(.ref a_PARENT_CONTRACT)])) (a := a_PARENT_CONTRACT) (rmRule l Z a0 hw a_PARENT_CONTRACT (0 : Int32) h35 (F_PARENT_CONTRACT_letter.keep K35 nin0)) X35 hx hZ hown e35 (E_PARENT_CONTRACT.keep K35) (hw _ (List.mem_of_getElem? (i := 39) rfl)) (hw _ (List.mem_of_getElem? (i := 40) rfl)) (hw _ (List.mem_of_getElem? (i := 42) rfl)) (hw _ (List.mem_of_getElem? (i := 41) rfl)) (hw _ (List.mem_of_getElem? (i := 3) rfl)) (hw _ (List.mem_of_getElem? (i := 43) rfl)) (by decide) rfl (by rw [hml]; rfl) (argsL := []) (rest := []) (lenOf pd_2829Z rfl) rfl (hb hby at_142) (W := 0) (by show 2 * 0 + _ ≤ _; exact Nat.le_of_eq rfl) (by decide) (by decide) (by decide) (by decide))
    refine Go.st st39 ?_
    show Go p e below _ T39 (mkF m 145 #[.val (.int p1), .val (.ref o1), .val (.int (3 : Int32)), .val (.int (0 : Int32))] [(.int (own_rule (0 : Int32)))])
    refine Go.st (fun _ h => XS.iloadN X39.here hx rfl (hb hby at_145) rfl h) ?_
    show Go p e below _ T39 (mkF m 146 #[.val (.int p1), .val (.ref o1), .val (.int (3 : Int32)), .val (.int (0 : Int32))] [(.int (0 : Int32)), (.int (own_rule (0 : Int32)))])
    refine Go.st (fun _ h => XS.icmpNo X39.here hx rfl (hb hby at_146) rfl (by decide) h) ?_
    show Go p e below _ T39 (mkF m 149 #[.val (.int p1), .val (.ref o1), .val (.int (3 : Int32)), .val (.int (0 : Int32))] [])
    refine Go.st (fun _ h => XT.iconstV X39.here hx rfl (1 : Int32) (hb hby at_149) (by decide) h) ?_
    show Go p e below _ T39 (mkF m 150 #[.val (.int p1), .val (.ref o1), .val (.int (3 : Int32)), .val (.int (0 : Int32))] [(.int (1 : Int32))])
    refine Go.st (fun _ h => XS.goto X39.here hx rfl (pc0 := 150) (pc' := 154) rfl (hb hby at_150) (by decide) (by decide) h) ?_
    show Go p e below _ T39 (mkF m 154 #[.val (.int p1), .val (.ref o1), .val (.int (3 : Int32)), .val (.int (0 : Int32))] [(.int (1 : Int32))])
    refine Go.retZ X39 hx hlk hret rfl (hb hby at_154) (by decide) (by decide) ?_
    exact ⟨rfl, N35⟩
  ·
    show Go p e below _ T35 (mkF m 127 #[.val (.int p1), .val (.ref o1), .val (.int (4 : Int32)), .unset] [])
    refine Go.st (fun _ h => XS.iloadN X35.here hx rfl (hb hby at_127) rfl h) ?_
    show Go p e below _ T35 (mkF m 128 #[.val (.int p1), .val (.ref o1), .val (.int (4 : Int32)), .unset] [(.int (4 : Int32))])
    refine Go.st (fun _ h => XT.bipushV X35.here hx rfl (8 : Int32) (hb hby at_128) (by decide) h) ?_
    show Go p e below _ T35 (mkF m 130 #[.val (.int p1), .val (.ref o1), .val (.int (4 : Int32)), .unset] [(.int (8 : Int32)), (.int (4 : Int32))])
    refine Go.st (fun _ h => XS.icmpYes X35.here hx rfl (pc0 := 130) (pc' := 137) rfl (hb hby at_130) rfl (by decide) (by decide) (by decide) h) ?_
    show Go p e below _ T35 (mkF m 137 #[.val (.int p1), .val (.ref o1), .val (.int (4 : Int32)), .unset] [])
    refine Go.st (fun _ h => XT.iconstV X35.here hx rfl (0 : Int32) (hb hby at_137) (by decide) h) ?_
    show Go p e below _ T35 (mkF m 138 #[.val (.int p1), .val (.ref o1), .val (.int (4 : Int32)), .unset] [(.int (0 : Int32))])
    refine Go.st (fun _ h => XS.istoreN X35.here hx rfl (hb hby at_138) rfl (l' := #[.val (.int p1), .val (.ref o1), .val (.int (4 : Int32)), .val (.int (0 : Int32))]) rfl h) ?_
    show Go p e below _ T35 (mkF m 139 #[.val (.int p1), .val (.ref o1), .val (.int (4 : Int32)), .val (.int (0 : Int32))] [])
    refine Go.st (fun _ h => XS.aloadN X35.here hx rfl (hb hby at_139) rfl rfl h) ?_
    show Go p e below _ T35 (mkF m 140 #[.val (.int p1), .val (.ref o1), .val (.int (4 : Int32)), .val (.int (0 : Int32))] [(.ref o1)])
    refine Go.st (fun _ h => XS.iloadN X35.here hx rfl (hb hby at_140) rfl h) ?_
    show Go p e below _ T35 (mkF m 141 #[.val (.int p1), .val (.ref o1), .val (.int (4 : Int32)), .val (.int (0 : Int32))] [(.int (4 : Int32)), (.ref o1)])
    refine Go.st (own_ldR X35 hx hZ e35 V35' rfl (by decide) (by decide) rfl rfl rfl (hb hby at_141)) ?_
    show Go p e below _ T35 (mkF m 142 #[.val (.int p1), .val (.ref o1), .val (.int (4 : Int32)), .val (.int (0 : Int32))] [(.ref a_BUSINESS_UNIT_CLASS)])
    obtain ⟨T40, X40, e40, st40⟩ := own_still rfl rfl (Does.virtual (y := (⟨"com/example/billwright/billwright/CostDetail", "ruleField", "()Z"⟩ : MethodName)) (g := (mkF m 142 #[.val (.int p1), .val (.ref o1), .val (.int (4 : Int32)), .val (.int (0 : Int32))] [(.ref a_BUSINESS_UNIT_CLASS)])) (a := a_BUSINESS_UNIT_CLASS) (rmRule l Z a0 hw a_BUSINESS_UNIT_CLASS (0 : Int32) h35 (F_BUSINESS_UNIT_CLASS_letter.keep K35 nin0)) X35 hx hZ hown e35 (E_BUSINESS_UNIT_CLASS.keep K35) (hw _ (List.mem_of_getElem? (i := 39) rfl)) (hw _ (List.mem_of_getElem? (i := 40) rfl)) (hw _ (List.mem_of_getElem? (i := 42) rfl)) (hw _ (List.mem_of_getElem? (i := 41) rfl)) (hw _ (List.mem_of_getElem? (i := 3) rfl)) (hw _ (List.mem_of_getElem? (i := 43) rfl)) (by decide) rfl (by rw [hml]; rfl) (argsL := []) (rest := []) (lenOf pd_2829Z rfl) rfl (hb hby at_142) (W := 0) (by show 2 * 0 + _ ≤ _; exact Nat.le_of_eq rfl) (by decide) (by decide) (by decide) (by decide))
    refine Go.st st40 ?_
    show Go p e below _ T40 (mkF m 145 #[.val (.int p1), .val (.ref o1), .val (.int (4 : Int32)), .val (.int (0 : Int32))] [(.int (own_rule (0 : Int32)))])
    refine Go.st (fun _ h => XS.iloadN X40.here hx rfl (hb hby at_145) rfl h) ?_
    show Go p e below _ T40 (mkF m 146 #[.val (.int p1), .val (.ref o1), .val (.int (4 : Int32)), .val (.int (0 : Int32))] [(.int (0 : Int32)), (.int (own_rule (0 : Int32)))])
    refine Go.st (fun _ h => XS.icmpNo X40.here hx rfl (hb hby at_146) rfl (by decide) h) ?_
    show Go p e below _ T40 (mkF m 149 #[.val (.int p1), .val (.ref o1), .val (.int (4 : Int32)), .val (.int (0 : Int32))] [])
    refine Go.st (fun _ h => XT.iconstV X40.here hx rfl (1 : Int32) (hb hby at_149) (by decide) h) ?_
    show Go p e below _ T40 (mkF m 150 #[.val (.int p1), .val (.ref o1), .val (.int (4 : Int32)), .val (.int (0 : Int32))] [(.int (1 : Int32))])
    refine Go.st (fun _ h => XS.goto X40.here hx rfl (pc0 := 150) (pc' := 154) rfl (hb hby at_150) (by decide) (by decide) h) ?_
    show Go p e below _ T40 (mkF m 154 #[.val (.int p1), .val (.ref o1), .val (.int (4 : Int32)), .val (.int (0 : Int32))] [(.int (1 : Int32))])
    refine Go.retZ X40 hx hlk hret rfl (hb hby at_154) (by decide) (by decide) ?_
    exact ⟨rfl, N35⟩
  ·
    show Go p e below _ T35 (mkF m 127 #[.val (.int p1), .val (.ref o1), .val (.int (5 : Int32)), .unset] [])
    refine Go.st (fun _ h => XS.iloadN X35.here hx rfl (hb hby at_127) rfl h) ?_
    show Go p e below _ T35 (mkF m 128 #[.val (.int p1), .val (.ref o1), .val (.int (5 : Int32)), .unset] [(.int (5 : Int32))])
    refine Go.st (fun _ h => XT.bipushV X35.here hx rfl (8 : Int32) (hb hby at_128) (by decide) h) ?_
    show Go p e below _ T35 (mkF m 130 #[.val (.int p1), .val (.ref o1), .val (.int (5 : Int32)), .unset] [(.int (8 : Int32)), (.int (5 : Int32))])
    refine Go.st (fun _ h => XS.icmpYes X35.here hx rfl (pc0 := 130) (pc' := 137) rfl (hb hby at_130) rfl (by decide) (by decide) (by decide) h) ?_
    show Go p e below _ T35 (mkF m 137 #[.val (.int p1), .val (.ref o1), .val (.int (5 : Int32)), .unset] [])
    refine Go.st (fun _ h => XT.iconstV X35.here hx rfl (0 : Int32) (hb hby at_137) (by decide) h) ?_
    show Go p e below _ T35 (mkF m 138 #[.val (.int p1), .val (.ref o1), .val (.int (5 : Int32)), .unset] [(.int (0 : Int32))])
    refine Go.st (fun _ h => XS.istoreN X35.here hx rfl (hb hby at_138) rfl (l' := #[.val (.int p1), .val (.ref o1), .val (.int (5 : Int32)), .val (.int (0 : Int32))]) rfl h) ?_
    show Go p e below _ T35 (mkF m 139 #[.val (.int p1), .val (.ref o1), .val (.int (5 : Int32)), .val (.int (0 : Int32))] [])
    refine Go.st (fun _ h => XS.aloadN X35.here hx rfl (hb hby at_139) rfl rfl h) ?_
    show Go p e below _ T35 (mkF m 140 #[.val (.int p1), .val (.ref o1), .val (.int (5 : Int32)), .val (.int (0 : Int32))] [(.ref o1)])
    refine Go.st (fun _ h => XS.iloadN X35.here hx rfl (hb hby at_140) rfl h) ?_
    show Go p e below _ T35 (mkF m 141 #[.val (.int p1), .val (.ref o1), .val (.int (5 : Int32)), .val (.int (0 : Int32))] [(.int (5 : Int32)), (.ref o1)])
    refine Go.st (own_ldR X35 hx hZ e35 V35' rfl (by decide) (by decide) rfl rfl rfl (hb hby at_141)) ?_
    show Go p e below _ T35 (mkF m 142 #[.val (.int p1), .val (.ref o1), .val (.int (5 : Int32)), .val (.int (0 : Int32))] [(.ref a_COMPANY)])
    obtain ⟨T41, X41, e41, st41⟩ := own_still rfl rfl (Does.virtual (y := (⟨"com/example/billwright/billwright/CostDetail", "ruleField", "()Z"⟩ : MethodName)) (g := (mkF m 142 #[.val (.int p1), .val (.ref o1), .val (.int (5 : Int32)), .val (.int (0 : Int32))] [(.ref a_COMPANY)])) (a := a_COMPANY) (rmRule l Z a0 hw a_COMPANY (0 : Int32) h35 (F_COMPANY_letter.keep K35 nin0)) X35 hx hZ hown e35 (E_COMPANY.keep K35) (hw _ (List.mem_of_getElem? (i := 39) rfl)) (hw _ (List.mem_of_getElem? (i := 40) rfl)) (hw _ (List.mem_of_getElem? (i := 42) rfl)) (hw _ (List.mem_of_getElem? (i := 41) rfl)) (hw _ (List.mem_of_getElem? (i := 3) rfl)) (hw _ (List.mem_of_getElem? (i := 43) rfl)) (by decide) rfl (by rw [hml]; rfl) (argsL := []) (rest := []) (lenOf pd_2829Z rfl) rfl (hb hby at_142) (W := 0) (by show 2 * 0 + _ ≤ _; exact Nat.le_of_eq rfl) (by decide) (by decide) (by decide) (by decide))
    refine Go.st st41 ?_
    show Go p e below _ T41 (mkF m 145 #[.val (.int p1), .val (.ref o1), .val (.int (5 : Int32)), .val (.int (0 : Int32))] [(.int (own_rule (0 : Int32)))])
    refine Go.st (fun _ h => XS.iloadN X41.here hx rfl (hb hby at_145) rfl h) ?_
    show Go p e below _ T41 (mkF m 146 #[.val (.int p1), .val (.ref o1), .val (.int (5 : Int32)), .val (.int (0 : Int32))] [(.int (0 : Int32)), (.int (own_rule (0 : Int32)))])
    refine Go.st (fun _ h => XS.icmpNo X41.here hx rfl (hb hby at_146) rfl (by decide) h) ?_
    show Go p e below _ T41 (mkF m 149 #[.val (.int p1), .val (.ref o1), .val (.int (5 : Int32)), .val (.int (0 : Int32))] [])
    refine Go.st (fun _ h => XT.iconstV X41.here hx rfl (1 : Int32) (hb hby at_149) (by decide) h) ?_
    show Go p e below _ T41 (mkF m 150 #[.val (.int p1), .val (.ref o1), .val (.int (5 : Int32)), .val (.int (0 : Int32))] [(.int (1 : Int32))])
    refine Go.st (fun _ h => XS.goto X41.here hx rfl (pc0 := 150) (pc' := 154) rfl (hb hby at_150) (by decide) (by decide) h) ?_
    show Go p e below _ T41 (mkF m 154 #[.val (.int p1), .val (.ref o1), .val (.int (5 : Int32)), .val (.int (0 : Int32))] [(.int (1 : Int32))])
    refine Go.retZ X41 hx hlk hret rfl (hb hby at_154) (by decide) (by decide) ?_
    exact ⟨rfl, N35⟩
  ·
    show Go p e below _ T35 (mkF m 127 #[.val (.int p1), .val (.ref o1), .val (.int (6 : Int32)), .unset] [])
    refine Go.st (fun _ h => XS.iloadN X35.here hx rfl (hb hby at_127) rfl h) ?_
    show Go p e below _ T35 (mkF m 128 #[.val (.int p1), .val (.ref o1), .val (.int (6 : Int32)), .unset] [(.int (6 : Int32))])
    refine Go.st (fun _ h => XT.bipushV X35.here hx rfl (8 : Int32) (hb hby at_128) (by decide) h) ?_
    show Go p e below _ T35 (mkF m 130 #[.val (.int p1), .val (.ref o1), .val (.int (6 : Int32)), .unset] [(.int (8 : Int32)), (.int (6 : Int32))])
    refine Go.st (fun _ h => XS.icmpYes X35.here hx rfl (pc0 := 130) (pc' := 137) rfl (hb hby at_130) rfl (by decide) (by decide) (by decide) h) ?_
    show Go p e below _ T35 (mkF m 137 #[.val (.int p1), .val (.ref o1), .val (.int (6 : Int32)), .unset] [])
    refine Go.st (fun _ h => XT.iconstV X35.here hx rfl (0 : Int32) (hb hby at_137) (by decide) h) ?_
    show Go p e below _ T35 (mkF m 138 #[.val (.int p1), .val (.ref o1), .val (.int (6 : Int32)), .unset] [(.int (0 : Int32))])
    refine Go.st (fun _ h => XS.istoreN X35.here hx rfl (hb hby at_138) rfl (l' := #[.val (.int p1), .val (.ref o1), .val (.int (6 : Int32)), .val (.int (0 : Int32))]) rfl h) ?_
    show Go p e below _ T35 (mkF m 139 #[.val (.int p1), .val (.ref o1), .val (.int (6 : Int32)), .val (.int (0 : Int32))] [])
    refine Go.st (fun _ h => XS.aloadN X35.here hx rfl (hb hby at_139) rfl rfl h) ?_
    show Go p e below _ T35 (mkF m 140 #[.val (.int p1), .val (.ref o1), .val (.int (6 : Int32)), .val (.int (0 : Int32))] [(.ref o1)])
    refine Go.st (fun _ h => XS.iloadN X35.here hx rfl (hb hby at_140) rfl h) ?_
    show Go p e below _ T35 (mkF m 141 #[.val (.int p1), .val (.ref o1), .val (.int (6 : Int32)), .val (.int (0 : Int32))] [(.int (6 : Int32)), (.ref o1)])
    refine Go.st (own_ldR X35 hx hZ e35 V35' rfl (by decide) (by decide) rfl rfl rfl (hb hby at_141)) ?_
    show Go p e below _ T35 (mkF m 142 #[.val (.int p1), .val (.ref o1), .val (.int (6 : Int32)), .val (.int (0 : Int32))] [(.ref a_DOCUMENT_TYPE)])
    obtain ⟨T42, X42, e42, st42⟩ := own_still rfl rfl (Does.virtual (y := (⟨"com/example/billwright/billwright/CostDetail", "ruleField", "()Z"⟩ : MethodName)) (g := (mkF m 142 #[.val (.int p1), .val (.ref o1), .val (.int (6 : Int32)), .val (.int (0 : Int32))] [(.ref a_DOCUMENT_TYPE)])) (a := a_DOCUMENT_TYPE) (rmRule l Z a0 hw a_DOCUMENT_TYPE (0 : Int32) h35 (F_DOCUMENT_TYPE_letter.keep K35 nin0)) X35 hx hZ hown e35 (E_DOCUMENT_TYPE.keep K35) (hw _ (List.mem_of_getElem? (i := 39) rfl)) (hw _ (List.mem_of_getElem? (i := 40) rfl)) (hw _ (List.mem_of_getElem? (i := 42) rfl)) (hw _ (List.mem_of_getElem? (i := 41) rfl)) (hw _ (List.mem_of_getElem? (i := 3) rfl)) (hw _ (List.mem_of_getElem? (i := 43) rfl)) (by decide) rfl (by rw [hml]; rfl) (argsL := []) (rest := []) (lenOf pd_2829Z rfl) rfl (hb hby at_142) (W := 0) (by show 2 * 0 + _ ≤ _; exact Nat.le_of_eq rfl) (by decide) (by decide) (by decide) (by decide))
    refine Go.st st42 ?_
    show Go p e below _ T42 (mkF m 145 #[.val (.int p1), .val (.ref o1), .val (.int (6 : Int32)), .val (.int (0 : Int32))] [(.int (own_rule (0 : Int32)))])
    refine Go.st (fun _ h => XS.iloadN X42.here hx rfl (hb hby at_145) rfl h) ?_
    show Go p e below _ T42 (mkF m 146 #[.val (.int p1), .val (.ref o1), .val (.int (6 : Int32)), .val (.int (0 : Int32))] [(.int (0 : Int32)), (.int (own_rule (0 : Int32)))])
    refine Go.st (fun _ h => XS.icmpNo X42.here hx rfl (hb hby at_146) rfl (by decide) h) ?_
    show Go p e below _ T42 (mkF m 149 #[.val (.int p1), .val (.ref o1), .val (.int (6 : Int32)), .val (.int (0 : Int32))] [])
    refine Go.st (fun _ h => XT.iconstV X42.here hx rfl (1 : Int32) (hb hby at_149) (by decide) h) ?_
    show Go p e below _ T42 (mkF m 150 #[.val (.int p1), .val (.ref o1), .val (.int (6 : Int32)), .val (.int (0 : Int32))] [(.int (1 : Int32))])
    refine Go.st (fun _ h => XS.goto X42.here hx rfl (pc0 := 150) (pc' := 154) rfl (hb hby at_150) (by decide) (by decide) h) ?_
    show Go p e below _ T42 (mkF m 154 #[.val (.int p1), .val (.ref o1), .val (.int (6 : Int32)), .val (.int (0 : Int32))] [(.int (1 : Int32))])
    refine Go.retZ X42 hx hlk hret rfl (hb hby at_154) (by decide) (by decide) ?_
    exact ⟨rfl, N35⟩
  ·
    show Go p e below _ T35 (mkF m 127 #[.val (.int p1), .val (.ref o1), .val (.int (7 : Int32)), .unset] [])
    refine Go.st (fun _ h => XS.iloadN X35.here hx rfl (hb hby at_127) rfl h) ?_
    show Go p e below _ T35 (mkF m 128 #[.val (.int p1), .val (.ref o1), .val (.int (7 : Int32)), .unset] [(.int (7 : Int32))])
    refine Go.st (fun _ h => XT.bipushV X35.here hx rfl (8 : Int32) (hb hby at_128) (by decide) h) ?_
    show Go p e below _ T35 (mkF m 130 #[.val (.int p1), .val (.ref o1), .val (.int (7 : Int32)), .unset] [(.int (8 : Int32)), (.int (7 : Int32))])
    refine Go.st (fun _ h => XS.icmpYes X35.here hx rfl (pc0 := 130) (pc' := 137) rfl (hb hby at_130) rfl (by decide) (by decide) (by decide) h) ?_
    show Go p e below _ T35 (mkF m 137 #[.val (.int p1), .val (.ref o1), .val (.int (7 : Int32)), .unset] [])
    refine Go.st (fun _ h => XT.iconstV X35.here hx rfl (0 : Int32) (hb hby at_137) (by decide) h) ?_
    show Go p e below _ T35 (mkF m 138 #[.val (.int p1), .val (.ref o1), .val (.int (7 : Int32)), .unset] [(.int (0 : Int32))])
    refine Go.st (fun _ h => XS.istoreN X35.here hx rfl (hb hby at_138) rfl (l' := #[.val (.int p1), .val (.ref o1), .val (.int (7 : Int32)), .val (.int (0 : Int32))]) rfl h) ?_
    show Go p e below _ T35 (mkF m 139 #[.val (.int p1), .val (.ref o1), .val (.int (7 : Int32)), .val (.int (0 : Int32))] [])
    refine Go.st (fun _ h => XS.aloadN X35.here hx rfl (hb hby at_139) rfl rfl h) ?_
    show Go p e below _ T35 (mkF m 140 #[.val (.int p1), .val (.ref o1), .val (.int (7 : Int32)), .val (.int (0 : Int32))] [(.ref o1)])
    refine Go.st (fun _ h => XS.iloadN X35.here hx rfl (hb hby at_140) rfl h) ?_
    show Go p e below _ T35 (mkF m 141 #[.val (.int p1), .val (.ref o1), .val (.int (7 : Int32)), .val (.int (0 : Int32))] [(.int (7 : Int32)), (.ref o1)])
    refine Go.st (own_ldR X35 hx hZ e35 V35' rfl (by decide) (by decide) rfl rfl rfl (hb hby at_141)) ?_
    show Go p e below _ T35 (mkF m 142 #[.val (.int p1), .val (.ref o1), .val (.int (7 : Int32)), .val (.int (0 : Int32))] [(.ref a_TAX_AREA)])
    obtain ⟨T43, X43, e43, st43⟩ := own_still rfl rfl (Does.virtual (y := (⟨"com/example/billwright/billwright/CostDetail", "ruleField", "()Z"⟩ : MethodName)) (g := (mkF m 142 #[.val (.int p1), .val (.ref o1), .val (.int (7 : Int32)), .val (.int (0 : Int32))] [(.ref a_TAX_AREA)])) (a := a_TAX_AREA) (rmRule l Z a0 hw a_TAX_AREA (0 : Int32) h35 (F_TAX_AREA_letter.keep K35 nin0)) X35 hx hZ hown e35 (E_TAX_AREA.keep K35) (hw _ (List.mem_of_getElem? (i := 39) rfl)) (hw _ (List.mem_of_getElem? (i := 40) rfl)) (hw _ (List.mem_of_getElem? (i := 42) rfl)) (hw _ (List.mem_of_getElem? (i := 41) rfl)) (hw _ (List.mem_of_getElem? (i := 3) rfl)) (hw _ (List.mem_of_getElem? (i := 43) rfl)) (by decide) rfl (by rw [hml]; rfl) (argsL := []) (rest := []) (lenOf pd_2829Z rfl) rfl (hb hby at_142) (W := 0) (by show 2 * 0 + _ ≤ _; exact Nat.le_of_eq rfl) (by decide) (by decide) (by decide) (by decide))
    refine Go.st st43 ?_
    show Go p e below _ T43 (mkF m 145 #[.val (.int p1), .val (.ref o1), .val (.int (7 : Int32)), .val (.int (0 : Int32))] [(.int (own_rule (0 : Int32)))])
    refine Go.st (fun _ h => XS.iloadN X43.here hx rfl (hb hby at_145) rfl h) ?_
    show Go p e below _ T43 (mkF m 146 #[.val (.int p1), .val (.ref o1), .val (.int (7 : Int32)), .val (.int (0 : Int32))] [(.int (0 : Int32)), (.int (own_rule (0 : Int32)))])
    refine Go.st (fun _ h => XS.icmpNo X43.here hx rfl (hb hby at_146) rfl (by decide) h) ?_
    show Go p e below _ T43 (mkF m 149 #[.val (.int p1), .val (.ref o1), .val (.int (7 : Int32)), .val (.int (0 : Int32))] [])
    refine Go.st (fun _ h => XT.iconstV X43.here hx rfl (1 : Int32) (hb hby at_149) (by decide) h) ?_
    show Go p e below _ T43 (mkF m 150 #[.val (.int p1), .val (.ref o1), .val (.int (7 : Int32)), .val (.int (0 : Int32))] [(.int (1 : Int32))])
    refine Go.st (fun _ h => XS.goto X43.here hx rfl (pc0 := 150) (pc' := 154) rfl (hb hby at_150) (by decide) (by decide) h) ?_
    show Go p e below _ T43 (mkF m 154 #[.val (.int p1), .val (.ref o1), .val (.int (7 : Int32)), .val (.int (0 : Int32))] [(.int (1 : Int32))])
    refine Go.retZ X43 hx hlk hret rfl (hb hby at_154) (by decide) (by decide) ?_
    exact ⟨rfl, N35⟩
  ·
    show Go p e below _ T35 (mkF m 127 #[.val (.int p1), .val (.ref o1), .val (.int (8 : Int32)), .unset] [])
    refine Go.st (fun _ h => XS.iloadN X35.here hx rfl (hb hby at_127) rfl h) ?_
    show Go p e below _ T35 (mkF m 128 #[.val (.int p1), .val (.ref o1), .val (.int (8 : Int32)), .unset] [(.int (8 : Int32))])
    refine Go.st (fun _ h => XT.bipushV X35.here hx rfl (8 : Int32) (hb hby at_128) (by decide) h) ?_
    show Go p e below _ T35 (mkF m 130 #[.val (.int p1), .val (.ref o1), .val (.int (8 : Int32)), .unset] [(.int (8 : Int32)), (.int (8 : Int32))])
    refine Go.st (fun _ h => XS.icmpNo X35.here hx rfl (hb hby at_130) rfl (by decide) h) ?_
    show Go p e below _ T35 (mkF m 133 #[.val (.int p1), .val (.ref o1), .val (.int (8 : Int32)), .unset] [])
    refine Go.st (fun _ h => XT.iconstV X35.here hx rfl (1 : Int32) (hb hby at_133) (by decide) h) ?_
    show Go p e below _ T35 (mkF m 134 #[.val (.int p1), .val (.ref o1), .val (.int (8 : Int32)), .unset] [(.int (1 : Int32))])
    refine Go.st (fun _ h => XS.goto X35.here hx rfl (pc0 := 134) (pc' := 138) rfl (hb hby at_134) (by decide) (by decide) h) ?_
    show Go p e below _ T35 (mkF m 138 #[.val (.int p1), .val (.ref o1), .val (.int (8 : Int32)), .unset] [(.int (1 : Int32))])
    refine Go.st (fun _ h => XS.istoreN X35.here hx rfl (hb hby at_138) rfl (l' := #[.val (.int p1), .val (.ref o1), .val (.int (8 : Int32)), .val (.int (1 : Int32))]) rfl h) ?_
    show Go p e below _ T35 (mkF m 139 #[.val (.int p1), .val (.ref o1), .val (.int (8 : Int32)), .val (.int (1 : Int32))] [])
    refine Go.st (fun _ h => XS.aloadN X35.here hx rfl (hb hby at_139) rfl rfl h) ?_
    show Go p e below _ T35 (mkF m 140 #[.val (.int p1), .val (.ref o1), .val (.int (8 : Int32)), .val (.int (1 : Int32))] [(.ref o1)])
    refine Go.st (fun _ h => XS.iloadN X35.here hx rfl (hb hby at_140) rfl h) ?_
    show Go p e below _ T35 (mkF m 141 #[.val (.int p1), .val (.ref o1), .val (.int (8 : Int32)), .val (.int (1 : Int32))] [(.int (8 : Int32)), (.ref o1)])
    refine Go.st (own_ldR X35 hx hZ e35 V35' rfl (by decide) (by decide) rfl rfl rfl (hb hby at_141)) ?_
    show Go p e below _ T35 (mkF m 142 #[.val (.int p1), .val (.ref o1), .val (.int (8 : Int32)), .val (.int (1 : Int32))] [(.ref a_EMPLOYEE)])
    obtain ⟨T44, X44, e44, st44⟩ := own_still rfl rfl (Does.virtual (y := (⟨"com/example/billwright/billwright/CostDetail", "ruleField", "()Z"⟩ : MethodName)) (g := (mkF m 142 #[.val (.int p1), .val (.ref o1), .val (.int (8 : Int32)), .val (.int (1 : Int32))] [(.ref a_EMPLOYEE)])) (a := a_EMPLOYEE) (rmRule l Z a0 hw a_EMPLOYEE (69 : Int32) h35 (F_EMPLOYEE_letter.keep K35 nin0)) X35 hx hZ hown e35 (E_EMPLOYEE.keep K35) (hw _ (List.mem_of_getElem? (i := 39) rfl)) (hw _ (List.mem_of_getElem? (i := 40) rfl)) (hw _ (List.mem_of_getElem? (i := 42) rfl)) (hw _ (List.mem_of_getElem? (i := 41) rfl)) (hw _ (List.mem_of_getElem? (i := 3) rfl)) (hw _ (List.mem_of_getElem? (i := 43) rfl)) (by decide) rfl (by rw [hml]; rfl) (argsL := []) (rest := []) (lenOf pd_2829Z rfl) rfl (hb hby at_142) (W := 0) (by show 2 * 0 + _ ≤ _; exact Nat.le_of_eq rfl) (by decide) (by decide) (by decide) (by decide))
    refine Go.st st44 ?_
    show Go p e below _ T44 (mkF m 145 #[.val (.int p1), .val (.ref o1), .val (.int (8 : Int32)), .val (.int (1 : Int32))] [(.int (own_rule (69 : Int32)))])
    refine Go.st (fun _ h => XS.iloadN X44.here hx rfl (hb hby at_145) rfl h) ?_
    show Go p e below _ T44 (mkF m 146 #[.val (.int p1), .val (.ref o1), .val (.int (8 : Int32)), .val (.int (1 : Int32))] [(.int (1 : Int32)), (.int (own_rule (69 : Int32)))])
    refine Go.st (fun _ h => XS.icmpNo X44.here hx rfl (hb hby at_146) rfl (by decide) h) ?_
    show Go p e below _ T44 (mkF m 149 #[.val (.int p1), .val (.ref o1), .val (.int (8 : Int32)), .val (.int (1 : Int32))] [])
    refine Go.st (fun _ h => XT.iconstV X44.here hx rfl (1 : Int32) (hb hby at_149) (by decide) h) ?_
    show Go p e below _ T44 (mkF m 150 #[.val (.int p1), .val (.ref o1), .val (.int (8 : Int32)), .val (.int (1 : Int32))] [(.int (1 : Int32))])
    refine Go.st (fun _ h => XS.goto X44.here hx rfl (pc0 := 150) (pc' := 154) rfl (hb hby at_150) (by decide) (by decide) h) ?_
    show Go p e below _ T44 (mkF m 154 #[.val (.int p1), .val (.ref o1), .val (.int (8 : Int32)), .val (.int (1 : Int32))] [(.int (1 : Int32))])
    refine Go.retZ X44 hx hlk hret rfl (hb hby at_154) (by decide) (by decide) ?_
    exact ⟨rfl, N35⟩
  ·
    show Go p e below _ T35 (mkF m 127 #[.val (.int p1), .val (.ref o1), .val (.int (9 : Int32)), .unset] [])
    refine Go.st (fun _ h => XS.iloadN X35.here hx rfl (hb hby at_127) rfl h) ?_
    show Go p e below _ T35 (mkF m 128 #[.val (.int p1), .val (.ref o1), .val (.int (9 : Int32)), .unset] [(.int (9 : Int32))])
    refine Go.st (fun _ h => XT.bipushV X35.here hx rfl (8 : Int32) (hb hby at_128) (by decide) h) ?_
    show Go p e below _ T35 (mkF m 130 #[.val (.int p1), .val (.ref o1), .val (.int (9 : Int32)), .unset] [(.int (8 : Int32)), (.int (9 : Int32))])
    refine Go.st (fun _ h => XS.icmpNo X35.here hx rfl (hb hby at_130) rfl (by decide) h) ?_
    show Go p e below _ T35 (mkF m 133 #[.val (.int p1), .val (.ref o1), .val (.int (9 : Int32)), .unset] [])
    refine Go.st (fun _ h => XT.iconstV X35.here hx rfl (1 : Int32) (hb hby at_133) (by decide) h) ?_
    show Go p e below _ T35 (mkF m 134 #[.val (.int p1), .val (.ref o1), .val (.int (9 : Int32)), .unset] [(.int (1 : Int32))])
    refine Go.st (fun _ h => XS.goto X35.here hx rfl (pc0 := 134) (pc' := 138) rfl (hb hby at_134) (by decide) (by decide) h) ?_
    show Go p e below _ T35 (mkF m 138 #[.val (.int p1), .val (.ref o1), .val (.int (9 : Int32)), .unset] [(.int (1 : Int32))])
    refine Go.st (fun _ h => XS.istoreN X35.here hx rfl (hb hby at_138) rfl (l' := #[.val (.int p1), .val (.ref o1), .val (.int (9 : Int32)), .val (.int (1 : Int32))]) rfl h) ?_
    show Go p e below _ T35 (mkF m 139 #[.val (.int p1), .val (.ref o1), .val (.int (9 : Int32)), .val (.int (1 : Int32))] [])
    refine Go.st (fun _ h => XS.aloadN X35.here hx rfl (hb hby at_139) rfl rfl h) ?_
    show Go p e below _ T35 (mkF m 140 #[.val (.int p1), .val (.ref o1), .val (.int (9 : Int32)), .val (.int (1 : Int32))] [(.ref o1)])
    refine Go.st (fun _ h => XS.iloadN X35.here hx rfl (hb hby at_140) rfl h) ?_
    show Go p e below _ T35 (mkF m 141 #[.val (.int p1), .val (.ref o1), .val (.int (9 : Int32)), .val (.int (1 : Int32))] [(.int (9 : Int32)), (.ref o1)])
    refine Go.st (own_ldR X35 hx hZ e35 V35' rfl (by decide) (by decide) rfl rfl rfl (hb hby at_141)) ?_
    show Go p e below _ T35 (mkF m 142 #[.val (.int p1), .val (.ref o1), .val (.int (9 : Int32)), .val (.int (1 : Int32))] [(.ref a_JOB_STEP)])
    obtain ⟨T45, X45, e45, st45⟩ := own_still rfl rfl (Does.virtual (y := (⟨"com/example/billwright/billwright/CostDetail", "ruleField", "()Z"⟩ : MethodName)) (g := (mkF m 142 #[.val (.int p1), .val (.ref o1), .val (.int (9 : Int32)), .val (.int (1 : Int32))] [(.ref a_JOB_STEP)])) (a := a_JOB_STEP) (rmRule l Z a0 hw a_JOB_STEP (83 : Int32) h35 (F_JOB_STEP_letter.keep K35 nin0)) X35 hx hZ hown e35 (E_JOB_STEP.keep K35) (hw _ (List.mem_of_getElem? (i := 39) rfl)) (hw _ (List.mem_of_getElem? (i := 40) rfl)) (hw _ (List.mem_of_getElem? (i := 42) rfl)) (hw _ (List.mem_of_getElem? (i := 41) rfl)) (hw _ (List.mem_of_getElem? (i := 3) rfl)) (hw _ (List.mem_of_getElem? (i := 43) rfl)) (by decide) rfl (by rw [hml]; rfl) (argsL := []) (rest := []) (lenOf pd_2829Z rfl) rfl (hb hby at_142) (W := 0) (by show 2 * 0 + _ ≤ _; exact Nat.le_of_eq rfl) (by decide) (by decide) (by decide) (by decide))
    refine Go.st st45 ?_
    show Go p e below _ T45 (mkF m 145 #[.val (.int p1), .val (.ref o1), .val (.int (9 : Int32)), .val (.int (1 : Int32))] [(.int (own_rule (83 : Int32)))])
    refine Go.st (fun _ h => XS.iloadN X45.here hx rfl (hb hby at_145) rfl h) ?_
    show Go p e below _ T45 (mkF m 146 #[.val (.int p1), .val (.ref o1), .val (.int (9 : Int32)), .val (.int (1 : Int32))] [(.int (1 : Int32)), (.int (own_rule (83 : Int32)))])
    refine Go.st (fun _ h => XS.icmpNo X45.here hx rfl (hb hby at_146) rfl (by decide) h) ?_
    show Go p e below _ T45 (mkF m 149 #[.val (.int p1), .val (.ref o1), .val (.int (9 : Int32)), .val (.int (1 : Int32))] [])
    refine Go.st (fun _ h => XT.iconstV X45.here hx rfl (1 : Int32) (hb hby at_149) (by decide) h) ?_
    show Go p e below _ T45 (mkF m 150 #[.val (.int p1), .val (.ref o1), .val (.int (9 : Int32)), .val (.int (1 : Int32))] [(.int (1 : Int32))])
    refine Go.st (fun _ h => XS.goto X45.here hx rfl (pc0 := 150) (pc' := 154) rfl (hb hby at_150) (by decide) (by decide) h) ?_
    show Go p e below _ T45 (mkF m 154 #[.val (.int p1), .val (.ref o1), .val (.int (9 : Int32)), .val (.int (1 : Int32))] [(.int (1 : Int32))])
    refine Go.retZ X45 hx hlk hret rfl (hb hby at_154) (by decide) (by decide) ?_
    exact ⟨rfl, N35⟩
  ·
    show Go p e below _ T35 (mkF m 127 #[.val (.int p1), .val (.ref o1), .val (.int (10 : Int32)), .unset] [])
    refine Go.st (fun _ h => XS.iloadN X35.here hx rfl (hb hby at_127) rfl h) ?_
    show Go p e below _ T35 (mkF m 128 #[.val (.int p1), .val (.ref o1), .val (.int (10 : Int32)), .unset] [(.int (10 : Int32))])
    refine Go.st (fun _ h => XT.bipushV X35.here hx rfl (8 : Int32) (hb hby at_128) (by decide) h) ?_
    show Go p e below _ T35 (mkF m 130 #[.val (.int p1), .val (.ref o1), .val (.int (10 : Int32)), .unset] [(.int (8 : Int32)), (.int (10 : Int32))])
    refine Go.st (fun _ h => XS.icmpNo X35.here hx rfl (hb hby at_130) rfl (by decide) h) ?_
    show Go p e below _ T35 (mkF m 133 #[.val (.int p1), .val (.ref o1), .val (.int (10 : Int32)), .unset] [])
    refine Go.st (fun _ h => XT.iconstV X35.here hx rfl (1 : Int32) (hb hby at_133) (by decide) h) ?_
    show Go p e below _ T35 (mkF m 134 #[.val (.int p1), .val (.ref o1), .val (.int (10 : Int32)), .unset] [(.int (1 : Int32))])
    refine Go.st (fun _ h => XS.goto X35.here hx rfl (pc0 := 134) (pc' := 138) rfl (hb hby at_134) (by decide) (by decide) h) ?_
    show Go p e below _ T35 (mkF m 138 #[.val (.int p1), .val (.ref o1), .val (.int (10 : Int32)), .unset] [(.int (1 : Int32))])
    refine Go.st (fun _ h => XS.istoreN X35.here hx rfl (hb hby at_138) rfl (l' := #[.val (.int p1), .val (.ref o1), .val (.int (10 : Int32)), .val (.int (1 : Int32))]) rfl h) ?_
    show Go p e below _ T35 (mkF m 139 #[.val (.int p1), .val (.ref o1), .val (.int (10 : Int32)), .val (.int (1 : Int32))] [])
    refine Go.st (fun _ h => XS.aloadN X35.here hx rfl (hb hby at_139) rfl rfl h) ?_
    show Go p e below _ T35 (mkF m 140 #[.val (.int p1), .val (.ref o1), .val (.int (10 : Int32)), .val (.int (1 : Int32))] [(.ref o1)])
    refine Go.st (fun _ h => XS.iloadN X35.here hx rfl (hb hby at_140) rfl h) ?_
    show Go p e below _ T35 (mkF m 141 #[.val (.int p1), .val (.ref o1), .val (.int (10 : Int32)), .val (.int (1 : Int32))] [(.int (10 : Int32)), (.ref o1)])
    refine Go.st (own_ldR X35 hx hZ e35 V35' rfl (by decide) (by decide) rfl rfl rfl (hb hby at_141)) ?_
    show Go p e below _ T35 (mkF m 142 #[.val (.int p1), .val (.ref o1), .val (.int (10 : Int32)), .val (.int (1 : Int32))] [(.ref a_JOB_TYPE)])
    obtain ⟨T46, X46, e46, st46⟩ := own_still rfl rfl (Does.virtual (y := (⟨"com/example/billwright/billwright/CostDetail", "ruleField", "()Z"⟩ : MethodName)) (g := (mkF m 142 #[.val (.int p1), .val (.ref o1), .val (.int (10 : Int32)), .val (.int (1 : Int32))] [(.ref a_JOB_TYPE)])) (a := a_JOB_TYPE) (rmRule l Z a0 hw a_JOB_TYPE (84 : Int32) h35 (F_JOB_TYPE_letter.keep K35 nin0)) X35 hx hZ hown e35 (E_JOB_TYPE.keep K35) (hw _ (List.mem_of_getElem? (i := 39) rfl)) (hw _ (List.mem_of_getElem? (i := 40) rfl)) (hw _ (List.mem_of_getElem? (i := 42) rfl)) (hw _ (List.mem_of_getElem? (i := 41) rfl)) (hw _ (List.mem_of_getElem? (i := 3) rfl)) (hw _ (List.mem_of_getElem? (i := 43) rfl)) (by decide) rfl (by rw [hml]; rfl) (argsL := []) (rest := []) (lenOf pd_2829Z rfl) rfl (hb hby at_142) (W := 0) (by show 2 * 0 + _ ≤ _; exact Nat.le_of_eq rfl) (by decide) (by decide) (by decide) (by decide))
    refine Go.st st46 ?_
    show Go p e below _ T46 (mkF m 145 #[.val (.int p1), .val (.ref o1), .val (.int (10 : Int32)), .val (.int (1 : Int32))] [(.int (own_rule (84 : Int32)))])
    refine Go.st (fun _ h => XS.iloadN X46.here hx rfl (hb hby at_145) rfl h) ?_
    show Go p e below _ T46 (mkF m 146 #[.val (.int p1), .val (.ref o1), .val (.int (10 : Int32)), .val (.int (1 : Int32))] [(.int (1 : Int32)), (.int (own_rule (84 : Int32)))])
    refine Go.st (fun _ h => XS.icmpNo X46.here hx rfl (hb hby at_146) rfl (by decide) h) ?_
    show Go p e below _ T46 (mkF m 149 #[.val (.int p1), .val (.ref o1), .val (.int (10 : Int32)), .val (.int (1 : Int32))] [])
    refine Go.st (fun _ h => XT.iconstV X46.here hx rfl (1 : Int32) (hb hby at_149) (by decide) h) ?_
    show Go p e below _ T46 (mkF m 150 #[.val (.int p1), .val (.ref o1), .val (.int (10 : Int32)), .val (.int (1 : Int32))] [(.int (1 : Int32))])
    refine Go.st (fun _ h => XS.goto X46.here hx rfl (pc0 := 150) (pc' := 154) rfl (hb hby at_150) (by decide) (by decide) h) ?_
    show Go p e below _ T46 (mkF m 154 #[.val (.int p1), .val (.ref o1), .val (.int (10 : Int32)), .val (.int (1 : Int32))] [(.int (1 : Int32))])
    refine Go.retZ X46 hx hlk hret rfl (hb hby at_154) (by decide) (by decide) ?_
    exact ⟨rfl, N35⟩
  ·
    show Go p e below _ T35 (mkF m 127 #[.val (.int p1), .val (.ref o1), .val (.int (11 : Int32)), .unset] [])
    refine Go.st (fun _ h => XS.iloadN X35.here hx rfl (hb hby at_127) rfl h) ?_
    show Go p e below _ T35 (mkF m 128 #[.val (.int p1), .val (.ref o1), .val (.int (11 : Int32)), .unset] [(.int (11 : Int32))])
    refine Go.st (fun _ h => XT.bipushV X35.here hx rfl (8 : Int32) (hb hby at_128) (by decide) h) ?_
    show Go p e below _ T35 (mkF m 130 #[.val (.int p1), .val (.ref o1), .val (.int (11 : Int32)), .unset] [(.int (8 : Int32)), (.int (11 : Int32))])
    refine Go.st (fun _ h => XS.icmpNo X35.here hx rfl (hb hby at_130) rfl (by decide) h) ?_
    show Go p e below _ T35 (mkF m 133 #[.val (.int p1), .val (.ref o1), .val (.int (11 : Int32)), .unset] [])
    refine Go.st (fun _ h => XT.iconstV X35.here hx rfl (1 : Int32) (hb hby at_133) (by decide) h) ?_
    show Go p e below _ T35 (mkF m 134 #[.val (.int p1), .val (.ref o1), .val (.int (11 : Int32)), .unset] [(.int (1 : Int32))])
    refine Go.st (fun _ h => XS.goto X35.here hx rfl (pc0 := 134) (pc' := 138) rfl (hb hby at_134) (by decide) (by decide) h) ?_
    show Go p e below _ T35 (mkF m 138 #[.val (.int p1), .val (.ref o1), .val (.int (11 : Int32)), .unset] [(.int (1 : Int32))])
    refine Go.st (fun _ h => XS.istoreN X35.here hx rfl (hb hby at_138) rfl (l' := #[.val (.int p1), .val (.ref o1), .val (.int (11 : Int32)), .val (.int (1 : Int32))]) rfl h) ?_
    show Go p e below _ T35 (mkF m 139 #[.val (.int p1), .val (.ref o1), .val (.int (11 : Int32)), .val (.int (1 : Int32))] [])
    refine Go.st (fun _ h => XS.aloadN X35.here hx rfl (hb hby at_139) rfl rfl h) ?_
    show Go p e below _ T35 (mkF m 140 #[.val (.int p1), .val (.ref o1), .val (.int (11 : Int32)), .val (.int (1 : Int32))] [(.ref o1)])
    refine Go.st (fun _ h => XS.iloadN X35.here hx rfl (hb hby at_140) rfl h) ?_
    show Go p e below _ T35 (mkF m 141 #[.val (.int p1), .val (.ref o1), .val (.int (11 : Int32)), .val (.int (1 : Int32))] [(.int (11 : Int32)), (.ref o1)])
    refine Go.st (own_ldR X35 hx hZ e35 V35' rfl (by decide) (by decide) rfl rfl rfl (hb hby at_141)) ?_
    show Go p e below _ T35 (mkF m 142 #[.val (.int p1), .val (.ref o1), .val (.int (11 : Int32)), .val (.int (1 : Int32))] [(.ref a_PAY_TYPE)])
    obtain ⟨T47, X47, e47, st47⟩ := own_still rfl rfl (Does.virtual (y := (⟨"com/example/billwright/billwright/CostDetail", "ruleField", "()Z"⟩ : MethodName)) (g := (mkF m 142 #[.val (.int p1), .val (.ref o1), .val (.int (11 : Int32)), .val (.int (1 : Int32))] [(.ref a_PAY_TYPE)])) (a := a_PAY_TYPE) (rmRule l Z a0 hw a_PAY_TYPE (80 : Int32) h35 (F_PAY_TYPE_letter.keep K35 nin0)) X35 hx hZ hown e35 (E_PAY_TYPE.keep K35) (hw _ (List.mem_of_getElem? (i := 39) rfl)) (hw _ (List.mem_of_getElem? (i := 40) rfl)) (hw _ (List.mem_of_getElem? (i := 42) rfl)) (hw _ (List.mem_of_getElem? (i := 41) rfl)) (hw _ (List.mem_of_getElem? (i := 3) rfl)) (hw _ (List.mem_of_getElem? (i := 43) rfl)) (by decide) rfl (by rw [hml]; rfl) (argsL := []) (rest := []) (lenOf pd_2829Z rfl) rfl (hb hby at_142) (W := 0) (by show 2 * 0 + _ ≤ _; exact Nat.le_of_eq rfl) (by decide) (by decide) (by decide) (by decide))
    refine Go.st st47 ?_
    show Go p e below _ T47 (mkF m 145 #[.val (.int p1), .val (.ref o1), .val (.int (11 : Int32)), .val (.int (1 : Int32))] [(.int (own_rule (80 : Int32)))])
    refine Go.st (fun _ h => XS.iloadN X47.here hx rfl (hb hby at_145) rfl h) ?_
    show Go p e below _ T47 (mkF m 146 #[.val (.int p1), .val (.ref o1), .val (.int (11 : Int32)), .val (.int (1 : Int32))] [(.int (1 : Int32)), (.int (own_rule (80 : Int32)))])
    refine Go.st (fun _ h => XS.icmpNo X47.here hx rfl (hb hby at_146) rfl (by decide) h) ?_
    show Go p e below _ T47 (mkF m 149 #[.val (.int p1), .val (.ref o1), .val (.int (11 : Int32)), .val (.int (1 : Int32))] [])
    refine Go.st (fun _ h => XT.iconstV X47.here hx rfl (1 : Int32) (hb hby at_149) (by decide) h) ?_
    show Go p e below _ T47 (mkF m 150 #[.val (.int p1), .val (.ref o1), .val (.int (11 : Int32)), .val (.int (1 : Int32))] [(.int (1 : Int32))])
    refine Go.st (fun _ h => XS.goto X47.here hx rfl (pc0 := 150) (pc' := 154) rfl (hb hby at_150) (by decide) (by decide) h) ?_
    show Go p e below _ T47 (mkF m 154 #[.val (.int p1), .val (.ref o1), .val (.int (11 : Int32)), .val (.int (1 : Int32))] [(.int (1 : Int32))])
    refine Go.retZ X47 hx hlk hret rfl (hb hby at_154) (by decide) (by decide) ?_
    exact ⟨rfl, N35⟩
  ·
    show Go p e below _ T35 (mkF m 127 #[.val (.int p1), .val (.ref o1), .val (.int (12 : Int32)), .unset] [])
    refine Go.st (fun _ h => XS.iloadN X35.here hx rfl (hb hby at_127) rfl h) ?_
    show Go p e below _ T35 (mkF m 128 #[.val (.int p1), .val (.ref o1), .val (.int (12 : Int32)), .unset] [(.int (12 : Int32))])
    refine Go.st (fun _ h => XT.bipushV X35.here hx rfl (8 : Int32) (hb hby at_128) (by decide) h) ?_
    show Go p e below _ T35 (mkF m 130 #[.val (.int p1), .val (.ref o1), .val (.int (12 : Int32)), .unset] [(.int (8 : Int32)), (.int (12 : Int32))])
    refine Go.st (fun _ h => XS.icmpNo X35.here hx rfl (hb hby at_130) rfl (by decide) h) ?_
    show Go p e below _ T35 (mkF m 133 #[.val (.int p1), .val (.ref o1), .val (.int (12 : Int32)), .unset] [])
    refine Go.st (fun _ h => XT.iconstV X35.here hx rfl (1 : Int32) (hb hby at_133) (by decide) h) ?_
    show Go p e below _ T35 (mkF m 134 #[.val (.int p1), .val (.ref o1), .val (.int (12 : Int32)), .unset] [(.int (1 : Int32))])
    refine Go.st (fun _ h => XS.goto X35.here hx rfl (pc0 := 134) (pc' := 138) rfl (hb hby at_134) (by decide) (by decide) h) ?_
    show Go p e below _ T35 (mkF m 138 #[.val (.int p1), .val (.ref o1), .val (.int (12 : Int32)), .unset] [(.int (1 : Int32))])
    refine Go.st (fun _ h => XS.istoreN X35.here hx rfl (hb hby at_138) rfl (l' := #[.val (.int p1), .val (.ref o1), .val (.int (12 : Int32)), .val (.int (1 : Int32))]) rfl h) ?_
    show Go p e below _ T35 (mkF m 139 #[.val (.int p1), .val (.ref o1), .val (.int (12 : Int32)), .val (.int (1 : Int32))] [])
    refine Go.st (fun _ h => XS.aloadN X35.here hx rfl (hb hby at_139) rfl rfl h) ?_
    show Go p e below _ T35 (mkF m 140 #[.val (.int p1), .val (.ref o1), .val (.int (12 : Int32)), .val (.int (1 : Int32))] [(.ref o1)])
    refine Go.st (fun _ h => XS.iloadN X35.here hx rfl (hb hby at_140) rfl h) ?_
    show Go p e below _ T35 (mkF m 141 #[.val (.int p1), .val (.ref o1), .val (.int (12 : Int32)), .val (.int (1 : Int32))] [(.int (12 : Int32)), (.ref o1)])
    refine Go.st (own_ldR X35 hx hZ e35 V35' rfl (by decide) (by decide) rfl rfl rfl (hb hby at_141)) ?_
    show Go p e below _ T35 (mkF m 142 #[.val (.int p1), .val (.ref o1), .val (.int (12 : Int32)), .val (.int (1 : Int32))] [(.ref a_HOME_BUSINESS_UNIT)])
    obtain ⟨T48, X48, e48, st48⟩ := own_still rfl rfl (Does.virtual (y := (⟨"com/example/billwright/billwright/CostDetail", "ruleField", "()Z"⟩ : MethodName)) (g := (mkF m 142 #[.val (.int p1), .val (.ref o1), .val (.int (12 : Int32)), .val (.int (1 : Int32))] [(.ref a_HOME_BUSINESS_UNIT)])) (a := a_HOME_BUSINESS_UNIT) (rmRule l Z a0 hw a_HOME_BUSINESS_UNIT (72 : Int32) h35 (F_HOME_BUSINESS_UNIT_letter.keep K35 nin0)) X35 hx hZ hown e35 (E_HOME_BUSINESS_UNIT.keep K35) (hw _ (List.mem_of_getElem? (i := 39) rfl)) (hw _ (List.mem_of_getElem? (i := 40) rfl)) (hw _ (List.mem_of_getElem? (i := 42) rfl)) (hw _ (List.mem_of_getElem? (i := 41) rfl)) (hw _ (List.mem_of_getElem? (i := 3) rfl)) (hw _ (List.mem_of_getElem? (i := 43) rfl)) (by decide) rfl (by rw [hml]; rfl) (argsL := []) (rest := []) (lenOf pd_2829Z rfl) rfl (hb hby at_142) (W := 0) (by show 2 * 0 + _ ≤ _; exact Nat.le_of_eq rfl) (by decide) (by decide) (by decide) (by decide))
    refine Go.st st48 ?_
    show Go p e below _ T48 (mkF m 145 #[.val (.int p1), .val (.ref o1), .val (.int (12 : Int32)), .val (.int (1 : Int32))] [(.int (own_rule (72 : Int32)))])
    refine Go.st (fun _ h => XS.iloadN X48.here hx rfl (hb hby at_145) rfl h) ?_
    show Go p e below _ T48 (mkF m 146 #[.val (.int p1), .val (.ref o1), .val (.int (12 : Int32)), .val (.int (1 : Int32))] [(.int (1 : Int32)), (.int (own_rule (72 : Int32)))])
    refine Go.st (fun _ h => XS.icmpNo X48.here hx rfl (hb hby at_146) rfl (by decide) h) ?_
    show Go p e below _ T48 (mkF m 149 #[.val (.int p1), .val (.ref o1), .val (.int (12 : Int32)), .val (.int (1 : Int32))] [])
    refine Go.st (fun _ h => XT.iconstV X48.here hx rfl (1 : Int32) (hb hby at_149) (by decide) h) ?_
    show Go p e below _ T48 (mkF m 150 #[.val (.int p1), .val (.ref o1), .val (.int (12 : Int32)), .val (.int (1 : Int32))] [(.int (1 : Int32))])
    refine Go.st (fun _ h => XS.goto X48.here hx rfl (pc0 := 150) (pc' := 154) rfl (hb hby at_150) (by decide) (by decide) h) ?_
    show Go p e below _ T48 (mkF m 154 #[.val (.int p1), .val (.ref o1), .val (.int (12 : Int32)), .val (.int (1 : Int32))] [(.int (1 : Int32))])
    refine Go.retZ X48 hx hlk hret rfl (hb hby at_154) (by decide) (by decide) ?_
    exact ⟨rfl, N35⟩
  ·
    show Go p e below _ T35 (mkF m 127 #[.val (.int p1), .val (.ref o1), .val (.int (13 : Int32)), .unset] [])
    refine Go.st (fun _ h => XS.iloadN X35.here hx rfl (hb hby at_127) rfl h) ?_
    show Go p e below _ T35 (mkF m 128 #[.val (.int p1), .val (.ref o1), .val (.int (13 : Int32)), .unset] [(.int (13 : Int32))])
    refine Go.st (fun _ h => XT.bipushV X35.here hx rfl (8 : Int32) (hb hby at_128) (by decide) h) ?_
    show Go p e below _ T35 (mkF m 130 #[.val (.int p1), .val (.ref o1), .val (.int (13 : Int32)), .unset] [(.int (8 : Int32)), (.int (13 : Int32))])
    refine Go.st (fun _ h => XS.icmpNo X35.here hx rfl (hb hby at_130) rfl (by decide) h) ?_
    show Go p e below _ T35 (mkF m 133 #[.val (.int p1), .val (.ref o1), .val (.int (13 : Int32)), .unset] [])
    refine Go.st (fun _ h => XT.iconstV X35.here hx rfl (1 : Int32) (hb hby at_133) (by decide) h) ?_
    show Go p e below _ T35 (mkF m 134 #[.val (.int p1), .val (.ref o1), .val (.int (13 : Int32)), .unset] [(.int (1 : Int32))])
    refine Go.st (fun _ h => XS.goto X35.here hx rfl (pc0 := 134) (pc' := 138) rfl (hb hby at_134) (by decide) (by decide) h) ?_
    show Go p e below _ T35 (mkF m 138 #[.val (.int p1), .val (.ref o1), .val (.int (13 : Int32)), .unset] [(.int (1 : Int32))])
    refine Go.st (fun _ h => XS.istoreN X35.here hx rfl (hb hby at_138) rfl (l' := #[.val (.int p1), .val (.ref o1), .val (.int (13 : Int32)), .val (.int (1 : Int32))]) rfl h) ?_
    show Go p e below _ T35 (mkF m 139 #[.val (.int p1), .val (.ref o1), .val (.int (13 : Int32)), .val (.int (1 : Int32))] [])
    refine Go.st (fun _ h => XS.aloadN X35.here hx rfl (hb hby at_139) rfl rfl h) ?_
    show Go p e below _ T35 (mkF m 140 #[.val (.int p1), .val (.ref o1), .val (.int (13 : Int32)), .val (.int (1 : Int32))] [(.ref o1)])
    refine Go.st (fun _ h => XS.iloadN X35.here hx rfl (hb hby at_140) rfl h) ?_
    show Go p e below _ T35 (mkF m 141 #[.val (.int p1), .val (.ref o1), .val (.int (13 : Int32)), .val (.int (1 : Int32))] [(.int (13 : Int32)), (.ref o1)])
    refine Go.st (own_ldR X35 hx hZ e35 V35' rfl (by decide) (by decide) rfl rfl rfl (hb hby at_141)) ?_
    show Go p e below _ T35 (mkF m 142 #[.val (.int p1), .val (.ref o1), .val (.int (13 : Int32)), .val (.int (1 : Int32))] [(.ref a_COST_POOL)])
    obtain ⟨T49, X49, e49, st49⟩ := own_still rfl rfl (Does.virtual (y := (⟨"com/example/billwright/billwright/CostDetail", "ruleField", "()Z"⟩ : MethodName)) (g := (mkF m 142 #[.val (.int p1), .val (.ref o1), .val (.int (13 : Int32)), .val (.int (1 : Int32))] [(.ref a_COST_POOL)])) (a := a_COST_POOL) (rmRule l Z a0 hw a_COST_POOL (67 : Int32) h35 (F_COST_POOL_letter.keep K35 nin0)) X35 hx hZ hown e35 (E_COST_POOL.keep K35) (hw _ (List.mem_of_getElem? (i := 39) rfl)) (hw _ (List.mem_of_getElem? (i := 40) rfl)) (hw _ (List.mem_of_getElem? (i := 42) rfl)) (hw _ (List.mem_of_getElem? (i := 41) rfl)) (hw _ (List.mem_of_getElem? (i := 3) rfl)) (hw _ (List.mem_of_getElem? (i := 43) rfl)) (by decide) rfl (by rw [hml]; rfl) (argsL := []) (rest := []) (lenOf pd_2829Z rfl) rfl (hb hby at_142) (W := 0) (by show 2 * 0 + _ ≤ _; exact Nat.le_of_eq rfl) (by decide) (by decide) (by decide) (by decide))
    refine Go.st st49 ?_
    show Go p e below _ T49 (mkF m 145 #[.val (.int p1), .val (.ref o1), .val (.int (13 : Int32)), .val (.int (1 : Int32))] [(.int (own_rule (67 : Int32)))])
    refine Go.st (fun _ h => XS.iloadN X49.here hx rfl (hb hby at_145) rfl h) ?_
    show Go p e below _ T49 (mkF m 146 #[.val (.int p1), .val (.ref o1), .val (.int (13 : Int32)), .val (.int (1 : Int32))] [(.int (1 : Int32)), (.int (own_rule (67 : Int32)))])
    refine Go.st (fun _ h => XS.icmpNo X49.here hx rfl (hb hby at_146) rfl (by decide) h) ?_
    show Go p e below _ T49 (mkF m 149 #[.val (.int p1), .val (.ref o1), .val (.int (13 : Int32)), .val (.int (1 : Int32))] [])
    refine Go.st (fun _ h => XT.iconstV X49.here hx rfl (1 : Int32) (hb hby at_149) (by decide) h) ?_
    show Go p e below _ T49 (mkF m 150 #[.val (.int p1), .val (.ref o1), .val (.int (13 : Int32)), .val (.int (1 : Int32))] [(.int (1 : Int32))])
    refine Go.st (fun _ h => XS.goto X49.here hx rfl (pc0 := 150) (pc' := 154) rfl (hb hby at_150) (by decide) (by decide) h) ?_
    show Go p e below _ T49 (mkF m 154 #[.val (.int p1), .val (.ref o1), .val (.int (13 : Int32)), .val (.int (1 : Int32))] [(.int (1 : Int32))])
    refine Go.retZ X49 hx hlk hret rfl (hb hby at_154) (by decide) (by decide) ?_
    exact ⟨rfl, N35⟩
  ·
    show Go p e below _ T35 (mkF m 127 #[.val (.int p1), .val (.ref o1), .val (.int (14 : Int32)), .unset] [])
    refine Go.st (fun _ h => XS.iloadN X35.here hx rfl (hb hby at_127) rfl h) ?_
    show Go p e below _ T35 (mkF m 128 #[.val (.int p1), .val (.ref o1), .val (.int (14 : Int32)), .unset] [(.int (14 : Int32))])
    refine Go.st (fun _ h => XT.bipushV X35.here hx rfl (8 : Int32) (hb hby at_128) (by decide) h) ?_
    show Go p e below _ T35 (mkF m 130 #[.val (.int p1), .val (.ref o1), .val (.int (14 : Int32)), .unset] [(.int (8 : Int32)), (.int (14 : Int32))])
    refine Go.st (fun _ h => XS.icmpNo X35.here hx rfl (hb hby at_130) rfl (by decide) h) ?_
    show Go p e below _ T35 (mkF m 133 #[.val (.int p1), .val (.ref o1), .val (.int (14 : Int32)), .unset] [])
    refine Go.st (fun _ h => XT.iconstV X35.here hx rfl (1 : Int32) (hb hby at_133) (by decide) h) ?_
    show Go p e below _ T35 (mkF m 134 #[.val (.int p1), .val (.ref o1), .val (.int (14 : Int32)), .unset] [(.int (1 : Int32))])
    refine Go.st (fun _ h => XS.goto X35.here hx rfl (pc0 := 134) (pc' := 138) rfl (hb hby at_134) (by decide) (by decide) h) ?_
    show Go p e below _ T35 (mkF m 138 #[.val (.int p1), .val (.ref o1), .val (.int (14 : Int32)), .unset] [(.int (1 : Int32))])
    refine Go.st (fun _ h => XS.istoreN X35.here hx rfl (hb hby at_138) rfl (l' := #[.val (.int p1), .val (.ref o1), .val (.int (14 : Int32)), .val (.int (1 : Int32))]) rfl h) ?_
    show Go p e below _ T35 (mkF m 139 #[.val (.int p1), .val (.ref o1), .val (.int (14 : Int32)), .val (.int (1 : Int32))] [])
    refine Go.st (fun _ h => XS.aloadN X35.here hx rfl (hb hby at_139) rfl rfl h) ?_
    show Go p e below _ T35 (mkF m 140 #[.val (.int p1), .val (.ref o1), .val (.int (14 : Int32)), .val (.int (1 : Int32))] [(.ref o1)])
    refine Go.st (fun _ h => XS.iloadN X35.here hx rfl (hb hby at_140) rfl h) ?_
    show Go p e below _ T35 (mkF m 141 #[.val (.int p1), .val (.ref o1), .val (.int (14 : Int32)), .val (.int (1 : Int32))] [(.int (14 : Int32)), (.ref o1)])
    refine Go.st (own_ldR X35 hx hZ e35 V35' rfl (by decide) (by decide) rfl rfl rfl (hb hby at_141)) ?_
    show Go p e below _ T35 (mkF m 142 #[.val (.int p1), .val (.ref o1), .val (.int (14 : Int32)), .val (.int (1 : Int32))] [(.ref a_EQUIPMENT)])
    obtain ⟨T50, X50, e50, st50⟩ := own_still rfl rfl (Does.virtual (y := (⟨"com/example/billwright/billwright/CostDetail", "ruleField", "()Z"⟩ : MethodName)) (g := (mkF m 142 #[.val (.int p1), .val (.ref o1), .val (.int (14 : Int32)), .val (.int (1 : Int32))] [(.ref a_EQUIPMENT)])) (a := a_EQUIPMENT) (rmRule l Z a0 hw a_EQUIPMENT (81 : Int32) h35 (F_EQUIPMENT_letter.keep K35 nin0)) X35 hx hZ hown e35 (E_EQUIPMENT.keep K35) (hw _ (List.mem_of_getElem? (i := 39) rfl)) (hw _ (List.mem_of_getElem? (i := 40) rfl)) (hw _ (List.mem_of_getElem? (i := 42) rfl)) (hw _ (List.mem_of_getElem? (i := 41) rfl)) (hw _ (List.mem_of_getElem? (i := 3) rfl)) (hw _ (List.mem_of_getElem? (i := 43) rfl)) (by decide) rfl (by rw [hml]; rfl) (argsL := []) (rest := []) (lenOf pd_2829Z rfl) rfl (hb hby at_142) (W := 0) (by show 2 * 0 + _ ≤ _; exact Nat.le_of_eq rfl) (by decide) (by decide) (by decide) (by decide))
    refine Go.st st50 ?_
    show Go p e below _ T50 (mkF m 145 #[.val (.int p1), .val (.ref o1), .val (.int (14 : Int32)), .val (.int (1 : Int32))] [(.int (own_rule (81 : Int32)))])
    refine Go.st (fun _ h => XS.iloadN X50.here hx rfl (hb hby at_145) rfl h) ?_
    show Go p e below _ T50 (mkF m 146 #[.val (.int p1), .val (.ref o1), .val (.int (14 : Int32)), .val (.int (1 : Int32))] [(.int (1 : Int32)), (.int (own_rule (81 : Int32)))])
    refine Go.st (fun _ h => XS.icmpNo X50.here hx rfl (hb hby at_146) rfl (by decide) h) ?_
    show Go p e below _ T50 (mkF m 149 #[.val (.int p1), .val (.ref o1), .val (.int (14 : Int32)), .val (.int (1 : Int32))] [])
    refine Go.st (fun _ h => XT.iconstV X50.here hx rfl (1 : Int32) (hb hby at_149) (by decide) h) ?_
    show Go p e below _ T50 (mkF m 150 #[.val (.int p1), .val (.ref o1), .val (.int (14 : Int32)), .val (.int (1 : Int32))] [(.int (1 : Int32))])
    refine Go.st (fun _ h => XS.goto X50.here hx rfl (pc0 := 150) (pc' := 154) rfl (hb hby at_150) (by decide) (by decide) h) ?_
    show Go p e below _ T50 (mkF m 154 #[.val (.int p1), .val (.ref o1), .val (.int (14 : Int32)), .val (.int (1 : Int32))] [(.int (1 : Int32))])
    refine Go.retZ X50 hx hlk hret rfl (hb hby at_154) (by decide) (by decide) ?_
    exact ⟨rfl, N35⟩
  ·
    show Go p e below _ T35 (mkF m 127 #[.val (.int p1), .val (.ref o1), .val (.int (15 : Int32)), .unset] [])
    refine Go.st (fun _ h => XS.iloadN X35.here hx rfl (hb hby at_127) rfl h) ?_
    show Go p e below _ T35 (mkF m 128 #[.val (.int p1), .val (.ref o1), .val (.int (15 : Int32)), .unset] [(.int (15 : Int32))])
    refine Go.st (fun _ h => XT.bipushV X35.here hx rfl (8 : Int32) (hb hby at_128) (by decide) h) ?_
    show Go p e below _ T35 (mkF m 130 #[.val (.int p1), .val (.ref o1), .val (.int (15 : Int32)), .unset] [(.int (8 : Int32)), (.int (15 : Int32))])
    refine Go.st (fun _ h => XS.icmpNo X35.here hx rfl (hb hby at_130) rfl (by decide) h) ?_
    show Go p e below _ T35 (mkF m 133 #[.val (.int p1), .val (.ref o1), .val (.int (15 : Int32)), .unset] [])
    refine Go.st (fun _ h => XT.iconstV X35.here hx rfl (1 : Int32) (hb hby at_133) (by decide) h) ?_
    show Go p e below _ T35 (mkF m 134 #[.val (.int p1), .val (.ref o1), .val (.int (15 : Int32)), .unset] [(.int (1 : Int32))])
    refine Go.st (fun _ h => XS.goto X35.here hx rfl (pc0 := 134) (pc' := 138) rfl (hb hby at_134) (by decide) (by decide) h) ?_
    show Go p e below _ T35 (mkF m 138 #[.val (.int p1), .val (.ref o1), .val (.int (15 : Int32)), .unset] [(.int (1 : Int32))])
    refine Go.st (fun _ h => XS.istoreN X35.here hx rfl (hb hby at_138) rfl (l' := #[.val (.int p1), .val (.ref o1), .val (.int (15 : Int32)), .val (.int (1 : Int32))]) rfl h) ?_
    show Go p e below _ T35 (mkF m 139 #[.val (.int p1), .val (.ref o1), .val (.int (15 : Int32)), .val (.int (1 : Int32))] [])
    refine Go.st (fun _ h => XS.aloadN X35.here hx rfl (hb hby at_139) rfl rfl h) ?_
    show Go p e below _ T35 (mkF m 140 #[.val (.int p1), .val (.ref o1), .val (.int (15 : Int32)), .val (.int (1 : Int32))] [(.ref o1)])
    refine Go.st (fun _ h => XS.iloadN X35.here hx rfl (hb hby at_140) rfl h) ?_
    show Go p e below _ T35 (mkF m 141 #[.val (.int p1), .val (.ref o1), .val (.int (15 : Int32)), .val (.int (1 : Int32))] [(.int (15 : Int32)), (.ref o1)])
    refine Go.st (own_ldR X35 hx hZ e35 V35' rfl (by decide) (by decide) rfl rfl rfl (hb hby at_141)) ?_
    show Go p e below _ T35 (mkF m 142 #[.val (.int p1), .val (.ref o1), .val (.int (15 : Int32)), .val (.int (1 : Int32))] [(.ref a_RATE_GROUP)])
    obtain ⟨T51, X51, e51, st51⟩ := own_still rfl rfl (Does.virtual (y := (⟨"com/example/billwright/billwright/CostDetail", "ruleField", "()Z"⟩ : MethodName)) (g := (mkF m 142 #[.val (.int p1), .val (.ref o1), .val (.int (15 : Int32)), .val (.int (1 : Int32))] [(.ref a_RATE_GROUP)])) (a := a_RATE_GROUP) (rmRule l Z a0 hw a_RATE_GROUP (71 : Int32) h35 (F_RATE_GROUP_letter.keep K35 nin0)) X35 hx hZ hown e35 (E_RATE_GROUP.keep K35) (hw _ (List.mem_of_getElem? (i := 39) rfl)) (hw _ (List.mem_of_getElem? (i := 40) rfl)) (hw _ (List.mem_of_getElem? (i := 42) rfl)) (hw _ (List.mem_of_getElem? (i := 41) rfl)) (hw _ (List.mem_of_getElem? (i := 3) rfl)) (hw _ (List.mem_of_getElem? (i := 43) rfl)) (by decide) rfl (by rw [hml]; rfl) (argsL := []) (rest := []) (lenOf pd_2829Z rfl) rfl (hb hby at_142) (W := 0) (by show 2 * 0 + _ ≤ _; exact Nat.le_of_eq rfl) (by decide) (by decide) (by decide) (by decide))
    refine Go.st st51 ?_
    show Go p e below _ T51 (mkF m 145 #[.val (.int p1), .val (.ref o1), .val (.int (15 : Int32)), .val (.int (1 : Int32))] [(.int (own_rule (71 : Int32)))])
    refine Go.st (fun _ h => XS.iloadN X51.here hx rfl (hb hby at_145) rfl h) ?_
    show Go p e below _ T51 (mkF m 146 #[.val (.int p1), .val (.ref o1), .val (.int (15 : Int32)), .val (.int (1 : Int32))] [(.int (1 : Int32)), (.int (own_rule (71 : Int32)))])
    refine Go.st (fun _ h => XS.icmpNo X51.here hx rfl (hb hby at_146) rfl (by decide) h) ?_
    show Go p e below _ T51 (mkF m 149 #[.val (.int p1), .val (.ref o1), .val (.int (15 : Int32)), .val (.int (1 : Int32))] [])
    refine Go.st (fun _ h => XT.iconstV X51.here hx rfl (1 : Int32) (hb hby at_149) (by decide) h) ?_
    show Go p e below _ T51 (mkF m 150 #[.val (.int p1), .val (.ref o1), .val (.int (15 : Int32)), .val (.int (1 : Int32))] [(.int (1 : Int32))])
    refine Go.st (fun _ h => XS.goto X51.here hx rfl (pc0 := 150) (pc' := 154) rfl (hb hby at_150) (by decide) (by decide) h) ?_
    show Go p e below _ T51 (mkF m 154 #[.val (.int p1), .val (.ref o1), .val (.int (15 : Int32)), .val (.int (1 : Int32))] [(.int (1 : Int32))])
    refine Go.retZ X51 hx hlk hret rfl (hb hby at_154) (by decide) (by decide) ?_
    exact ⟨rfl, N35⟩
  ·
    show Go p e below _ T35 (mkF m 127 #[.val (.int p1), .val (.ref o1), .val (.int (16 : Int32)), .unset] [])
    refine Go.st (fun _ h => XS.iloadN X35.here hx rfl (hb hby at_127) rfl h) ?_
    show Go p e below _ T35 (mkF m 128 #[.val (.int p1), .val (.ref o1), .val (.int (16 : Int32)), .unset] [(.int (16 : Int32))])
    refine Go.st (fun _ h => XT.bipushV X35.here hx rfl (8 : Int32) (hb hby at_128) (by decide) h) ?_
    show Go p e below _ T35 (mkF m 130 #[.val (.int p1), .val (.ref o1), .val (.int (16 : Int32)), .unset] [(.int (8 : Int32)), (.int (16 : Int32))])
    refine Go.st (fun _ h => XS.icmpNo X35.here hx rfl (hb hby at_130) rfl (by decide) h) ?_
    show Go p e below _ T35 (mkF m 133 #[.val (.int p1), .val (.ref o1), .val (.int (16 : Int32)), .unset] [])
    refine Go.st (fun _ h => XT.iconstV X35.here hx rfl (1 : Int32) (hb hby at_133) (by decide) h) ?_
    show Go p e below _ T35 (mkF m 134 #[.val (.int p1), .val (.ref o1), .val (.int (16 : Int32)), .unset] [(.int (1 : Int32))])
    refine Go.st (fun _ h => XS.goto X35.here hx rfl (pc0 := 134) (pc' := 138) rfl (hb hby at_134) (by decide) (by decide) h) ?_
    show Go p e below _ T35 (mkF m 138 #[.val (.int p1), .val (.ref o1), .val (.int (16 : Int32)), .unset] [(.int (1 : Int32))])
    refine Go.st (fun _ h => XS.istoreN X35.here hx rfl (hb hby at_138) rfl (l' := #[.val (.int p1), .val (.ref o1), .val (.int (16 : Int32)), .val (.int (1 : Int32))]) rfl h) ?_
    show Go p e below _ T35 (mkF m 139 #[.val (.int p1), .val (.ref o1), .val (.int (16 : Int32)), .val (.int (1 : Int32))] [])
    refine Go.st (fun _ h => XS.aloadN X35.here hx rfl (hb hby at_139) rfl rfl h) ?_
    show Go p e below _ T35 (mkF m 140 #[.val (.int p1), .val (.ref o1), .val (.int (16 : Int32)), .val (.int (1 : Int32))] [(.ref o1)])
    refine Go.st (fun _ h => XS.iloadN X35.here hx rfl (hb hby at_140) rfl h) ?_
    show Go p e below _ T35 (mkF m 141 #[.val (.int p1), .val (.ref o1), .val (.int (16 : Int32)), .val (.int (1 : Int32))] [(.int (16 : Int32)), (.ref o1)])
    refine Go.st (own_ldR X35 hx hZ e35 V35' rfl (by decide) (by decide) rfl rfl rfl (hb hby at_141)) ?_
    show Go p e below _ T35 (mkF m 142 #[.val (.int p1), .val (.ref o1), .val (.int (16 : Int32)), .val (.int (1 : Int32))] [(.ref a_RATE_CODE)])
    obtain ⟨T52, X52, e52, st52⟩ := own_still rfl rfl (Does.virtual (y := (⟨"com/example/billwright/billwright/CostDetail", "ruleField", "()Z"⟩ : MethodName)) (g := (mkF m 142 #[.val (.int p1), .val (.ref o1), .val (.int (16 : Int32)), .val (.int (1 : Int32))] [(.ref a_RATE_CODE)])) (a := a_RATE_CODE) (rmRule l Z a0 hw a_RATE_CODE (82 : Int32) h35 (F_RATE_CODE_letter.keep K35 nin0)) X35 hx hZ hown e35 (E_RATE_CODE.keep K35) (hw _ (List.mem_of_getElem? (i := 39) rfl)) (hw _ (List.mem_of_getElem? (i := 40) rfl)) (hw _ (List.mem_of_getElem? (i := 42) rfl)) (hw _ (List.mem_of_getElem? (i := 41) rfl)) (hw _ (List.mem_of_getElem? (i := 3) rfl)) (hw _ (List.mem_of_getElem? (i := 43) rfl)) (by decide) rfl (by rw [hml]; rfl) (argsL := []) (rest := []) (lenOf pd_2829Z rfl) rfl (hb hby at_142) (W := 0) (by show 2 * 0 + _ ≤ _; exact Nat.le_of_eq rfl) (by decide) (by decide) (by decide) (by decide))
    refine Go.st st52 ?_
    show Go p e below _ T52 (mkF m 145 #[.val (.int p1), .val (.ref o1), .val (.int (16 : Int32)), .val (.int (1 : Int32))] [(.int (own_rule (82 : Int32)))])
    refine Go.st (fun _ h => XS.iloadN X52.here hx rfl (hb hby at_145) rfl h) ?_
    show Go p e below _ T52 (mkF m 146 #[.val (.int p1), .val (.ref o1), .val (.int (16 : Int32)), .val (.int (1 : Int32))] [(.int (1 : Int32)), (.int (own_rule (82 : Int32)))])
    refine Go.st (fun _ h => XS.icmpNo X52.here hx rfl (hb hby at_146) rfl (by decide) h) ?_
    show Go p e below _ T52 (mkF m 149 #[.val (.int p1), .val (.ref o1), .val (.int (16 : Int32)), .val (.int (1 : Int32))] [])
    refine Go.st (fun _ h => XT.iconstV X52.here hx rfl (1 : Int32) (hb hby at_149) (by decide) h) ?_
    show Go p e below _ T52 (mkF m 150 #[.val (.int p1), .val (.ref o1), .val (.int (16 : Int32)), .val (.int (1 : Int32))] [(.int (1 : Int32))])
    refine Go.st (fun _ h => XS.goto X52.here hx rfl (pc0 := 150) (pc' := 154) rfl (hb hby at_150) (by decide) (by decide) h) ?_
    show Go p e below _ T52 (mkF m 154 #[.val (.int p1), .val (.ref o1), .val (.int (16 : Int32)), .val (.int (1 : Int32))] [(.int (1 : Int32))])
    refine Go.retZ X52 hx hlk hret rfl (hb hby at_154) (by decide) (by decide) ?_
    exact ⟨rfl, N35⟩
set_option maxRecDepth 65536 in
set_option maxHeartbeats 40000000 in
theorem comes_1 {Post : Tables → Env → Array Value → State → Outcome → State → Prop} (hpost : ∀ tb e args s v u, (limb_1_1.after args s (.returned v) u = true ∧ limb_1_2.after args s (.returned v) u = true ∧ True) → FrameEnd s (.returned v) u (Jvm.fieldLocs frame_1_writes args s ++ Jvm.arrayLocs frame_1_arrays args s ++ Jvm.staticLocs frame_1_statics s) 16 128 → Post tb e args s (.returned v) u) :
    ArmFor flags0 classFile x code maxLocals ret World_1 tables_1 room_1 Calls_1 rest_1 Pre_1 Post := by
  intro l hfl _ _ p e ha hc hk s m args below hf hA hF happ hP
  obtain ⟨hcalls, hrest, hpre⟩ := hP
  obtain ⟨-, -, -, hnamed, -, -, -, hat⟩ := (Spec.applies_iff hf).mp happ
  obtain ⟨hg, hn⟩ := and_e (Cond.before_iff.mp (show (Jvm.Cond.and given_1 narrow_1).before args s = true from hpre))
  obtain ⟨g0, hg⟩ := and_e hg
  obtain ⟨w0, rfl⟩ : ∃ w0 : Value, args = #[w0] := by
    have hs : args.size = 1 := by simpa [Cond.value, given_1] using g0
    obtain ⟨L⟩ := args
    match L, hs with
    | [w0], _ => exact ⟨w0, rfl⟩
  have hw := fun d (hd : d ∈ tables_1) => atoms_spec (ws := Jvm.Cond.code x code maxLocals ret :: tables_1) hat d (List.mem_cons_of_mem _ hd)
  have hfit : Fit s := fun {y c} hc i hi => by
    obtain ⟨ha, rfl⟩ := Array.getElem?_eq_some_iff.mp hc
    have q := List.all_eq_true.mp ((Array.all_eq_true_iff_forall_mem.mp hF) _ (Array.getElem_mem ha)) i (List.mem_range.mpr hi)
    simpa [Array.getElem?_eq_getElem hi] using q
  obtain ⟨i0, q0⟩ := is_v hg
  obtain rfl : w0 = (.int i0) := Option.some.inj q0
  obtain ⟨x0, hn⟩ := and_e hn
  obtain ⟨x1, hn⟩ := and_e hn
  obtain ⟨x2, hn⟩ := and_e hn
  obtain ⟨x3, hn⟩ := and_e hn
  obtain ⟨x4, hn⟩ := and_e hn
  obtain ⟨x5, hn⟩ := and_e hn
  obtain ⟨x6, hn⟩ := and_e hn
  obtain ⟨x7, hn⟩ := and_e hn
  obtain ⟨x8, hn⟩ := and_e hn
  obtain ⟨x9, hn⟩ := and_e hn
  obtain ⟨x10, hn⟩ := and_e hn
  obtain ⟨x11, hn⟩ := and_e hn
  obtain ⟨x12, hn⟩ := and_e hn
  obtain ⟨x13, hn⟩ := and_e hn
  obtain ⟨x14, hn⟩ := and_e hn
  obtain ⟨x15, hn⟩ := and_e hn
  obtain ⟨x16, hn⟩ := and_e hn
  obtain ⟨x17, hn⟩ := and_e hn
  obtain ⟨x18, hn⟩ := and_e hn
  obtain ⟨x19, hn⟩ := and_e hn
  obtain ⟨x20, hn⟩ := and_e hn
  obtain ⟨x21, hn⟩ := and_e hn
  obtain ⟨x22, hn⟩ := and_e hn
  obtain ⟨x23, hn⟩ := and_e hn
  obtain ⟨x24, hn⟩ := and_e hn
  obtain ⟨x25, hn⟩ := and_e hn
  obtain ⟨x26, hn⟩ := and_e hn
  obtain ⟨x27, hn⟩ := and_e hn
  obtain ⟨x28, hn⟩ := and_e hn
  obtain ⟨x29, hn⟩ := and_e hn
  obtain ⟨x30, hn⟩ := and_e hn
  obtain ⟨x31, hn⟩ := and_e hn
  obtain ⟨x32, hn⟩ := and_e hn
  have x33 := hn
  obtain ⟨a_WORK_ORDER, v_WORK_ORDER, S_WORK_ORDER, E_WORK_ORDER⟩ := own_sta x0 (hw _ (List.mem_of_getElem? (i := 3) rfl)) (hw _ (List.mem_of_getElem? (i := 4) rfl))
  obtain ⟨a_WORK_ORDER_CLASS, v_WORK_ORDER_CLASS, S_WORK_ORDER_CLASS, E_WORK_ORDER_CLASS⟩ := own_sta x1 (hw _ (List.mem_of_getElem? (i := 3) rfl)) (hw _ (List.mem_of_getElem? (i := 7) rfl))
  obtain ⟨a_CONTRACT, v_CONTRACT, S_CONTRACT, E_CONTRACT⟩ := own_sta x2 (hw _ (List.mem_of_getElem? (i := 3) rfl)) (hw _ (List.mem_of_getElem? (i := 9) rfl))
  obtain ⟨a_PARENT_CONTRACT, v_PARENT_CONTRACT, S_PARENT_CONTRACT, E_PARENT_CONTRACT⟩ := own_sta x3 (hw _ (List.mem_of_getElem? (i := 3) rfl)) (hw _ (List.mem_of_getElem? (i := 11) rfl))
  obtain ⟨a_BUSINESS_UNIT_CLASS, v_BUSINESS_UNIT_CLASS, S_BUSINESS_UNIT_CLASS, E_BUSINESS_UNIT_CLASS⟩ := own_sta x4 (hw _ (List.mem_of_getElem? (i := 3) rfl)) (hw _ (List.mem_of_getElem? (i := 13) rfl))
  obtain ⟨a_COMPANY, v_COMPANY, S_COMPANY, E_COMPANY⟩ := own_sta x5 (hw _ (List.mem_of_getElem? (i := 3) rfl)) (hw _ (List.mem_of_getElem? (i := 15) rfl))
  obtain ⟨a_DOCUMENT_TYPE, v_DOCUMENT_TYPE, S_DOCUMENT_TYPE, E_DOCUMENT_TYPE⟩ := own_sta x6 (hw _ (List.mem_of_getElem? (i := 3) rfl)) (hw _ (List.mem_of_getElem? (i := 17) rfl))
  obtain ⟨a_TAX_AREA, v_TAX_AREA, S_TAX_AREA, E_TAX_AREA⟩ := own_sta x7 (hw _ (List.mem_of_getElem? (i := 3) rfl)) (hw _ (List.mem_of_getElem? (i := 19) rfl))
  obtain ⟨a_EMPLOYEE, v_EMPLOYEE, S_EMPLOYEE, E_EMPLOYEE⟩ := own_sta x8 (hw _ (List.mem_of_getElem? (i := 3) rfl)) (hw _ (List.mem_of_getElem? (i := 21) rfl))
  obtain ⟨a_JOB_STEP, v_JOB_STEP, S_JOB_STEP, E_JOB_STEP⟩ := own_sta x9 (hw _ (List.mem_of_getElem? (i := 3) rfl)) (hw _ (List.mem_of_getElem? (i := 23) rfl))
  obtain ⟨a_JOB_TYPE, v_JOB_TYPE, S_JOB_TYPE, E_JOB_TYPE⟩ := own_sta x10 (hw _ (List.mem_of_getElem? (i := 3) rfl)) (hw _ (List.mem_of_getElem? (i := 25) rfl))
  obtain ⟨a_PAY_TYPE, v_PAY_TYPE, S_PAY_TYPE, E_PAY_TYPE⟩ := own_sta x11 (hw _ (List.mem_of_getElem? (i := 3) rfl)) (hw _ (List.mem_of_getElem? (i := 27) rfl))
  obtain ⟨a_HOME_BUSINESS_UNIT, v_HOME_BUSINESS_UNIT, S_HOME_BUSINESS_UNIT, E_HOME_BUSINESS_UNIT⟩ := own_sta x12 (hw _ (List.mem_of_getElem? (i := 3) rfl)) (hw _ (List.mem_of_getElem? (i := 29) rfl))
  obtain ⟨a_COST_POOL, v_COST_POOL, S_COST_POOL, E_COST_POOL⟩ := own_sta x13 (hw _ (List.mem_of_getElem? (i := 3) rfl)) (hw _ (List.mem_of_getElem? (i := 31) rfl))
  obtain ⟨a_EQUIPMENT, v_EQUIPMENT, S_EQUIPMENT, E_EQUIPMENT⟩ := own_sta x14 (hw _ (List.mem_of_getElem? (i := 3) rfl)) (hw _ (List.mem_of_getElem? (i := 33) rfl))
  obtain ⟨a_RATE_GROUP, v_RATE_GROUP, S_RATE_GROUP, E_RATE_GROUP⟩ := own_sta x15 (hw _ (List.mem_of_getElem? (i := 3) rfl)) (hw _ (List.mem_of_getElem? (i := 35) rfl))
  obtain ⟨a_RATE_CODE, v_RATE_CODE, S_RATE_CODE, E_RATE_CODE⟩ := own_sta x16 (hw _ (List.mem_of_getElem? (i := 3) rfl)) (hw _ (List.mem_of_getElem? (i := 37) rfl))
  have F_WORK_ORDER_letter := own_fldI v_WORK_ORDER x17
  have F_PARENT_CONTRACT_letter := own_fldI v_PARENT_CONTRACT x18
  have F_EMPLOYEE_letter := own_fldI v_EMPLOYEE x19
  have F_JOB_STEP_letter := own_fldI v_JOB_STEP x20
  have F_DOCUMENT_TYPE_letter := own_fldI v_DOCUMENT_TYPE x21
  have F_TAX_AREA_letter := own_fldI v_TAX_AREA x22
  have F_CONTRACT_letter := own_fldI v_CONTRACT x23
  have F_PAY_TYPE_letter := own_fldI v_PAY_TYPE x24
  have F_WORK_ORDER_CLASS_letter := own_fldI v_WORK_ORDER_CLASS x25
  have F_COST_POOL_letter := own_fldI v_COST_POOL x26
  have F_BUSINESS_UNIT_CLASS_letter := own_fldI v_BUSINESS_UNIT_CLASS x27
  have F_JOB_TYPE_letter := own_fldI v_JOB_TYPE x28
  have F_RATE_CODE_letter := own_fldI v_RATE_CODE x29
  have F_RATE_GROUP_letter := own_fldI v_RATE_GROUP x30
  have F_COMPANY_letter := own_fldI v_COMPANY x31
  have F_EQUIPMENT_letter := own_fldI v_EQUIPMENT x32
  have F_HOME_BUSINESS_UNIT_letter := own_fldI v_HOME_BUSINESS_UNIT x33
  obtain ⟨n, o, h1, h2, h3, v, L, rfl, hP, hq⟩ := rmLaw l s _ hw i0 a_WORK_ORDER a_WORK_ORDER_CLASS a_CONTRACT a_PARENT_CONTRACT a_BUSINESS_UNIT_CLASS a_COMPANY a_DOCUMENT_TYPE a_TAX_AREA a_EMPLOYEE a_JOB_STEP a_JOB_TYPE a_PAY_TYPE a_HOME_BUSINESS_UNIT a_COST_POOL a_EQUIPMENT a_RATE_GROUP a_RATE_CODE s.heap s.heap.size (Nat.le_refl _) S_WORK_ORDER E_WORK_ORDER F_WORK_ORDER_letter S_WORK_ORDER_CLASS E_WORK_ORDER_CLASS F_WORK_ORDER_CLASS_letter S_CONTRACT E_CONTRACT F_CONTRACT_letter S_PARENT_CONTRACT E_PARENT_CONTRACT F_PARENT_CONTRACT_letter S_BUSINESS_UNIT_CLASS E_BUSINESS_UNIT_CLASS F_BUSINESS_UNIT_CLASS_letter S_COMPANY E_COMPANY F_COMPANY_letter S_DOCUMENT_TYPE E_DOCUMENT_TYPE F_DOCUMENT_TYPE_letter S_TAX_AREA E_TAX_AREA F_TAX_AREA_letter S_EMPLOYEE E_EMPLOYEE F_EMPLOYEE_letter S_JOB_STEP E_JOB_STEP F_JOB_STEP_letter S_JOB_TYPE E_JOB_TYPE F_JOB_TYPE_letter S_PAY_TYPE E_PAY_TYPE F_PAY_TYPE_letter S_HOME_BUSINESS_UNIT E_HOME_BUSINESS_UNIT F_HOME_BUSINESS_UNIT_letter S_COST_POOL E_COST_POOL F_COST_POOL_letter S_EQUIPMENT E_EQUIPMENT F_EQUIPMENT_letter S_RATE_GROUP E_RATE_GROUP F_RATE_GROUP_letter S_RATE_CODE E_RATE_CODE F_RATE_CODE_letter p e ha hc hk s m _ below hf ((Spec.applies_iff_loose hf).mp happ).1 ⟨rfl, State.Warmed39.refl s, rfl⟩ trivial
  obtain ⟨rfl, N⟩ := hP
  refine ⟨n, _, h1, h2, h3, hpost _ _ _ _ _ _ ⟨Cond.after_iff.mpr rfl, Cond.after_iff.mpr (eq_i res_at (Term.int_eval (1)) rfl), trivial⟩ ⟨hq.1, hq.2.1, (hq.2.2.sift fun y hy => Or.inr (N y hy)).mono (by decide) (by decide)⟩⟩
theorem main_1_1 : Claimed_1_1 := comes_1 fun _ _ _ _ _ _ h hF => ⟨h.1, hF⟩
theorem main_1_2 : Claimed_1_2 := comes_1 fun _ _ _ _ _ _ h hF => ⟨h.2.1, hF⟩
end Jvm.Pilot.@@N@@
namespace Jvm.Pilot.@@N@@
open Jvm Jvm.ClassFile Sem Op Lib Jvm.Free Jvm.Stand Jvm.Pilot.@@N@@.Jvm.D
/-! MADE BY PROGRAM (witnessworld.py) out of the Statement's table words and the real class files: 13 classes; the members and pool entries that the words name. The judged class is class 1, her method 1. -/
namespace start1
open Jvm.ClassFile
def u (s : String) : CpInfo := .utf8 (stringToUtf16 s)
/-- a pool by its gaps: so many unusable entries, then the entry; so many at the end -/
def gap : Nat → List CpInfo → List CpInfo
  | 0, r => r
  | n + 1, r => .unusable :: gap n r
def poolList (es : List (Nat × CpInfo)) (last : Nat) : List CpInfo := es.foldr (fun e r => gap e.1 (e.2 :: r)) (gap last [])
def pool (es : List (Nat × CpInfo)) (last : Nat) : Array CpInfo := ⟨poolList es last⟩
def fileOf (pool : Array CpInfo) (this : Nat) (attrs : Array Attribute := #[]) (ms : Array MethodInfo := #[]) (fl : Nat := 33) (sup : Nat := 0) (ifs : Array Nat := #[]) (fds : Array FieldInfo := #[]) : ClassFile where
  minorVersion := 0
  majorVersion := 65
  constantPool := pool
  accessFlags := fl
  thisClass := this
  superClass := sup
  interfaces := ifs
  fields := fds
  methods := ms
  attributes := attrs
def plain (name : String) (sup : Option ClassId) : Class where
  name := name
  kind := .ordinary
  loader := none
  accessFlags := 33
  super := sup
  interfaces := #[]
  cf := none
  fields := #[]
  methods := #[]
  instanceTypes := #[]
  staticTypes := #[]
  resolved := #[]
  callSites := []
  init := .initialized
  statics := none
  mirror := none

def pool0 : Array CpInfo := pool [(5, u "<init>"), (0, u "()V"), (1, .class_ 10), (1, u "java/lang/Object")] 113

def k0m0 : Method := { name := "<init>", desc := "()V", sig := { parameters := [], returnType := none }, accessFlags := 1, code := none }
/-- java/lang/Object -/
def k0 : Class := { plain "java/lang/Object" none with
  accessFlags := 33
  interfaces := #[]
  cf := some (fileOf pool0 8 #[] #[{ accessFlags := 1, nameIndex := 5, descriptorIndex := 6, attributes := #[] }] 33 0 #[] #[])
  fields := #[]
  methods := #[k0m0]
  instanceTypes := #[]
  staticTypes := #[]
  resolved := Array.replicate 124 none
  statics := none }

def pool1 : Array CpInfo := pool [(2, .class_ 4), (1, u "java/lang/Object"), (0, u "<init>"), (0, u "()V"), (0, .class_ 8), (0, u "com/example/billwright/billwright/CostDetail"), (0, .fieldref 7 10), (0, .nameAndType 11 12), (0, u "WORK_ORDER"), (0, u "Lcom/example/billwright/billwright/CostDetail;"), (0, .fieldref 7 14), (0, .nameAndType 15 12), (0, u "WORK_ORDER_CLASS"), (0, .fieldref 7 17), (0, .nameAndType 18 12), (0, u "CONTRACT"), (0, .fieldref 7 20), (0, .nameAndType 21 12), (0, u "PARENT_CONTRACT"), (0, .fieldref 7 23), (0, .nameAndType 24 12), (0, u "BUSINESS_UNIT_CLASS"), (0, .fieldref 7 26), (0, .nameAndType 27 12), (0, u "COMPANY"), (0, .fieldref 7 29), (0, .nameAndType 30 12), (0, u "DOCUMENT_TYPE"), (0, .fieldref 7 32), (0, .nameAndType 33 12), (0, u "TAX_AREA"), (0, .fieldref 7 35), (0, .nameAndType 36 12), (0, u "EMPLOYEE"), (0, .fieldref 7 38), (0, .nameAndType 39 12), (0, u "JOB_STEP"), (0, .fieldref 7 41), (0, .nameAndType 42 12), (0, u "JOB_TYPE"), (0, .fieldref 7 44), (0, .nameAndType 45 12), (0, u "PAY_TYPE"), (0, .fieldref 7 47), (0, .nameAndType 48 12), (0, u "HOME_BUSINESS_UNIT"), (0, .fieldref 7 50), (0, .nameAndType 51 12), (0, u "COST_POOL"), (0, .fieldref 7 53), (0, .nameAndType 54 12), (0, u "EQUIPMENT"), (0, .fieldref 7 56), (0, .nameAndType 57 12), (0, u "RATE_GROUP"), (0, .fieldref 7 59), (0, .nameAndType 60 12), (0, u "RATE_CODE"), (0, .integer 2147483647), (0, .methodref 7 63), (0, .nameAndType 64 65), (0, u "ruleField"), (0, u "()Z"), (0, .class_ 67), (0, u "com/example/billwright/billwright/CostDetailRuleFieldPinLaw"), (2, u "law"), (0, u "(I)Z")] 5

def k1m0 : Method := { name := "<init>", desc := "()V", sig := { parameters := [], returnType := none }, accessFlags := 1, code := none }
def k1c1 : Code := { maxStack := 4, maxLocals := 4, code := code, exceptionTable := #[], attributes := #[] }
def k1m1 : Method := { name := "law", desc := "(I)Z", sig := { parameters := [.int], returnType := some .boolean }, accessFlags := 9, code := some k1c1 }
/-- com/example/billwright/billwright/CostDetailRuleFieldPinLaw -/
def k1 : Class := { plain "com/example/billwright/billwright/CostDetailRuleFieldPinLaw" (some 0) with
  accessFlags := 49
  interfaces := #[]
  cf := some (fileOf pool1 66 #[] #[{ accessFlags := 1, nameIndex := 5, descriptorIndex := 6, attributes := #[] }, { accessFlags := 9, nameIndex := 70, descriptorIndex := 71, attributes := #[] }] 49 2 #[] #[])
  fields := #[]
  methods := #[k1m0, k1m1]
  instanceTypes := #[]
  staticTypes := #[]
  resolved := Array.replicate 77 none
  statics := none }

def pool2 : Array CpInfo := pool [(1, .class_ 2), (0, u "java/lang/constant/Constable"), (0, .class_ 4), (0, u "java/lang/Object")] 6

/-- java/lang/constant/Constable -/
def k2 : Class := { plain "java/lang/constant/Constable" (some 0) with
  accessFlags := 1537
  interfaces := #[]
  cf := some (fileOf pool2 1 #[] #[] 1537 3 #[] #[])
  fields := #[]
  methods := #[]
  instanceTypes := #[]
  staticTypes := #[]
  resolved := Array.replicate 11 none
  statics := none }

def pool3 : Array CpInfo := pool [(1, .class_ 2), (0, u "java/lang/Comparable"), (0, .class_ 4), (0, u "java/lang/Object")] 7

/-- java/lang/Comparable -/
def k3 : Class := { plain "java/lang/Comparable" (some 0) with
  accessFlags := 1537
  interfaces := #[]
  cf := some (fileOf pool3 1 #[] #[] 1537 3 #[] #[])
  fields := #[]
  methods := #[]
  instanceTypes := #[]
  staticTypes := #[]
  resolved := Array.replicate 12 none
  statics := none }

def pool4 : Array CpInfo := pool [(1, .class_ 2), (0, u "java/io/Serializable"), (0, .class_ 4), (0, u "java/lang/Object")] 2

/-- java/io/Serializable -/
def k4 : Class := { plain "java/io/Serializable" (some 0) with
  accessFlags := 1537
  interfaces := #[]
  cf := some (fileOf pool4 1 #[] #[] 1537 3 #[] #[])
  fields := #[]
  methods := #[]
  instanceTypes := #[]
  staticTypes := #[]
  resolved := Array.replicate 7 none
  statics := none }

def pool5 : Array CpInfo := pool [(2, .class_ 4), (1, u "java/lang/Enum"), (0, u "name"), (0, u "Ljava/lang/String;"), (2, u "ordinal"), (0, u "I"), (1, .class_ 14), (1, u "java/lang/Object"), (4, u "hash"), (86, .class_ 108), (1, u "java/lang/Enum$EnumDesc"), (2, .class_ 112), (0, u "java/lang/constant/Constable"), (0, .class_ 114), (0, u "java/lang/Comparable"), (0, .class_ 116), (0, u "java/io/Serializable")] 87

/-- java/lang/Enum -/
def k5 : Class := { plain "java/lang/Enum" (some 0) with
  accessFlags := 1057
  interfaces := #[2, 3, 4]
  cf := some (fileOf pool5 2 #[.nestMembers #[106]] #[] 1057 12 #[111, 113, 115] #[{ accessFlags := 18, nameIndex := 5, descriptorIndex := 6, attributes := #[] }, { accessFlags := 18, nameIndex := 9, descriptorIndex := 10, attributes := #[] }, { accessFlags := 2, nameIndex := 19, descriptorIndex := 10, attributes := #[] }])
  fields := #[{ name := "name", type := (.object "java/lang/String"), accessFlags := 18, slot := 0, constantValue := 0 }, { name := "ordinal", type := .int, accessFlags := 18, slot := 1, constantValue := 0 }, { name := "hash", type := .int, accessFlags := 2, slot := 2, constantValue := 0 }]
  methods := #[]
  instanceTypes := #[(.object "java/lang/String"), .int, .int]
  staticTypes := #[]
  resolved := Array.replicate 204 none
  statics := none }

def pool6 : Array CpInfo := pool [(1, .class_ 2), (0, u "com/example/billwright/billwright/CostDetail"), (2, u "WORK_ORDER"), (0, u "Lcom/example/billwright/billwright/CostDetail;"), (2, u "WORK_ORDER_CLASS"), (2, u "CONTRACT"), (2, u "PARENT_CONTRACT"), (2, u "BUSINESS_UNIT_CLASS"), (2, u "COMPANY"), (2, u "DOCUMENT_TYPE"), (2, u "TAX_AREA"), (2, u "EMPLOYEE"), (2, u "JOB_STEP"), (2, u "JOB_TYPE"), (2, u "PAY_TYPE"), (2, u "HOME_BUSINESS_UNIT"), (2, u "COST_POOL"), (2, u "EQUIPMENT"), (2, u "RATE_GROUP"), (2, u "RATE_CODE"), (2, u "$VALUES"), (0, u "[Lcom/example/billwright/billwright/CostDetail;"), (6, .class_ 67), (1, u "java/lang/Enum"), (8, u "column"), (0, u "Ljava/lang/String;"), (0, .fieldref 1 79), (0, .nameAndType 80 81), (0, u "letter"), (0, u "C"), (9, u "ruleField"), (0, u "()Z"), (66, u "NONE")] 33

def k6c0 : Code := { maxStack := 1, maxLocals := 1, code := prog_20_method_6_code, exceptionTable := #[], attributes := #[] }
def k6m0 : Method := { name := "ruleField", desc := "()Z", sig := { parameters := [], returnType := some .boolean }, accessFlags := 0, code := some k6c0 }
/-- com/example/billwright/billwright/CostDetail -/
def k6 : Class := { plain "com/example/billwright/billwright/CostDetail" (some 5) with
  accessFlags := 16432
  interfaces := #[]
  cf := some (fileOf pool6 1 #[] #[{ accessFlags := 0, nameIndex := 91, descriptorIndex := 92, attributes := #[] }] 16432 65 #[] #[{ accessFlags := 16409, nameIndex := 5, descriptorIndex := 6, attributes := #[] }, { accessFlags := 16409, nameIndex := 9, descriptorIndex := 6, attributes := #[] }, { accessFlags := 16409, nameIndex := 12, descriptorIndex := 6, attributes := #[] }, { accessFlags := 16409, nameIndex := 15, descriptorIndex := 6, attributes := #[] }, { accessFlags := 16409, nameIndex := 18, descriptorIndex := 6, attributes := #[] }, { accessFlags := 16409, nameIndex := 21, descriptorIndex := 6, attributes := #[] }, { accessFlags := 16409, nameIndex := 24, descriptorIndex := 6, attributes := #[] }, { accessFlags := 16409, nameIndex := 27, descriptorIndex := 6, attributes := #[] }, { accessFlags := 16409, nameIndex := 30, descriptorIndex := 6, attributes := #[] }, { accessFlags := 16409, nameIndex := 33, descriptorIndex := 6, attributes := #[] }, { accessFlags := 16409, nameIndex := 36, descriptorIndex := 6, attributes := #[] }, { accessFlags := 16409, nameIndex := 39, descriptorIndex := 6, attributes := #[] }, { accessFlags := 16409, nameIndex := 42, descriptorIndex := 6, attributes := #[] }, { accessFlags := 16409, nameIndex := 45, descriptorIndex := 6, attributes := #[] }, { accessFlags := 16409, nameIndex := 48, descriptorIndex := 6, attributes := #[] }, { accessFlags := 16409, nameIndex := 51, descriptorIndex := 6, attributes := #[] }, { accessFlags := 16409, nameIndex := 54, descriptorIndex := 6, attributes := #[] }, { accessFlags := 26, nameIndex := 159, descriptorIndex := 81, attributes := #[] }, { accessFlags := 18, nameIndex := 76, descriptorIndex := 77, attributes := #[] }, { accessFlags := 18, nameIndex := 80, descriptorIndex := 81, attributes := #[] }, { accessFlags := 4122, nameIndex := 57, descriptorIndex := 58, attributes := #[] }])
  fields := #[{ name := "WORK_ORDER", type := (.object "com/example/billwright/billwright/CostDetail"), accessFlags := 16409, slot := 0, constantValue := 0 }, { name := "WORK_ORDER_CLASS", type := (.object "com/example/billwright/billwright/CostDetail"), accessFlags := 16409, slot := 1, constantValue := 0 }, { name := "CONTRACT", type := (.object "com/example/billwright/billwright/CostDetail"), accessFlags := 16409, slot := 2, constantValue := 0 }, { name := "PARENT_CONTRACT", type := (.object "com/example/billwright/billwright/CostDetail"), accessFlags := 16409, slot := 3, constantValue := 0 }, { name := "BUSINESS_UNIT_CLASS", type := (.object "com/example/billwright/billwright/CostDetail"), accessFlags := 16409, slot := 4, constantValue := 0 }, { name := "COMPANY", type := (.object "com/example/billwright/billwright/CostDetail"), accessFlags := 16409, slot := 5, constantValue := 0 }, { name := "DOCUMENT_TYPE", type := (.object "com/example/billwright/billwright/CostDetail"), accessFlags := 16409, slot := 6, constantValue := 0 }, { name := "TAX_AREA", type := (.object "com/example/billwright/billwright/CostDetail"), accessFlags := 16409, slot := 7, constantValue := 0 }, { name := "EMPLOYEE", type := (.object "com/example/billwright/billwright/CostDetail"), accessFlags := 16409, slot := 8, constantValue := 0 }, { name := "JOB_STEP", type := (.object "com/example/billwright/billwright/CostDetail"), accessFlags := 16409, slot := 9, constantValue := 0 }, { name := "JOB_TYPE", type := (.object "com/example/billwright/billwright/CostDetail"), accessFlags := 16409, slot := 10, constantValue := 0 }, { name := "PAY_TYPE", type := (.object "com/example/billwright/billwright/CostDetail"), accessFlags := 16409, slot := 11, constantValue := 0 }, { name := "HOME_BUSINESS_UNIT", type := (.object "com/example/billwright/billwright/CostDetail"), accessFlags := 16409, slot := 12, constantValue := 0 }, { name := "COST_POOL", type := (.object "com/example/billwright/billwright/CostDetail"), accessFlags := 16409, slot := 13, constantValue := 0 }, { name := "EQUIPMENT", type := (.object "com/example/billwright/billwright/CostDetail"), accessFlags := 16409, slot := 14, constantValue := 0 }, { name := "RATE_GROUP", type := (.object "com/example/billwright/billwright/CostDetail"), accessFlags := 16409, slot := 15, constantValue := 0 }, { name := "RATE_CODE", type := (.object "com/example/billwright/billwright/CostDetail"), accessFlags := 16409, slot := 16, constantValue := 0 }, { name := "NONE", type := .char, accessFlags := 26, slot := 17, constantValue := 0 }, { name := "column", type := (.object "java/lang/String"), accessFlags := 18, slot := 3, constantValue := 0 }, { name := "letter", type := .char, accessFlags := 18, slot := 4, constantValue := 0 }, { name := "$VALUES", type := (.array (.object "com/example/billwright/billwright/CostDetail")), accessFlags := 4122, slot := 18, constantValue := 0 }]
  methods := #[k6m0]
  instanceTypes := #[(.object "java/lang/String"), .int, .int, (.object "java/lang/String"), .char]
  staticTypes := #[(.object "com/example/billwright/billwright/CostDetail"), (.object "com/example/billwright/billwright/CostDetail"), (.object "com/example/billwright/billwright/CostDetail"), (.object "com/example/billwright/billwright/CostDetail"), (.object "com/example/billwright/billwright/CostDetail"), (.object "com/example/billwright/billwright/CostDetail"), (.object "com/example/billwright/billwright/CostDetail"), (.object "com/example/billwright/billwright/CostDetail"), (.object "com/example/billwright/billwright/CostDetail"), (.object "com/example/billwright/billwright/CostDetail"), (.object "com/example/billwright/billwright/CostDetail"), (.object "com/example/billwright/billwright/CostDetail"), (.object "com/example/billwright/billwright/CostDetail"), (.object "com/example/billwright/billwright/CostDetail"), (.object "com/example/billwright/billwright/CostDetail"), (.object "com/example/billwright/billwright/CostDetail"), (.object "com/example/billwright/billwright/CostDetail"), .char, (.array (.object "com/example/billwright/billwright/CostDetail"))]
  resolved := Array.replicate 193 none
  statics := some 0 }

def pool7 : Array CpInfo := pool [(1, u "java/lang/Cloneable"), (0, .class_ 1), (0, u "java/lang/Object"), (0, .class_ 3)] 3

/-- java/lang/Cloneable -/
def k7 : Class := { plain "java/lang/Cloneable" (some 0) with
  accessFlags := 1537
  interfaces := #[]
  cf := some (fileOf pool7 2 #[] #[] 1537 4 #[] #[])
  fields := #[]
  methods := #[]
  instanceTypes := #[]
  staticTypes := #[]
  resolved := Array.replicate 8 none
  statics := none }

/-- the primitive byte -/
def k8 : Class := { plain "byte" none with kind := .primitive 'B', accessFlags := 0x411 }
/-- [B -/
def k9 : Class := { plain "[B" (some 0) with kind := .array 8 .byte, interfaces := #[7, 4], accessFlags := 1041 }

/-- the primitive int -/
def k10 : Class := { plain "int" none with kind := .primitive 'I', accessFlags := 0x411 }
/-- [I -/
def k11 : Class := { plain "[I" (some 0) with kind := .array 10 .int, interfaces := #[7, 4], accessFlags := 1041 }

/-- [Lcom/example/billwright/billwright/CostDetail; -/
def k12 : Class := { plain "[Lcom/example/billwright/billwright/CostDetail;" (some 0) with kind := .array 6 (.object "com/example/billwright/billwright/CostDetail"), interfaces := #[7, 4], accessFlags := 1041 }

def heap : Heap := #[{ cls := 6, slots := #[.ref 1, .ref 2, .ref 3, .ref 4, .ref 5, .ref 6, .ref 7, .ref 8, .ref 9, .ref 10, .ref 11, .ref 12, .ref 13, .ref 14, .ref 15, .ref 16, .ref 17, .int 0, .null], vm := .statics 6 },
  { cls := 6, slots := #[.null, .int 0, .int 0, .null, .int 0], vm := .none },
  { cls := 6, slots := #[.null, .int 0, .int 0, .null, .int 0], vm := .none },
  { cls := 6, slots := #[.null, .int 0, .int 0, .null, .int 0], vm := .none },
  { cls := 6, slots := #[.null, .int 0, .int 0, .null, .int 0], vm := .none },
  { cls := 6, slots := #[.null, .int 0, .int 0, .null, .int 0], vm := .none },
  { cls := 6, slots := #[.null, .int 0, .int 0, .null, .int 0], vm := .none },
  { cls := 6, slots := #[.null, .int 0, .int 0, .null, .int 0], vm := .none },
  { cls := 6, slots := #[.null, .int 0, .int 0, .null, .int 0], vm := .none },
  { cls := 6, slots := #[.null, .int 0, .int 0, .null, .int 69], vm := .none },
  { cls := 6, slots := #[.null, .int 0, .int 0, .null, .int 83], vm := .none },
  { cls := 6, slots := #[.null, .int 0, .int 0, .null, .int 84], vm := .none },
  { cls := 6, slots := #[.null, .int 0, .int 0, .null, .int 80], vm := .none },
  { cls := 6, slots := #[.null, .int 0, .int 0, .null, .int 72], vm := .none },
  { cls := 6, slots := #[.null, .int 0, .int 0, .null, .int 67], vm := .none },
  { cls := 6, slots := #[.null, .int 0, .int 0, .null, .int 81], vm := .none },
  { cls := 6, slots := #[.null, .int 0, .int 0, .null, .int 71], vm := .none },
  { cls := 6, slots := #[.null, .int 0, .int 0, .null, .int 82], vm := .none }]
def classes : Array Class := #[k0, k1, k2, k3, k4, k5, k6, k7, k8, k9, k10, k11, k12]
def interned : List (Array UInt16 × Addr) := []
def slotsUsed : Nat := 104
def theMethod : MethodId := ⟨1, 1⟩
def args0 : Array Value := #[.int 5]
def aboutOver (below : List Frame) : State where
  vm := { classes := classes, interned := interned.toArray }
  heap := heap
  slotsUsed := slotsUsed
  threads := #[{ frames := .invoking theMethod args0 :: below }]
def below0 : List Frame := [.native { method := ⟨0, 0⟩, args := #[] }]
def about1 : State := aboutOver below0
def p0 : Program := .bare "" "" ""
def e0 : Env := launch0.env 0 0 0
theorem w_frames : about1.frames = Frame.invoking theMethod args0 :: below0 := rfl
set_option maxRecDepth 65536 in
theorem w_args : argsFit about1.vm theMethod args0 = true := by decide +kernel
set_option maxRecDepth 65536 in
theorem w_heap : heapFits about1 = true := by decide +kernel
set_option maxRecDepth 65536 in
theorem w_runnable : about1.curStatus? = some .runnable := by decide +kernel
set_option maxRecDepth 65536 in
theorem w_alone : about1.alone = true := by decide +kernel
set_option maxRecDepth 65536 in
theorem w_named : about1.methodNamed? x = some theMethod := by decide +kernel
set_option maxRecDepth 65536 in
theorem w_hears : about1.hears theMethod below0 = true := by decide +kernel
set_option maxRecDepth 65536 in
theorem w_ripe : about1.ripe theMethod args0 below0 = true := by decide +kernel
theorem w_running : about1.status = .running := rfl
set_option maxRecDepth 65536 in
theorem w_room : about1.hasRoom e0.platform room_1 = true :=
  launch0.hasRoom_least _ room_1 (by decide +kernel) (by decide +kernel) (by decide +kernel) (by decide +kernel) (by decide +kernel) (by decide +kernel)
theorem allAtoms_all (ts : List Jvm.Cond) (a : Array Jvm.Value) (st : Jvm.State) : (allAtoms ts).before a st = ts.all (fun c => c.before a st) := by
  induction ts with
  | nil => rfl
  | cons c t ih =>
    show (Jvm.Cond.and c (allAtoms t)).before a st = _
    rw [Jvm.Cond.before_and, ih, List.all_cons]
def words1 : List Jvm.Cond := Jvm.Cond.code x code maxLocals ret :: tables_1
/-- a 'code' word, met by the world's own term for the bytes: nothing is compared byte by byte -/
theorem code_word {y : MethodName} {bytes : ByteArray} {mx : Nat} {rt : Option FieldType} {a : Array Value} {s : State} {m : MethodId} {meth : Method} {c : Code} (h1 : s.methodNamed? y = some m) (h2 : s.vm.method? m = some meth) (h3 : meth.code = some c) (h4 : c.code = bytes)
    (h5 : (c.maxLocals == mx && c.exceptionTable.isEmpty && decide (c.maxStack ≤ mostOperands) && decide (meth.sig.returnType = rt) && !meth.locks && decide (parseMethodDescriptor y.desc = some meth.sig)) = true) : (Jvm.Cond.code y bytes mx rt).before a s = true := by
  simp only [Bool.and_eq_true, beq_iff_eq, Bool.not_eq_true', decide_eq_true_eq] at h5
  obtain ⟨⟨⟨⟨⟨g1, g2⟩, g3⟩, g4⟩, g5⟩, g6⟩ := h5
  simp [Cond.before, Cond.holds, Cond.value, h1, h2, h3, h4, g1, g2, g3, g4, g5, g6]
def isCode : Jvm.Cond → Bool
  | .code _ _ _ _ => true
  | _ => false
theorem all_split {L : List Jvm.Cond} {P : Jvm.Cond → Bool} (h1 : L.all (fun c => isCode c || P c) = true) (h2 : ∀ c ∈ L.filter isCode, P c = true) : L.all P = true := by
  refine List.all_eq_true.mpr fun c hc => ?_
  have h := List.all_eq_true.mp h1 c hc
  rcases Bool.eq_false_or_eq_true (isCode c) with hi | hi
  · exact h2 c (List.mem_filter.mpr ⟨hc, hi⟩)
  · simpa [hi] using h
set_option maxRecDepth 65536 in
theorem w_c0 : (Jvm.Cond.code x code maxLocals ret).before args0 about1 = true := code_word (m := ⟨1, 1⟩) (meth := k1m1) (c := k1c1) (by decide +kernel) rfl rfl rfl (by decide +kernel)
set_option maxRecDepth 65536 in
theorem w_c1 : (Jvm.Cond.code ({ cls := "com/example/billwright/billwright/CostDetail", name := "ruleField", desc := "()Z" } : Jvm.MethodName) prog_20_method_6_code (1 : Nat) (Option.some Jvm.ClassFile.FieldType.boolean)).before args0 about1 = true := code_word (m := ⟨6, 0⟩) (meth := k6m0) (c := k6c0) (by decide +kernel) rfl rfl rfl (by decide +kernel)
def codes1 : List Jvm.Cond := [Jvm.Cond.code x code maxLocals ret, Jvm.Cond.code ({ cls := "com/example/billwright/billwright/CostDetail", name := "ruleField", desc := "()Z" } : Jvm.MethodName) prog_20_method_6_code (1 : Nat) (Option.some Jvm.ClassFile.FieldType.boolean)]
set_option maxRecDepth 65536 in
theorem codes_eq : words1.filter isCode = codes1 := rfl
theorem w_codes : ∀ c ∈ words1.filter isCode, c.before args0 about1 = true := by
  rw [codes_eq]
  intro c hc
  simp only [codes1, List.mem_cons, List.not_mem_nil, or_false] at hc
  rcases hc with rfl | rfl
  · exact w_c0
  · exact w_c1
set_option maxRecDepth 65536 in
theorem w_t1 : (words1.take 24).all (fun c => isCode c || c.before args0 about1) = true := by decide +kernel
set_option maxRecDepth 65536 in
theorem w_t2 : (words1.drop 24).all (fun c => isCode c || c.before args0 about1) = true := by decide +kernel
theorem w_tables : (allAtoms (Jvm.Cond.code x code maxLocals ret :: tables_1)).before args0 about1 = true := by
  rw [allAtoms_all]
  show words1.all (fun c => c.before args0 about1) = true
  refine all_split ?_ w_codes
  rw [← List.take_append_drop 24 words1, List.all_append, w_t1, w_t2]
  rfl
set_option maxRecDepth 65536 in
theorem w_case : (Jvm.Cond.and given_1 narrow_1).before args0 about1 = true := by decide +kernel
theorem w_applies : (headSpec (Jvm.Cond.code x code maxLocals ret :: tables_1) room_1).applies x e0.platform about1 = true :=
  (Spec.applies_iff w_frames).mpr ⟨w_running, w_runnable, w_alone, w_named, w_hears, w_ripe, w_room, w_tables⟩
theorem atStart : AtStart classFile x code maxLocals ret World_1 tables_1 room_1 Calls_1 rest_1 Pre_1 launch0 p0 e0 about1 theMethod args0 below0 :=
  ⟨lists_1, trivial, launch0.admits_env _ _ _, launch0.least_env, fairChoices_fair.cas, fairChoices_fair.clock, w_frames, w_args, w_heap, w_applies, trivial, trivial, w_case⟩
end start1
theorem witness_1 : WitnessClaimed_1 := ⟨start1.p0, start1.e0, start1.about1, start1.theMethod, start1.args0, start1.below0, start1.atStart⟩
end Jvm.Pilot.@@N@@
