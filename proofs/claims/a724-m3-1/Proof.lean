import JvmDerived
import JvmDerived.Pilot.@@N@@Statement
import JvmDerived.Pilot.@@N@@Code
set_option linter.unusedVariables false
set_option linter.unusedSimpArgs false
namespace Jvm.Pilot.@@N@@
open Jvm Jvm.ClassFile Sem Op Lib Jvm.Free Jvm.Stand Jvm.LawKit Jvm.RoadKit Bundle Jvm.Pilot.@@N@@.Jvm.D
/-! GoKit: a walk told forwards. Go: from this frame on the method comes to its end as Q says; Does: what a call of a method does (over the library's MetFree). -/
section GoKit
variable {p : Program} {l : Launch} {e : Env} {R : Room} {s : State} {m : MethodId} {args : Array Value} {below : List Frame} {meth : Method} {c : Code} {T T' : State} {locs : List Loc} {cells slots : Nat} {Z : State} {a0 : Array Value} {h : Heap} {g g' : JFrame} {Q : Outcome → State → Prop}
def Go (p : Program) (e : Env) (below : List Frame) (Q : Outcome → State → Prop) (T : State) (g : JFrame) : Prop :=
  ∃ s₂ o, Steps p.tables e below (T.setTop g) s₂ ∧ s₂.status = .running ∧ Ended s₂ below o ∧ Q o s₂
theorem Go.st (k : ∀ target, Steps p.tables e below (T'.setTop g') target → Steps p.tables e below (T.setTop g) target) (H : Go p e below Q T' g') : Go p e below Q T g := by
  obtain ⟨s₂, o, h1, r⟩ := H; exact ⟨s₂, o, k _ h1, r⟩
theorem Go.eq (q : g = g') (H : Go p e below Q T g') : Go p e below Q T g := q ▸ H
def Ends (s : State) (k n : Nat) (P : Option Value → Heap → List Loc → Prop) : Outcome → State → Prop :=
  fun o U' => ∃ v L, o = .returned v ∧ P v U'.heap L ∧ FrameEnd s o U' L k n
theorem Go.ret (X : Stand p l e R s m args below meth c T locs cells slots) (hx : p.tables.exec = Jvm.exec) (hlk : meth.locks = false) {pc : Nat} {Ls : Array Slot} {w : Value} {t : FieldType} {i : Instr} {rest : List Value} {P : Option Value → Heap → List Loc → Prop} {k n : Nat}
    (hret : meth.sig.returnType = some t) (hn : narrow t w = w)
    (hi : (i = .ireturn ∧ (t = .int ∨ t = .boolean ∨ t = .byte ∨ t = .char ∨ t = .short) ∧ ∃ z, w = .int z) ∨ (i = .lreturn ∧ t = .long ∧ ∃ z, w = .long z) ∨ (i = .dreturn ∧ t = .double ∧ ∃ z, w = .double z) ∨ (i = .freturn ∧ t = .float ∧ ∃ z, w = .float z) ∨ (i = .areturn ∧ t.isReference = true ∧ w.isRef = true))
    (hd : decode c.code pc = .ok (i, 1)) (hk : cells ≤ k) (hs : slots ≤ n) (hP : P (some w) T.heap locs) : Go p e below (Ends s k n P) T (mkF m pc Ls (w :: rest)) := by
  obtain ⟨fs, hr, hrun, hended, hW, hsame⟩ := X.leave (v := some w) (fun h => by rw [hret] at h; cases h) hlk
  exact ⟨_, _, retOut X hx hret hn hi hd hr, hrun, hended, _, _, rfl, hP, ⟨_, rfl⟩, hW, hsame.mono hk hs⟩
theorem Go.retV (X : Stand p l e R s m args below meth c T locs cells slots) (hx : p.tables.exec = Jvm.exec) (hlk : meth.locks = false) {pc : Nat} {Ls : Array Slot} {P : Option Value → Heap → List Loc → Prop} {k n : Nat}
    (hret : meth.sig.returnType = none) (hd : decode c.code pc = .ok (.return_, 1)) (hk : cells ≤ k) (hs : slots ≤ n) (hP : P none T.heap locs) : Go p e below (Ends s k n P) T (mkF m pc Ls []) := by
  obtain ⟨fs, hr, hrun, hended, hW, hsame⟩ := X.leave (v := none) (fun _ => rfl) hlk
  exact ⟨_, _, X.returnOut hx hret hd hr, hrun, hended, _, _, rfl, hP, ⟨_, rfl⟩, hW, hsame.mono hk hs⟩
theorem Go.retZ (X : Stand p l e R s m args below meth c T locs cells slots) (hx : p.tables.exec = Jvm.exec) (hlk : meth.locks = false) {pc : Nat} {Ls : Array Slot} {z : Int32} {rest : List Value} {P : Option Value → Heap → List Loc → Prop} {k n : Nat}
    (hret : meth.sig.returnType = some .boolean) (hn : narrow .boolean (.int z) = .int z) (hd : decode c.code pc = .ok (.ireturn, 1)) (hk : cells ≤ k) (hs : slots ≤ n) (hP : P (some (.int z)) T.heap locs) : Go p e below (Ends s k n P) T (mkF m pc Ls (.int z :: rest)) :=
  Go.ret X hx hlk hret hn (Or.inl ⟨rfl, Or.inr (Or.inl rfl), z, rfl⟩) hd hk hs hP
theorem Go.retC (X : Stand p l e R s m args below meth c T locs cells slots) (hx : p.tables.exec = Jvm.exec) (hlk : meth.locks = false) {pc : Nat} {Ls : Array Slot} {z : Int32} {rest : List Value} {P : Option Value → Heap → List Loc → Prop} {k n : Nat}
    (hret : meth.sig.returnType = some .char) (hn : narrow .char (.int z) = .int z) (hd : decode c.code pc = .ok (.ireturn, 1)) (hk : cells ≤ k) (hs : slots ≤ n) (hP : P (some (.int z)) T.heap locs) : Go p e below (Ends s k n P) T (mkF m pc Ls (.int z :: rest)) :=
  Go.ret X hx hlk hret hn (Or.inl ⟨rfl, Or.inr (Or.inr (Or.inr (Or.inl rfl))), z, rfl⟩) hd hk hs hP
theorem Go.retI (X : Stand p l e R s m args below meth c T locs cells slots) (hx : p.tables.exec = Jvm.exec) (hlk : meth.locks = false) {pc : Nat} {Ls : Array Slot} {z : Int32} {rest : List Value} {P : Option Value → Heap → List Loc → Prop} {k n : Nat}
    (hret : meth.sig.returnType = some .int) (hd : decode c.code pc = .ok (.ireturn, 1)) (hk : cells ≤ k) (hs : slots ≤ n) (hP : P (some (.int z)) T.heap locs) : Go p e below (Ends s k n P) T (mkF m pc Ls (.int z :: rest)) :=
  Go.ret X hx hlk hret rfl (Or.inl ⟨rfl, Or.inl rfl, z, rfl⟩) hd hk hs hP
theorem Go.retJ (X : Stand p l e R s m args below meth c T locs cells slots) (hx : p.tables.exec = Jvm.exec) (hlk : meth.locks = false) {pc : Nat} {Ls : Array Slot} {z : Int64} {rest : List Value} {P : Option Value → Heap → List Loc → Prop} {k n : Nat}
    (hret : meth.sig.returnType = some .long) (hd : decode c.code pc = .ok (.lreturn, 1)) (hk : cells ≤ k) (hs : slots ≤ n) (hP : P (some (.long z)) T.heap locs) : Go p e below (Ends s k n P) T (mkF m pc Ls (.long z :: rest)) :=
  Go.ret X hx hlk hret rfl (Or.inr (Or.inl ⟨rfl, rfl, z, rfl⟩)) hd hk hs hP
theorem Go.retA (X : Stand p l e R s m args below meth c T locs cells slots) (hx : p.tables.exec = Jvm.exec) (hlk : meth.locks = false) {pc : Nat} {Ls : Array Slot} {w : Value} {t : FieldType} {rest : List Value} {P : Option Value → Heap → List Loc → Prop} {k n : Nat}
    (hret : meth.sig.returnType = some t) (ht : t.isReference = true) (hw : w.isRef = true) (hn : narrow t w = w) (hd : decode c.code pc = .ok (.areturn, 1)) (hk : cells ≤ k) (hs : slots ≤ n) (hP : P (some w) T.heap locs) : Go p e below (Ends s k n P) T (mkF m pc Ls (w :: rest)) :=
  Go.ret X hx hlk hret hn (Or.inr (Or.inr (Or.inr (Or.inr ⟨rfl, ht, hw⟩)))) hd hk hs hP
/-- what a call does: the arguments, the heap before, and P: what it returns, the heap behind, the places written -/
def Does (l : Launch) (Z : State) (y : MethodName) (bytes : ByteArray) (maxL : Nat) (ret : Option FieldType) (ws : List Jvm.Cond) (rm : Room) (as' : Array Value) (h : Heap) (P : Option Value → Heap → List Loc → Prop) : Prop :=
  MetFree l y (head1 (Jvm.Cond.code y bytes maxL ret :: ws) rm) (fun a U => a = as' ∧ Z.Warmed39 U.vm ∧ U.heap = h) (fun _ _ _ _ _ => True) (fun _ U o U' => ∃ v L, o = .returned v ∧ P v U'.heap L ∧ FrameEnd U o U' L rm.cells rm.slots)
theorem Does.intro {y : MethodName} {bytes : ByteArray} {maxL : Nat} {ret : Option FieldType} {ws : List Jvm.Cond} {rm : Room} {as' : Array Value} {P : Option Value → Heap → List Loc → Prop} {Ls : Array Slot} (hpn : plainName y.cls = true) (hef : ∀ m, entryFrame m as' maxL = mkF m 0 Ls [])
    (body : ∀ (p : Program) (e : Env) (s : State) (m : MethodId) (below : List Frame) (meth : Method) (c : Code) (s₁ : State), p.tables.exec = Jvm.exec → c.code = bytes → c.maxLocals = maxL → s.vm.findClass y.cls = some m.cls → meth.name = y.name → meth.sig.returnType = ret → meth.locks = false →
      Z.Warmed39 s.vm → s₁.heap = h → Stand p l e rm s m as' below meth c s₁ [] 0 0 → Go p e below (Ends s rm.cells rm.slots P) s₁ (mkF m 0 Ls [])) : Does l Z y bytes maxL ret ws rm as' h P := by
  refine MetFree.of_bodySF (plainFor_of_name hpn) hisR ?_
  intro p e s m args below meth c s₁ Bd hml0 hP hK
  obtain ⟨rfl, hZ, hh⟩ := hP
  have := body p e s m below meth c s₁ Bd.exec Bd.bytes hml0 (findClass_of_methodNamed Bd.named) (name_of_methodNamed Bd.named Bd.method).1 Bd.returns Bd.notSynchronized hZ (by rw [← hh, Bd.state]; rfl) (Stand.of_body Bd)
  obtain ⟨s₂, o, h1, h2, h3, h4⟩ := this
  exact ⟨s₂, o, castTop (hef m) h1, h2, h3, h4⟩
theorem Does.mono {y : MethodName} {bytes : ByteArray} {maxL : Nat} {ret : Option FieldType} {ws : List Jvm.Cond} {rm : Room} {as' : Array Value} {P P' : Option Value → Heap → List Loc → Prop} (D : Does l Z y bytes maxL ret ws rm as' h P) (q : ∀ v h' L, P v h' L → P' v h' L) : Does l Z y bytes maxL ret ws rm as' h P' := by
  intro p e ha hc hk s m args below hf happ hP hK
  obtain ⟨n, o, h1, h2, h3, v, L, h4, h5, h6⟩ := D p e ha hc hk s m args below hf happ hP hK
  exact ⟨n, o, h1, h2, h3, v, L, h4, q _ _ _ h5, h6⟩
theorem Does.static {y : MethodName} {bytes : ByteArray} {maxL : Nat} {ret : Option FieldType} {rm : Room} {P : Option Value → Heap → List Loc → Prop} {own : String} {index : Nat} {argsL rest : List Value} (D : Does l Z y bytes maxL ret [] rm argsL.toArray h P)
    (X : Stand p l e R s m args below meth c T locs cells slots) (hx : p.tables.exec = Jvm.exec) (hZ : Z.Warmed39 s.vm) (hown : s.vm.findClass own = some m.cls) (eT : T.heap = h) (w1 : (Cond.methodLink own index y).before a0 Z = true) (w2 : (Cond.static y).before a0 Z = true) (w3 : (Cond.initialized y.cls).before a0 Z = true) (w4 : (Cond.code y bytes maxL ret).before a0 Z = true)
    (hy : y.cls ≠ "java/lang/invoke/MethodHandle" ∧ y.cls ≠ "java/lang/invoke/VarHandle") (hg : g.method = m) (hsize : g.locals.size = c.maxLocals) (hlen : ∀ sig, parseMethodDescriptor y.desc = some sig → argsL.length = sig.parameters.length)
    (hstack : g.stack = argsL.reverse ++ rest) (hd : decode c.code g.pc = .ok (.invokestatic index, 3)) {W : Nat} (hW : 2 * g.monitorRoom + (rest.map fun v => v.category).sum ≤ W) (hf : rm.frames + 1 ≤ R.frames) (hl : W + (maxL + 11) + rm.locals ≤ R.locals) (hc : cells + rm.cells ≤ R.cells) (hs : slots + rm.slots ≤ R.slots) :
    ∃ v T' L, Stand p l e R s m args below meth c T' (locs ++ L) (cells + rm.cells) (slots + rm.slots) ∧ P v T'.heap L ∧ ∀ target, Steps p.tables e below (T'.setTop { g with pc := g.pc + 3, stack := v.toList ++ rest }) target → Steps p.tables e below (T.setTop g) target := by
  obtain ⟨v, vm₁, ⟨T', L', k', n'⟩, -, X', ⟨L, hQ, q1, q2, q3⟩, st⟩ := Jvm.LawKit.callS X hx (y := y) hown (mvT hZ w1) (mvT hZ w2) (mvT hZ w3) (mvT hZ w4) hy (backOf (W := W) D hZ w4 w3 hf hl) hg hsize (argsL := argsL) (rest := rest) hlen hstack hW hd (fun _ _ => ⟨rfl, eT, hc, hs⟩)
  dsimp only [Pt.U, Pt.locs, Pt.cells, Pt.slots] at X' q1 q2 q3 st hQ
  subst q1 q2 q3
  exact ⟨v, T', L, X', hQ, st⟩
theorem Does.special {y : MethodName} {bytes : ByteArray} {maxL : Nat} {rm : Room} {P : Option Value → Heap → List Loc → Prop} {own : String} {index : Nat} {a : Addr} {argsL rest : List Value} (D : Does l Z y bytes maxL none [] rm (.ref a :: argsL).toArray h P)
    (X : Stand p l e R s m args below meth c T locs cells slots) (hx : p.tables.exec = Jvm.exec) (hZ : Z.Warmed39 s.vm) (hown : s.vm.findClass own = some m.cls) (eT : T.heap = h) (hnm : y.name = "<init>") (w1 : (Cond.methodLink own index y).before a0 Z = true) (w2 : (Cond.instanceMethod y).before a0 Z = true) (w3 : (Cond.initialized y.cls).before a0 Z = true) (w4 : (Cond.code y bytes maxL none).before a0 Z = true)
    (hy : y.cls ≠ "java/lang/invoke/MethodHandle" ∧ y.cls ≠ "java/lang/invoke/VarHandle") (hg : g.method = m) (hsize : g.locals.size = c.maxLocals) (hlen : ∀ sig, parseMethodDescriptor y.desc = some sig → argsL.length = sig.parameters.length)
    (hstack : g.stack = argsL.reverse ++ .ref a :: rest) (hd : decode c.code g.pc = .ok (.invokespecial index, 3)) {W : Nat} (hW : 2 * g.monitorRoom + (rest.map fun v => v.category).sum ≤ W) (hf : rm.frames + 1 ≤ R.frames) (hl : W + (maxL + 11) + rm.locals ≤ R.locals) (hc : cells + rm.cells ≤ R.cells) (hs : slots + rm.slots ≤ R.slots) :
    ∃ v T' L, Stand p l e R s m args below meth c T' (locs ++ L) (cells + rm.cells) (slots + rm.slots) ∧ P v T'.heap L ∧ ∀ target, Steps p.tables e below (T'.setTop { g with pc := g.pc + 3, stack := v.toList ++ rest }) target → Steps p.tables e below (T.setTop g) target := by
  obtain ⟨v, vm₁, ⟨T', L', k', n'⟩, -, X', ⟨L, hQ, q1, q2, q3⟩, st⟩ := X.specialBack hx (y := y) hnm hown (mvT hZ w1) (mvT hZ w2) (mvT hZ w4) hy (backOf (W := W) D hZ w4 w3 hf hl) hg hsize (Steps.refl _) (a := a) (argsL := argsL) (rest := rest) hlen hstack hW hd (fun _ _ => ⟨rfl, eT, hc, hs⟩)
  dsimp only [Pt.U, Pt.locs, Pt.cells, Pt.slots] at X' q1 q2 q3 st hQ
  subst q1 q2 q3
  exact ⟨v, T', L, X', hQ, fun _ k => st.trans k⟩
theorem Does.virtual {y : MethodName} {bytes : ByteArray} {maxL : Nat} {ret : Option FieldType} {rm : Room} {P : Option Value → Heap → List Loc → Prop} {own C : String} {index : Nat} {a : Addr} {argsL rest : List Value} (D : Does l Z y bytes maxL ret [] rm (.ref a :: argsL).toArray h P)
    (X : Stand p l e R s m args below meth c T locs cells slots) (hx : p.tables.exec = Jvm.exec) (hZ : Z.Warmed39 s.vm) (hown : s.vm.findClass own = some m.cls) (eT : T.heap = h) (E : Exa Z h a C) (w1 : (Cond.methodLink own index y).before a0 Z = true) (w2 : (Cond.declares y).before a0 Z = true) (w2' : (Cond.selects C y y).before a0 Z = true) (w2'' : (Cond.instanceMethod y).before a0 Z = true) (w3 : (Cond.initialized y.cls).before a0 Z = true) (w4 : (Cond.code y bytes maxL ret).before a0 Z = true)
    (hy : y.cls ≠ "java/lang/invoke/MethodHandle" ∧ y.cls ≠ "java/lang/invoke/VarHandle") (hg : g.method = m) (hsize : g.locals.size = c.maxLocals) (hlen : ∀ sig, parseMethodDescriptor y.desc = some sig → argsL.length = sig.parameters.length)
    (hstack : g.stack = argsL.reverse ++ .ref a :: rest) (hd : decode c.code g.pc = .ok (.invokevirtual index, 3)) {W : Nat} (hW : 2 * g.monitorRoom + (rest.map fun v => v.category).sum ≤ W) (hf : rm.frames + 1 ≤ R.frames) (hl : W + (maxL + 11) + rm.locals ≤ R.locals) (hc : cells + rm.cells ≤ R.cells) (hs : slots + rm.slots ≤ R.slots) :
    ∃ v T' L, Stand p l e R s m args below meth c T' (locs ++ L) (cells + rm.cells) (slots + rm.slots) ∧ P v T'.heap L ∧ ∀ target, Steps p.tables e below (T'.setTop { g with pc := g.pc + 3, stack := v.toList ++ rest }) target → Steps p.tables e below (T.setTop g) target := by
  obtain ⟨cB, kB, q1, -, q3⟩ := isOf hZ eT E
  obtain ⟨v, vm₁, ⟨T', L', k', n'⟩, -, X', ⟨L, hQ, q1, q2, q3⟩, st⟩ := X.virtualBack hx (y := y) (z := y) hown (mvT hZ w1) (mvT hZ w2) (notFace_of_selects (args := #[]) (mvT hZ w2')) (mvT hZ w2') (mvT hZ w2'') hy (backOf (W := W) D hZ w4 w3 hf hl) q1 q3 hg hsize (Steps.refl _) (argsL := argsL) (rest := rest) hlen hstack hW hd (fun _ _ => ⟨rfl, eT, hc, hs⟩)
  dsimp only [Pt.U, Pt.locs, Pt.cells, Pt.slots] at X' q1 q2 q3 st hQ
  subst q1 q2 q3
  exact ⟨v, T', L, X', hQ, fun _ k => st.trans k⟩
theorem Does.virtualUp {x' z : MethodName} {owner : String} {bytes : ByteArray} {maxL : Nat} {ret : Option FieldType} {rm : Room} {P : Option Value → Heap → List Loc → Prop} {own C : String} {index : Nat} {a : Addr} {argsL rest : List Value} (D : Does l Z z bytes maxL ret [] rm (.ref a :: argsL).toArray h P)
    (X : Stand p l e R s m args below meth c T locs cells slots) (hx : p.tables.exec = Jvm.exec) (hZ : Z.Warmed39 s.vm) (hown : s.vm.findClass own = some m.cls) (eT : T.heap = h) (E : Exa Z h a C) (w1 : (Cond.methodLink own index x').before a0 Z = true) (w1' : (Cond.sameMethod x'.cls owner x'.name x'.desc).before a0 Z = true) (w2 : (Cond.declares ⟨owner, x'.name, x'.desc⟩).before a0 Z = true) (w2' : (Cond.selects C x' z).before a0 Z = true) (w2'' : (Cond.instanceMethod z).before a0 Z = true) (w3 : (Cond.initialized z.cls).before a0 Z = true) (w4 : (Cond.code z bytes maxL ret).before a0 Z = true)
    (hy : owner ≠ "java/lang/invoke/MethodHandle" ∧ owner ≠ "java/lang/invoke/VarHandle") (hg : g.method = m) (hsize : g.locals.size = c.maxLocals) (hlen : ∀ sig, parseMethodDescriptor x'.desc = some sig → argsL.length = sig.parameters.length)
    (hstack : g.stack = argsL.reverse ++ .ref a :: rest) (hd : decode c.code g.pc = .ok (.invokevirtual index, 3)) {W : Nat} (hW : 2 * g.monitorRoom + (rest.map fun v => v.category).sum ≤ W) (hf : rm.frames + 1 ≤ R.frames) (hl : W + (maxL + 11) + rm.locals ≤ R.locals) (hc : cells + rm.cells ≤ R.cells) (hs : slots + rm.slots ≤ R.slots) :
    ∃ v T' L, Stand p l e R s m args below meth c T' (locs ++ L) (cells + rm.cells) (slots + rm.slots) ∧ P v T'.heap L ∧ ∀ target, Steps p.tables e below (T'.setTop { g with pc := g.pc + 3, stack := v.toList ++ rest }) target → Steps p.tables e below (T.setTop g) target := by
  obtain ⟨cB, kB, q1, -, q3⟩ := isOf hZ eT E
  obtain ⟨v, vm₁, ⟨T', L', k', n'⟩, -, X', ⟨L, hQ, q1, q2, q3⟩, st⟩ := X.virtualBackUp hx (x := x') (y := z) hown (mvT hZ w1) (mvT hZ w1') (mvT hZ w2) hy (mvT hZ w2') (mvT hZ w2'') (backOf (W := W) D hZ w4 w3 hf hl) q1 q3 hg hsize (Steps.refl _) (argsL := argsL) (rest := rest) hlen hstack hW hd (fun _ _ => ⟨rfl, eT, hc, hs⟩)
  dsimp only [Pt.U, Pt.locs, Pt.cells, Pt.slots] at X' q1 q2 q3 st hQ
  subst q1 q2 q3
  exact ⟨v, T', L, X', hQ, fun _ k => st.trans k⟩
/-- a call that leaves the heap as it was and returns w -/
abbrev Val (w : Option Value) (h : Heap) : Option Value → Heap → List Loc → Prop := fun v h' L => v = w ∧ L = [] ∧ h' = h
theorem own_still {w : Option Value} {rm : Room} {rest : List Value} (hc : rm.cells = 0) (hs : rm.slots = 0)
    (H : ∃ v T' L, Stand p l e R s m args below meth c T' (locs ++ L) (cells + rm.cells) (slots + rm.slots) ∧ Val w h v T'.heap L ∧ ∀ target, Steps p.tables e below (T'.setTop { g with pc := g.pc + 3, stack := v.toList ++ rest }) target → Steps p.tables e below (T.setTop g) target) :
    ∃ T', Stand p l e R s m args below meth c T' locs cells slots ∧ T'.heap = h ∧ ∀ target, Steps p.tables e below (T'.setTop { g with pc := g.pc + 3, stack := w.toList ++ rest }) target → Steps p.tables e below (T.setTop g) target := by
  obtain ⟨v, T', L, X', ⟨rfl, rfl, e'⟩, st⟩ := H
  rw [hc, hs, List.append_nil] at X'
  exact ⟨T', X', e', st⟩
theorem own_Llt {x y : Int64} (h : x < y) : XT.cmpL x y < 0 := (lw_lt x y).mpr h
theorem own_Lnlt {x y : Int64} (h : ¬ x < y) : ¬ XT.cmpL x y < 0 := fun q => h ((lw_lt x y).mp q)
theorem own_Lgt {x y : Int64} (h : y < x) : 0 < XT.cmpL x y := (lw_gt x y).mpr h
theorem own_Lngt {x y : Int64} (h : ¬ y < x) : ¬ 0 < XT.cmpL x y := fun q => h ((lw_gt x y).mp q)
theorem own_Leq {x y : Int64} (h : x = y) : XT.cmpL x y = 0 := (lw_eq x y).mpr h
theorem own_Lneq {x y : Int64} (h : ¬ x = y) : ¬ XT.cmpL x y = 0 := fun q => h ((lw_eq x y).mp q)
theorem own_aeq {a b : Addr} (h : a = b) : XT.acmp .eq (.ref a) (.ref b) = true ∧ XT.acmp .ne (.ref a) (.ref b) = false := by subst h; exact ⟨decide_eq_true rfl, decide_eq_false (fun q => q rfl)⟩
theorem own_ane {a b : Addr} (h : ¬ a = b) : XT.acmp .eq (.ref a) (.ref b) = false ∧ XT.acmp .ne (.ref a) (.ref b) = true := ⟨decide_eq_false (fun q => h (by cases q; rfl)), decide_eq_true (fun q => h (by cases q; rfl))⟩
theorem own_ext {h0 h : Heap} (K : Keep h0 h []) : Ext h0 h := ⟨K.1, fun x c q => K.2.1 x c q nin0⟩
end GoKit
theorem own_sta {Z : State} {args : Array Value} {C f d K : String} (h : (Jvm.Cond.exactly (.static C f d) K).value args Z none Z [] = some true) (wi : (Jvm.Cond.initialized C).before args Z = true) (wl : (Jvm.Cond.laysStatic C f d).before args Z = true) :
    ∃ x, (Term.static C f d).eval args Z none [] Z = some (.ref x) ∧ Sta Z Z.heap C f d (.ref x) ∧ Exa Z Z.heap x K := by
  obtain ⟨x, ev⟩ := exa_v h
  exact ⟨x, ev, Sta.start ev (Or.inr ⟨wi, wl⟩), Exa.start ev h⟩
theorem own_fldI {Z : State} {args : Array Value} {t : Term} {O n d : String} {k : Int32} {x : Addr} (ev : t.eval args Z none [] Z = some (.ref x)) (h : (Jvm.Cond.eq (.field t O n d) (.int k)).value args Z none Z [] = some true) : Fld Z Z.heap x O n d (.int k) := by
  obtain ⟨u, v, e1, e2, k1, -⟩ := cmp_v (Or.inl h)
  have e3 : v = .int k := by simpa [Term.eval] using e2.symm
  subst e3
  obtain ⟨z, rfl⟩ : ∃ z, u = .int z := by cases u <;> simp [Kin, Value.isRef] at k1 ⊢
  have q : z = k := gotT (Cond.eq_ints e1 e2) h
  subst q
  exact Fld.start ((fld_at ev).symm.trans e1)
theorem own_nb {z : Int32} (h : z = 0 ∨ z = 1) : narrow .boolean (.int z) = .int z := by rcases h with rfl | rfl <;> rfl
theorem own_fb {z : Int32} (h : z = 0 ∨ z = 1) : fits .boolean (.int z) = true := by rcases h with rfl | rfl <;> rfl
theorem d_jdk_30_method_1_code_0 : decode jdk_30_method_1_code 0 = .ok (.aload_n 0, 1) := by decide +kernel
theorem d_jdk_30_method_1_code_1 : decode jdk_30_method_1_code 1 = .ok (.invokespecial 1, 3) := by decide +kernel
theorem d_jdk_30_method_1_code_4 : decode jdk_30_method_1_code 4 = .ok (.return_, 1) := by decide +kernel
theorem pn_java_lang_Record : plainName "java/lang/Record" = true := by first | (simp [plainName, overriddenIn]; done) | decide +kernel
theorem d_prog_16_method_1_code_0 : decode prog_16_method_1_code 0 = .ok (.aload_n 0, 1) := by decide +kernel
theorem d_prog_16_method_1_code_1 : decode prog_16_method_1_code 1 = .ok (.invokespecial 1, 3) := by decide +kernel
theorem pd_2829V : parseMethodDescriptor "()V" = some ⟨[], none⟩ := by decide +kernel
theorem d_prog_16_method_1_code_4 : decode prog_16_method_1_code 4 = .ok (.aload_n 0, 1) := by decide +kernel
theorem d_prog_16_method_1_code_5 : decode prog_16_method_1_code 5 = .ok (.iload_n 1, 1) := by decide +kernel
theorem d_prog_16_method_1_code_6 : decode prog_16_method_1_code 6 = .ok (.putfield 7, 3) := by decide +kernel
theorem d_prog_16_method_1_code_9 : decode prog_16_method_1_code 9 = .ok (.return_, 1) := by decide +kernel
theorem pn_com_example_brisk_odds_briskodds_automaton_LabelExpression_Proposition : plainName "com/example/brisk_odds/briskodds/automaton/LabelExpression$Proposition" = true := by first | (simp [plainName, overriddenIn]; done) | decide +kernel
theorem d_prog_13_method_1_code_0 : decode prog_13_method_1_code 0 = .ok (.aload_n 0, 1) := by decide +kernel
theorem d_prog_13_method_1_code_1 : decode prog_13_method_1_code 1 = .ok (.invokespecial 1, 3) := by decide +kernel
theorem d_prog_13_method_1_code_4 : decode prog_13_method_1_code 4 = .ok (.aload_n 0, 1) := by decide +kernel
theorem d_prog_13_method_1_code_5 : decode prog_13_method_1_code 5 = .ok (.iload_n 1, 1) := by decide +kernel
theorem d_prog_13_method_1_code_6 : decode prog_13_method_1_code 6 = .ok (.putfield 7, 3) := by decide +kernel
theorem d_prog_13_method_1_code_9 : decode prog_13_method_1_code 9 = .ok (.return_, 1) := by decide +kernel
theorem pn_com_example_brisk_odds_briskodds_automaton_LabelExpression_Constant : plainName "com/example/brisk_odds/briskodds/automaton/LabelExpression$Constant" = true := by first | (simp [plainName, overriddenIn]; done) | decide +kernel
theorem d_prog_16_method_3_code_0 : decode prog_16_method_3_code 0 = .ok (.iload_n 1, 1) := by decide +kernel
theorem d_prog_16_method_3_code_1 : decode prog_16_method_3_code 1 = .ok (.aload_n 0, 1) := by decide +kernel
theorem d_prog_16_method_3_code_2 : decode prog_16_method_3_code 2 = .ok (.getfield 7, 3) := by decide +kernel
theorem d_prog_16_method_3_code_5 : decode prog_16_method_3_code 5 = .ok (.if_icmp .ne 14, 3) := by decide +kernel
theorem d_prog_16_method_3_code_8 : decode prog_16_method_3_code 8 = .ok (.new 19, 3) := by decide +kernel
theorem d_prog_16_method_3_code_11 : decode prog_16_method_3_code 11 = .ok (.dup, 1) := by decide +kernel
theorem d_prog_16_method_3_code_12 : decode prog_16_method_3_code 12 = .ok (.iload_n 2, 1) := by decide +kernel
theorem d_prog_16_method_3_code_13 : decode prog_16_method_3_code 13 = .ok (.invokespecial 21, 3) := by decide +kernel
theorem pd_28Z29V : parseMethodDescriptor "(Z)V" = some ⟨[.boolean], none⟩ := by decide +kernel
theorem d_prog_16_method_3_code_16 : decode prog_16_method_3_code 16 = .ok (.goto 4, 3) := by decide +kernel
theorem d_prog_16_method_3_code_20 : decode prog_16_method_3_code 20 = .ok (.areturn, 1) := by decide +kernel
theorem d_prog_16_method_3_code_19 : decode prog_16_method_3_code 19 = .ok (.aload_n 0, 1) := by decide +kernel
theorem d_prog_13_method_8_code_0 : decode prog_13_method_8_code 0 = .ok (.aload_n 0, 1) := by decide +kernel
theorem d_prog_13_method_8_code_1 : decode prog_13_method_8_code 1 = .ok (.getfield 7, 3) := by decide +kernel
theorem d_prog_13_method_8_code_4 : decode prog_13_method_8_code 4 = .ok (.ireturn, 1) := by decide +kernel
theorem d_prog_16_method_8_code_0 : decode prog_16_method_8_code 0 = .ok (.aload_n 0, 1) := by decide +kernel
theorem d_prog_16_method_8_code_1 : decode prog_16_method_8_code 1 = .ok (.getfield 7, 3) := by decide +kernel
theorem d_prog_16_method_8_code_4 : decode prog_16_method_8_code 4 = .ok (.ireturn, 1) := by decide +kernel
theorem pd_28I29V : parseMethodDescriptor "(I)V" = some ⟨[.int], none⟩ := by decide +kernel
theorem pd_28IZ29Lcom2fexample2fbrisk5fodds2fbriskodds2fautomaton2fLabelExpression3b : parseMethodDescriptor "(IZ)Lcom/example/brisk_odds/briskodds/automaton/LabelExpression;" = some ⟨[.int, .boolean], some (.object "com/example/brisk_odds/briskodds/automaton/LabelExpression")⟩ := by decide +kernel
theorem pd_2829Z : parseMethodDescriptor "()Z" = some ⟨[], some .boolean⟩ := by decide +kernel
theorem pd_2829I : parseMethodDescriptor "()I" = some ⟨[], some .int⟩ := by decide +kernel
theorem pn_com_example_brisk_odds_briskodds_automaton_PropositionAssignPinLaw : plainName "com/example/brisk_odds/briskodds/automaton/PropositionAssignPinLaw" = true := by first | (simp [plainName, overriddenIn]; done) | decide +kernel
theorem ef_rmRec (x0 : Addr) (m : MethodId) : entryFrame m #[(.ref x0)] 1 = mkF m 0 #[.val (.ref x0)] [] := by first | (simp [entryFrame, mkF, argsToLocals, Value.category]; done) | rfl
set_option maxRecDepth 65536 in
set_option maxHeartbeats 40000000 in
theorem rmRec (l : Launch) (Z : State) (a0 : Array Value) (hw : ∀ d ∈ tables_1, d.before a0 Z = true) (b1 : Addr) (h0 : Heap) :
    Does l Z (⟨"java/lang/Record", "<init>", "()V"⟩ : MethodName) jdk_30_method_1_code 1 none [] ({ frames := 1, cells := 0, slots := 0, locals := 12 } : Room) #[(.ref b1)] h0 (Val none h0) := by
  refine Does.intro pn_java_lang_Record (ef_rmRec b1) ?_
  intro p e s m below meth c s₁ hx hby hml hown hnm hret hlk hZ e0 X0
  show Go p e below _ s₁ (mkF m 0 #[.val (.ref b1)] [])
  refine Go.st (fun _ h => XS.aloadN X0.here hx rfl (hb hby d_jdk_30_method_1_code_0) rfl rfl h) ?_
  show Go p e below _ s₁ (mkF m 1 #[.val (.ref b1)] [(.ref b1)])
  obtain ⟨T1, X1, e1, st1⟩ := initO X0 hx hZ hown (hw _ (List.mem_of_getElem? (i := 11) rfl)) (hw _ (List.mem_of_getElem? (i := 12) rfl)) (hw _ (List.mem_of_getElem? (i := 13) rfl)) e0 (g := (mkF m 1 #[.val (.ref b1)] [(.ref b1)])) rfl (by rw [hml]; rfl) rfl (hb hby d_jdk_30_method_1_code_1) (by decide) (W := 0) (by show 2 * 0 + _ ≤ _; exact Nat.le_of_eq rfl) (by decide)
  refine Go.st st1 ?_
  show Go p e below _ T1 (mkF m 4 #[.val (.ref b1)] [])
  refine Go.retV X1 hx hlk hret (hb hby d_jdk_30_method_1_code_4) (by decide) (by decide) ?_
  exact ⟨rfl, rfl, e1⟩
theorem ef_rmInitP (x0 : Addr) (x1 : Int32) (m : MethodId) : entryFrame m #[(.ref x0), (.int x1)] 2 = mkF m 0 #[.val (.ref x0), .val (.int x1)] [] := by first | (simp [entryFrame, mkF, argsToLocals, Value.category]; done) | rfl
set_option maxRecDepth 65536 in
set_option maxHeartbeats 40000000 in
theorem rmInitP (l : Launch) (Z : State) (a0 : Array Value) (hw : ∀ d ∈ tables_1, d.before a0 Z = true) (b1 : Addr) (p1 : Int32) (h0 : Heap) (n0 : Nat) (Z0 : n0 ≤ h0.size) (F1 : Fld Z h0 b1 "com/example/brisk_odds/briskodds/automaton/LabelExpression$Proposition" "index" "I" (.int (0 : Int32))) (E1 : Exa Z h0 b1 "com/example/brisk_odds/briskodds/automaton/LabelExpression$Proposition") (g_b1 : n0 ≤ b1) :
    Does l Z (⟨"com/example/brisk_odds/briskodds/automaton/LabelExpression$Proposition", "<init>", "(I)V"⟩ : MethodName) prog_16_method_1_code 2 none [] ({ frames := 2, cells := 0, slots := 0, locals := 24 } : Room) #[(.ref b1), (.int p1)] h0 (fun v h L => v = none ∧ Fr n0 L ∧ Keep h0 h [b1] ∧ Fld Z h b1 "com/example/brisk_odds/briskodds/automaton/LabelExpression$Proposition" "index" "I" (.int p1)) := by
  refine Does.intro pn_com_example_brisk_odds_briskodds_automaton_LabelExpression_Proposition (ef_rmInitP b1 p1) ?_
  intro p e s m below meth c s₁ hx hby hml hown hnm hret hlk hZ e0 X0
  show Go p e below _ s₁ (mkF m 0 #[.val (.ref b1), .val (.int p1)] [])
  have N0 := Fr.nil n0
  refine Go.st (fun _ h => XS.aloadN X0.here hx rfl (hb hby d_prog_16_method_1_code_0) rfl rfl h) ?_
  show Go p e below _ s₁ (mkF m 1 #[.val (.ref b1), .val (.int p1)] [(.ref b1)])
  obtain ⟨T1, X1, e1, st1⟩ := own_still rfl rfl (Does.special (y := (⟨"java/lang/Record", "<init>", "()V"⟩ : MethodName)) (g := (mkF m 1 #[.val (.ref b1), .val (.int p1)] [(.ref b1)])) (a := b1) (rmRec l Z a0 hw b1 h0) X0 hx hZ hown e0 rfl (hw _ (List.mem_of_getElem? (i := 6) rfl)) (hw _ (List.mem_of_getElem? (i := 7) rfl)) (hw _ (List.mem_of_getElem? (i := 9) rfl)) (hw _ (List.mem_of_getElem? (i := 10) rfl)) (by decide) rfl (by rw [hml]; rfl) (argsL := []) (rest := []) (lenOf pd_2829V rfl) rfl (hb hby d_prog_16_method_1_code_1) (W := 0) (by show 2 * 0 + _ ≤ _; exact Nat.le_of_eq rfl) (by decide) (by decide) (by decide) (by decide))
  refine Go.st st1 ?_
  show Go p e below _ T1 (mkF m 4 #[.val (.ref b1), .val (.int p1)] [])
  refine Go.st (fun _ h => XS.aloadN X1.here hx rfl (hb hby d_prog_16_method_1_code_4) rfl rfl h) ?_
  show Go p e below _ T1 (mkF m 5 #[.val (.ref b1), .val (.int p1)] [(.ref b1)])
  refine Go.st (fun _ h => XS.iloadN X1.here hx rfl (hb hby d_prog_16_method_1_code_5) rfl h) ?_
  show Go p e below _ T1 (mkF m 6 #[.val (.ref b1), .val (.int p1)] [(.int p1), (.ref b1)])
  obtain ⟨T2, h2, X2, e2, W2, st2⟩ := putF X1 hx hZ hown (host := "") (Or.inl (hw _ (List.mem_of_getElem? (i := 14) rfl))) Via.refl e1 F1 E1 (Or.inr ⟨(hw _ (List.mem_of_getElem? (i := 15) rfl)), rfl, hnm⟩) (hw _ (List.mem_of_getElem? (i := 1) rfl)) (ty := .int) (by decide) rfl rfl (g := (mkF m 6 #[.val (.ref b1), .val (.int p1)] [(.int p1), (.ref b1)])) rfl rfl (hb hby d_prog_16_method_1_code_6)
  have N2 := Fr.snoc X2 N0 g_b1
  have E2_0 := E1.wr W2
  have F2_1 := F1.same W2
  have K2 := (Keep.refl _ [b1]).wr W2 (Or.inl (List.mem_of_getElem? (i := 0) rfl))
  refine Go.st st2 ?_
  show Go p e below _ T2 (mkF m 9 #[.val (.ref b1), .val (.int p1)] [])
  refine Go.retV X2 hx hlk hret (hb hby d_prog_16_method_1_code_9) (by decide) (by decide) ?_
  rw [e2]
  exact ⟨rfl, N2, K2, F2_1⟩
theorem ef_rmInitC (x0 : Addr) (x1 : Int32) (m : MethodId) : entryFrame m #[(.ref x0), (.int x1)] 2 = mkF m 0 #[.val (.ref x0), .val (.int x1)] [] := by first | (simp [entryFrame, mkF, argsToLocals, Value.category]; done) | rfl
set_option maxRecDepth 65536 in
set_option maxHeartbeats 40000000 in
theorem rmInitC (l : Launch) (Z : State) (a0 : Array Value) (hw : ∀ d ∈ tables_1, d.before a0 Z = true) (b1 : Addr) (z : Int32) (h0 : Heap) (n0 : Nat) (Z0 : n0 ≤ h0.size) (F1 : Fld Z h0 b1 "com/example/brisk_odds/briskodds/automaton/LabelExpression$Constant" "value" "Z" (.int (0 : Int32))) (E1 : Exa Z h0 b1 "com/example/brisk_odds/briskodds/automaton/LabelExpression$Constant") (g_b1 : n0 ≤ b1) (hz : z = 0 ∨ z = 1) :
    Does l Z (⟨"com/example/brisk_odds/briskodds/automaton/LabelExpression$Constant", "<init>", "(Z)V"⟩ : MethodName) prog_13_method_1_code 2 none [] ({ frames := 2, cells := 0, slots := 0, locals := 24 } : Room) #[(.ref b1), (.int z)] h0 (fun v h L => v = none ∧ Fr n0 L ∧ Keep h0 h [b1] ∧ Fld Z h b1 "com/example/brisk_odds/briskodds/automaton/LabelExpression$Constant" "value" "Z" (.int z)) := by
  refine Does.intro pn_com_example_brisk_odds_briskodds_automaton_LabelExpression_Constant (ef_rmInitC b1 z) ?_
  intro p e s m below meth c s₁ hx hby hml hown hnm hret hlk hZ e0 X0
  show Go p e below _ s₁ (mkF m 0 #[.val (.ref b1), .val (.int z)] [])
  have N0 := Fr.nil n0
  refine Go.st (fun _ h => XS.aloadN X0.here hx rfl (hb hby d_prog_13_method_1_code_0) rfl rfl h) ?_
  show Go p e below _ s₁ (mkF m 1 #[.val (.ref b1), .val (.int z)] [(.ref b1)])
  obtain ⟨T1, X1, e1, st1⟩ := own_still rfl rfl (Does.special (y := (⟨"java/lang/Record", "<init>", "()V"⟩ : MethodName)) (g := (mkF m 1 #[.val (.ref b1), .val (.int z)] [(.ref b1)])) (a := b1) (rmRec l Z a0 hw b1 h0) X0 hx hZ hown e0 rfl (hw _ (List.mem_of_getElem? (i := 27) rfl)) (hw _ (List.mem_of_getElem? (i := 7) rfl)) (hw _ (List.mem_of_getElem? (i := 9) rfl)) (hw _ (List.mem_of_getElem? (i := 10) rfl)) (by decide) rfl (by rw [hml]; rfl) (argsL := []) (rest := []) (lenOf pd_2829V rfl) rfl (hb hby d_prog_13_method_1_code_1) (W := 0) (by show 2 * 0 + _ ≤ _; exact Nat.le_of_eq rfl) (by decide) (by decide) (by decide) (by decide))
  refine Go.st st1 ?_
  show Go p e below _ T1 (mkF m 4 #[.val (.ref b1), .val (.int z)] [])
  refine Go.st (fun _ h => XS.aloadN X1.here hx rfl (hb hby d_prog_13_method_1_code_4) rfl rfl h) ?_
  show Go p e below _ T1 (mkF m 5 #[.val (.ref b1), .val (.int z)] [(.ref b1)])
  refine Go.st (fun _ h => XS.iloadN X1.here hx rfl (hb hby d_prog_13_method_1_code_5) rfl h) ?_
  show Go p e below _ T1 (mkF m 6 #[.val (.ref b1), .val (.int z)] [(.int z), (.ref b1)])
  obtain ⟨T2, h2, X2, e2, W2, st2⟩ := putF X1 hx hZ hown (host := "") (Or.inl (hw _ (List.mem_of_getElem? (i := 28) rfl))) Via.refl e1 F1 E1 (Or.inr ⟨(hw _ (List.mem_of_getElem? (i := 29) rfl)), rfl, hnm⟩) (hw _ (List.mem_of_getElem? (i := 22) rfl)) (ty := .boolean) (by decide) (own_nb hz) (own_fb hz) (g := (mkF m 6 #[.val (.ref b1), .val (.int z)] [(.int z), (.ref b1)])) rfl rfl (hb hby d_prog_13_method_1_code_6)
  have N2 := Fr.snoc X2 N0 g_b1
  have E2_0 := E1.wr W2
  have F2_1 := F1.same W2
  have K2 := (Keep.refl _ [b1]).wr W2 (Or.inl (List.mem_of_getElem? (i := 0) rfl))
  refine Go.st st2 ?_
  show Go p e below _ T2 (mkF m 9 #[.val (.ref b1), .val (.int z)] [])
  refine Go.retV X2 hx hlk hret (hb hby d_prog_13_method_1_code_9) (by decide) (by decide) ?_
  rw [e2]
  exact ⟨rfl, N2, K2, F2_1⟩
theorem ef_rmAsgY (x0 : Addr) (x1 : Int32) (x2 : Int32) (m : MethodId) : entryFrame m #[(.ref x0), (.int x1), (.int x2)] 3 = mkF m 0 #[.val (.ref x0), .val (.int x1), .val (.int x2)] [] := by first | (simp [entryFrame, mkF, argsToLocals, Value.category]; done) | rfl
set_option maxRecDepth 65536 in
set_option maxHeartbeats 40000000 in
theorem rmAsgY (l : Launch) (Z : State) (a0 : Array Value) (hw : ∀ d ∈ tables_1, d.before a0 Z = true) (b1 : Addr) (q z p1 : Int32) (h0 : Heap) (n0 : Nat) (Z0 : n0 ≤ h0.size) (F1 : Fld Z h0 b1 "com/example/brisk_odds/briskodds/automaton/LabelExpression$Proposition" "index" "I" (.int p1)) (E1 : Exa Z h0 b1 "com/example/brisk_odds/briskodds/automaton/LabelExpression$Proposition") (hz : z = 0 ∨ z = 1) (hq : q = p1) :
    Does l Z (⟨"com/example/brisk_odds/briskodds/automaton/LabelExpression$Proposition", "assign", "(IZ)Lcom/example/brisk_odds/briskodds/automaton/LabelExpression;"⟩ : MethodName) prog_16_method_3_code 3 (some (.object "com/example/brisk_odds/briskodds/automaton/LabelExpression")) [] ({ frames := 3, cells := 1, slots := 1, locals := 40 } : Room) #[(.ref b1), (.int q), (.int z)] h0 (fun v h L => ∃ r, v = some (.ref r) ∧ Fr n0 L ∧ Keep h0 h [] ∧ Exa Z h r "com/example/brisk_odds/briskodds/automaton/LabelExpression$Constant" ∧ Fld Z h r "com/example/brisk_odds/briskodds/automaton/LabelExpression$Constant" "value" "Z" (.int z)) := by
  refine Does.intro pn_com_example_brisk_odds_briskodds_automaton_LabelExpression_Proposition (ef_rmAsgY b1 q z) ?_
  intro p e s m below meth c s₁ hx hby hml hown hnm hret hlk hZ e0 X0
  show Go p e below _ s₁ (mkF m 0 #[.val (.ref b1), .val (.int q), .val (.int z)] [])
  have N0 := Fr.nil n0
  refine Go.st (fun _ h => XS.iloadN X0.here hx rfl (hb hby d_prog_16_method_3_code_0) rfl h) ?_
  show Go p e below _ s₁ (mkF m 1 #[.val (.ref b1), .val (.int q), .val (.int z)] [(.int q)])
  refine Go.st (fun _ h => XS.aloadN X0.here hx rfl (hb hby d_prog_16_method_3_code_1) rfl rfl h) ?_
  show Go p e below _ s₁ (mkF m 2 #[.val (.ref b1), .val (.int q), .val (.int z)] [(.ref b1), (.int q)])
  obtain ⟨T1, X1, e1, st1⟩ := getF X0 hx hZ hown (host := "") (Or.inl (hw _ (List.mem_of_getElem? (i := 14) rfl))) Via.refl e0 F1 (g := (mkF m 2 #[.val (.ref b1), .val (.int q), .val (.int z)] [(.ref b1), (.int q)])) rfl rfl (hb hby d_prog_16_method_3_code_2)
  refine Go.st st1 ?_
  show Go p e below _ T1 (mkF m 5 #[.val (.ref b1), .val (.int q), .val (.int z)] [(.int p1), (.int q)])
  refine Go.st (fun _ h => XS.icmpNo X1.here hx rfl (hb hby d_prog_16_method_3_code_5) rfl ((teq (hq : q = p1)).2) h) ?_
  show Go p e below _ T1 (mkF m 8 #[.val (.ref b1), .val (.int q), .val (.int z)] [])
  obtain ⟨T2, h2, X2, e2, E2, A2, D2, -, st2⟩ := newO X1 hx hZ hown (hw _ (List.mem_of_getElem? (i := 21) rfl)) (hw _ (List.mem_of_getElem? (i := 22) rfl)) (hw _ (List.mem_of_getElem? (i := 23) rfl)) e1 (g := (mkF m 8 #[.val (.ref b1), .val (.int q), .val (.int z)] [])) rfl (hb hby d_prog_16_method_3_code_8) (by decide) (by decide)
  obtain ⟨o2, g2⟩ : ∃ z, z = h0.size := ⟨_, rfl⟩
  rw [← g2] at A2 D2 st2
  have ne_b1_o2 : b1 ≠ o2 := by rw [g2]; exact Nat.ne_of_lt E1.lt
  have le_o2 : h0.size ≤ o2 := by rw [g2]; exact (Keep.refl _ []).1
  have K2 := (Keep.refl _ []).ext E2
  have F2_value : Fld Z h2 o2 "com/example/brisk_odds/briskodds/automaton/LabelExpression$Constant" "value" "Z" (.int (0 : Int32)) := D2 (Or.inr (hw _ (List.mem_of_getElem? (i := 29) rfl))) (ty := .boolean) (by decide)
  refine Go.st st2 ?_
  show Go p e below _ T2 (mkF m 11 #[.val (.ref b1), .val (.int q), .val (.int z)] [(.ref o2)])
  refine Go.st (fun _ h => XS.dup X2.here hx rfl (hb hby d_prog_16_method_3_code_11) rfl rfl h) ?_
  show Go p e below _ T2 (mkF m 12 #[.val (.ref b1), .val (.int q), .val (.int z)] [(.ref o2), (.ref o2)])
  refine Go.st (fun _ h => XS.iloadN X2.here hx rfl (hb hby d_prog_16_method_3_code_12) rfl h) ?_
  show Go p e below _ T2 (mkF m 13 #[.val (.ref b1), .val (.int q), .val (.int z)] [(.int z), (.ref o2), (.ref o2)])
  obtain ⟨_, T3, L3, X3, ⟨rfl, Nc3, Kc3, Fc3⟩, st3⟩ := Does.special (y := (⟨"com/example/brisk_odds/briskodds/automaton/LabelExpression$Constant", "<init>", "(Z)V"⟩ : MethodName)) (g := (mkF m 13 #[.val (.ref b1), .val (.int q), .val (.int z)] [(.int z), (.ref o2), (.ref o2)])) (a := o2) (rmInitC l Z a0 hw o2 z h2 n0 (Nat.le_trans Z0 K2.1) F2_value A2 (Nat.le_trans Z0 le_o2) hz) X2 hx hZ hown e2 rfl (hw _ (List.mem_of_getElem? (i := 24) rfl)) (hw _ (List.mem_of_getElem? (i := 25) rfl)) (hw _ (List.mem_of_getElem? (i := 23) rfl)) (hw _ (List.mem_of_getElem? (i := 26) rfl)) (by decide) rfl (by rw [hml]; rfl) (argsL := [(.int z)]) (rest := [(.ref o2)]) (lenOf pd_28Z29V rfl) rfl (hb hby d_prog_16_method_3_code_13) (W := 1) (by show 2 * 0 + _ ≤ _; exact Nat.le_of_eq rfl) (by decide) (by decide) (by decide) (by decide)
  have E3_0 := A2.keep Kc3
  have K3 := K2.trans Kc3 (allS (Or.inr le_o2) all0)
  have N3 := Fr.app N0 Nc3
  refine Go.st st3 ?_
  show Go p e below _ T3 (mkF m 16 #[.val (.ref b1), .val (.int q), .val (.int z)] [(.ref o2)])
  refine Go.st (fun _ h => XS.goto X3.here hx rfl (pc0 := 16) (pc' := 20) rfl (hb hby d_prog_16_method_3_code_16) (by decide) (by decide) h) ?_
  show Go p e below _ T3 (mkF m 20 #[.val (.ref b1), .val (.int q), .val (.int z)] [(.ref o2)])
  refine Go.retA X3 hx hlk hret rfl rfl rfl (hb hby d_prog_16_method_3_code_20) (by decide) (by decide) ?_
  exact ⟨o2, rfl, N3, K3, E3_0, Fc3⟩
theorem ef_rmAsgN (x0 : Addr) (x1 : Int32) (x2 : Int32) (m : MethodId) : entryFrame m #[(.ref x0), (.int x1), (.int x2)] 3 = mkF m 0 #[.val (.ref x0), .val (.int x1), .val (.int x2)] [] := by first | (simp [entryFrame, mkF, argsToLocals, Value.category]; done) | rfl
set_option maxRecDepth 65536 in
set_option maxHeartbeats 40000000 in
theorem rmAsgN (l : Launch) (Z : State) (a0 : Array Value) (hw : ∀ d ∈ tables_1, d.before a0 Z = true) (b1 : Addr) (q z p1 : Int32) (h0 : Heap) (F1 : Fld Z h0 b1 "com/example/brisk_odds/briskodds/automaton/LabelExpression$Proposition" "index" "I" (.int p1)) (hq : ¬ q = p1) :
    Does l Z (⟨"com/example/brisk_odds/briskodds/automaton/LabelExpression$Proposition", "assign", "(IZ)Lcom/example/brisk_odds/briskodds/automaton/LabelExpression;"⟩ : MethodName) prog_16_method_3_code 3 (some (.object "com/example/brisk_odds/briskodds/automaton/LabelExpression")) [] ({ frames := 0, cells := 0, slots := 0, locals := 0 } : Room) #[(.ref b1), (.int q), (.int z)] h0 (Val (some (.ref b1)) h0) := by
  refine Does.intro pn_com_example_brisk_odds_briskodds_automaton_LabelExpression_Proposition (ef_rmAsgN b1 q z) ?_
  intro p e s m below meth c s₁ hx hby hml hown hnm hret hlk hZ e0 X0
  show Go p e below _ s₁ (mkF m 0 #[.val (.ref b1), .val (.int q), .val (.int z)] [])
  refine Go.st (fun _ h => XS.iloadN X0.here hx rfl (hb hby d_prog_16_method_3_code_0) rfl h) ?_
  show Go p e below _ s₁ (mkF m 1 #[.val (.ref b1), .val (.int q), .val (.int z)] [(.int q)])
  refine Go.st (fun _ h => XS.aloadN X0.here hx rfl (hb hby d_prog_16_method_3_code_1) rfl rfl h) ?_
  show Go p e below _ s₁ (mkF m 2 #[.val (.ref b1), .val (.int q), .val (.int z)] [(.ref b1), (.int q)])
  obtain ⟨T1, X1, e1, st1⟩ := getF X0 hx hZ hown (host := "") (Or.inl (hw _ (List.mem_of_getElem? (i := 14) rfl))) Via.refl e0 F1 (g := (mkF m 2 #[.val (.ref b1), .val (.int q), .val (.int z)] [(.ref b1), (.int q)])) rfl rfl (hb hby d_prog_16_method_3_code_2)
  refine Go.st st1 ?_
  show Go p e below _ T1 (mkF m 5 #[.val (.ref b1), .val (.int q), .val (.int z)] [(.int p1), (.int q)])
  refine Go.st (fun _ h => XS.icmpYes X1.here hx rfl (pc0 := 5) (pc' := 19) rfl (hb hby d_prog_16_method_3_code_5) rfl ((feq (hq : ¬ (q = p1))).2) (by decide) (by decide) h) ?_
  show Go p e below _ T1 (mkF m 19 #[.val (.ref b1), .val (.int q), .val (.int z)] [])
  refine Go.st (fun _ h => XS.aloadN X1.here hx rfl (hb hby d_prog_16_method_3_code_19) rfl rfl h) ?_
  show Go p e below _ T1 (mkF m 20 #[.val (.ref b1), .val (.int q), .val (.int z)] [(.ref b1)])
  refine Go.retA X1 hx hlk hret rfl rfl rfl (hb hby d_prog_16_method_3_code_20) (by decide) (by decide) ?_
  exact ⟨rfl, rfl, e1⟩
theorem ef_rmVal (x0 : Addr) (m : MethodId) : entryFrame m #[(.ref x0)] 1 = mkF m 0 #[.val (.ref x0)] [] := by first | (simp [entryFrame, mkF, argsToLocals, Value.category]; done) | rfl
set_option maxRecDepth 65536 in
set_option maxHeartbeats 40000000 in
theorem rmVal (l : Launch) (Z : State) (a0 : Array Value) (hw : ∀ d ∈ tables_1, d.before a0 Z = true) (b1 : Addr) (z : Int32) (h0 : Heap) (F1 : Fld Z h0 b1 "com/example/brisk_odds/briskodds/automaton/LabelExpression$Constant" "value" "Z" (.int z)) (hz : z = 0 ∨ z = 1) :
    Does l Z (⟨"com/example/brisk_odds/briskodds/automaton/LabelExpression$Constant", "value", "()Z"⟩ : MethodName) prog_13_method_8_code 1 (some .boolean) [] ({ frames := 0, cells := 0, slots := 0, locals := 0 } : Room) #[(.ref b1)] h0 (Val (some (.int z)) h0) := by
  refine Does.intro pn_com_example_brisk_odds_briskodds_automaton_LabelExpression_Constant (ef_rmVal b1) ?_
  intro p e s m below meth c s₁ hx hby hml hown hnm hret hlk hZ e0 X0
  show Go p e below _ s₁ (mkF m 0 #[.val (.ref b1)] [])
  refine Go.st (fun _ h => XS.aloadN X0.here hx rfl (hb hby d_prog_13_method_8_code_0) rfl rfl h) ?_
  show Go p e below _ s₁ (mkF m 1 #[.val (.ref b1)] [(.ref b1)])
  obtain ⟨T1, X1, e1, st1⟩ := getF X0 hx hZ hown (host := "") (Or.inl (hw _ (List.mem_of_getElem? (i := 28) rfl))) Via.refl e0 F1 (g := (mkF m 1 #[.val (.ref b1)] [(.ref b1)])) rfl rfl (hb hby d_prog_13_method_8_code_1)
  refine Go.st st1 ?_
  show Go p e below _ T1 (mkF m 4 #[.val (.ref b1)] [(.int z)])
  refine Go.retZ X1 hx hlk hret (own_nb hz) (hb hby d_prog_13_method_8_code_4) (by decide) (by decide) ?_
  exact ⟨rfl, rfl, e1⟩
theorem ef_rmIdx (x0 : Addr) (m : MethodId) : entryFrame m #[(.ref x0)] 1 = mkF m 0 #[.val (.ref x0)] [] := by first | (simp [entryFrame, mkF, argsToLocals, Value.category]; done) | rfl
set_option maxRecDepth 65536 in
set_option maxHeartbeats 40000000 in
theorem rmIdx (l : Launch) (Z : State) (a0 : Array Value) (hw : ∀ d ∈ tables_1, d.before a0 Z = true) (b1 : Addr) (p1 : Int32) (h0 : Heap) (F1 : Fld Z h0 b1 "com/example/brisk_odds/briskodds/automaton/LabelExpression$Proposition" "index" "I" (.int p1)) :
    Does l Z (⟨"com/example/brisk_odds/briskodds/automaton/LabelExpression$Proposition", "index", "()I"⟩ : MethodName) prog_16_method_8_code 1 (some .int) [] ({ frames := 0, cells := 0, slots := 0, locals := 0 } : Room) #[(.ref b1)] h0 (Val (some (.int p1)) h0) := by
  refine Does.intro pn_com_example_brisk_odds_briskodds_automaton_LabelExpression_Proposition (ef_rmIdx b1) ?_
  intro p e s m below meth c s₁ hx hby hml hown hnm hret hlk hZ e0 X0
  show Go p e below _ s₁ (mkF m 0 #[.val (.ref b1)] [])
  refine Go.st (fun _ h => XS.aloadN X0.here hx rfl (hb hby d_prog_16_method_8_code_0) rfl rfl h) ?_
  show Go p e below _ s₁ (mkF m 1 #[.val (.ref b1)] [(.ref b1)])
  obtain ⟨T1, X1, e1, st1⟩ := getF X0 hx hZ hown (host := "") (Or.inl (hw _ (List.mem_of_getElem? (i := 14) rfl))) Via.refl e0 F1 (g := (mkF m 1 #[.val (.ref b1)] [(.ref b1)])) rfl rfl (hb hby d_prog_16_method_8_code_1)
  refine Go.st st1 ?_
  show Go p e below _ T1 (mkF m 4 #[.val (.ref b1)] [(.int p1)])
  refine Go.retI X1 hx hlk hret (hb hby d_prog_16_method_8_code_4) (by decide) (by decide) ?_
  exact ⟨rfl, rfl, e1⟩
theorem ef_rmLaw (x0 : Int32) (x1 : Int32) (x2 : Int32) (m : MethodId) : entryFrame m #[(.int x0), (.int x1), (.int x2)] maxLocals = mkF m 0 #[.val (.int x0), .val (.int x1), .val (.int x2), .unset, .unset, .unset, .unset] [] := by first | (simp [entryFrame, mkF, argsToLocals, Value.category, maxLocals]; done) | rfl
set_option maxRecDepth 65536 in
set_option maxHeartbeats 40000000 in
theorem rmLaw (l : Launch) (Z : State) (a0 : Array Value) (hw : ∀ d ∈ tables_1, d.before a0 Z = true) (p1 p2 p3 : Int32) (h0 : Heap) (n0 : Nat) (Z0 : n0 ≤ h0.size) :
    Does l Z x code maxLocals ret tables_1 room_1 #[(.int p1), (.int p2), (.int p3)] h0 (fun v h L => v = some (.int 1) ∧ Fr n0 L) := by
  refine Does.intro pn_com_example_brisk_odds_briskodds_automaton_PropositionAssignPinLaw (ef_rmLaw p1 p2 p3) ?_
  intro p e s m below meth c s₁ hx hby hml hown hnm hret hlk hZ e0 X0
  show Go p e below _ s₁ (mkF m 0 #[.val (.int p1), .val (.int p2), .val (.int p3), .unset, .unset, .unset, .unset] [])
  have N0 := Fr.nil n0
  have KK : ∀ z q : Int32, (z = 0 ∨ z = 1) → Go p e below (Ends s room_1.cells room_1.slots (fun v h L => v = some (.int 1) ∧ Fr n0 L)) s₁ (mkF m 25 #[.val (.int p1), .val (.int p2), .val (.int p3), .val (.int z), .val (.int q), .unset, .unset] []) := by
    intro z q hz
    by_cases hq : q = p1
    ·
      obtain ⟨T1, h1, X1, e1, E1, A1, D1, -, st1⟩ := newO X0 hx hZ hown (hw _ (List.mem_of_getElem? (i := 0) rfl)) (hw _ (List.mem_of_getElem? (i := 1) rfl)) (hw _ (List.mem_of_getElem? (i := 2) rfl)) e0 (g := (mkF m 25 #[.val (.int p1), .val (.int p2), .val (.int p3), .val (.int z), .val (.int q), .unset, .unset] [])) rfl (hb hby at_25) (by decide) (by decide)
      obtain ⟨o1, g1⟩ : ∃ z, z = h0.size := ⟨_, rfl⟩
      rw [← g1] at A1 D1 st1
      have le_o1 : h0.size ≤ o1 := by rw [g1]; exact (Keep.refl _ []).1
      have K1 := (Keep.refl _ []).ext E1
      have F1_index : Fld Z h1 o1 "com/example/brisk_odds/briskodds/automaton/LabelExpression$Proposition" "index" "I" (.int (0 : Int32)) := D1 (Or.inr (hw _ (List.mem_of_getElem? (i := 15) rfl))) (ty := .int) (by decide)
      refine Go.st st1 ?_
      show Go p e below _ T1 (mkF m 28 #[.val (.int p1), .val (.int p2), .val (.int p3), .val (.int z), .val (.int q), .unset, .unset] [(.ref o1)])
      refine Go.st (fun _ h => XS.dup X1.here hx rfl (hb hby at_28) rfl rfl h) ?_
      show Go p e below _ T1 (mkF m 29 #[.val (.int p1), .val (.int p2), .val (.int p3), .val (.int z), .val (.int q), .unset, .unset] [(.ref o1), (.ref o1)])
      refine Go.st (fun _ h => XS.iloadN X1.here hx rfl (hb hby at_29) rfl h) ?_
      show Go p e below _ T1 (mkF m 30 #[.val (.int p1), .val (.int p2), .val (.int p3), .val (.int z), .val (.int q), .unset, .unset] [(.int p1), (.ref o1), (.ref o1)])
      obtain ⟨_, T2, L2, X2, ⟨rfl, Nc2, Kc2, Fc2⟩, st2⟩ := Does.special (y := (⟨"com/example/brisk_odds/briskodds/automaton/LabelExpression$Proposition", "<init>", "(I)V"⟩ : MethodName)) (g := (mkF m 30 #[.val (.int p1), .val (.int p2), .val (.int p3), .val (.int z), .val (.int q), .unset, .unset] [(.int p1), (.ref o1), (.ref o1)])) (a := o1) (rmInitP l Z a0 hw o1 p1 h1 n0 (Nat.le_trans Z0 K1.1) F1_index A1 (Nat.le_trans Z0 le_o1)) X1 hx hZ hown e1 rfl (hw _ (List.mem_of_getElem? (i := 3) rfl)) (hw _ (List.mem_of_getElem? (i := 4) rfl)) (hw _ (List.mem_of_getElem? (i := 2) rfl)) (hw _ (List.mem_of_getElem? (i := 5) rfl)) (by decide) rfl (by rw [hml]; rfl) (argsL := [(.int p1)]) (rest := [(.ref o1)]) (lenOf pd_28I29V rfl) rfl (hb hby at_30) (W := 1) (by show 2 * 0 + _ ≤ _; exact Nat.le_of_eq rfl) (by decide) (by decide) (by decide) (by decide)
      have E2_0 := A1.keep Kc2
      have K2 := K1.trans Kc2 (allS (Or.inr le_o1) all0)
      have N2 := Fr.app N0 Nc2
      refine Go.st st2 ?_
      show Go p e below _ T2 (mkF m 33 #[.val (.int p1), .val (.int p2), .val (.int p3), .val (.int z), .val (.int q), .unset, .unset] [(.ref o1)])
      refine Go.st (fun _ h => XS.astore X2.here hx rfl (hb hby at_33) rfl rfl (l' := #[.val (.int p1), .val (.int p2), .val (.int p3), .val (.int z), .val (.int q), .val (.ref o1), .unset]) rfl h) ?_
      show Go p e below _ T2 (mkF m 35 #[.val (.int p1), .val (.int p2), .val (.int p3), .val (.int z), .val (.int q), .val (.ref o1), .unset] [])
      refine Go.st (fun _ h => XS.aload X2.here hx rfl (hb hby at_35) rfl rfl h) ?_
      show Go p e below _ T2 (mkF m 37 #[.val (.int p1), .val (.int p2), .val (.int p3), .val (.int z), .val (.int q), .val (.ref o1), .unset] [(.ref o1)])
      refine Go.st (fun _ h => XS.iload X2.here hx rfl (hb hby at_37) rfl h) ?_
      show Go p e below _ T2 (mkF m 39 #[.val (.int p1), .val (.int p2), .val (.int p3), .val (.int z), .val (.int q), .val (.ref o1), .unset] [(.int q), (.ref o1)])
      refine Go.st (fun _ h => XS.iloadN X2.here hx rfl (hb hby at_39) rfl h) ?_
      show Go p e below _ T2 (mkF m 40 #[.val (.int p1), .val (.int p2), .val (.int p3), .val (.int z), .val (.int q), .val (.ref o1), .unset] [(.int z), (.int q), (.ref o1)])
      obtain ⟨_, T3, L3, X3, ⟨r1, rfl, Nc3, Kc3, Ec3, Fc3⟩, st3⟩ := Does.virtual (y := (⟨"com/example/brisk_odds/briskodds/automaton/LabelExpression$Proposition", "assign", "(IZ)Lcom/example/brisk_odds/briskodds/automaton/LabelExpression;"⟩ : MethodName)) (g := (mkF m 40 #[.val (.int p1), .val (.int p2), .val (.int p3), .val (.int z), .val (.int q), .val (.ref o1), .unset] [(.int z), (.int q), (.ref o1)])) (a := o1) (rmAsgY l Z a0 hw o1 q z p1 T2.heap n0 (Nat.le_trans Z0 K2.1) Fc2 E2_0 hz hq) X2 hx hZ hown rfl E2_0 (hw _ (List.mem_of_getElem? (i := 16) rfl)) (hw _ (List.mem_of_getElem? (i := 17) rfl)) (hw _ (List.mem_of_getElem? (i := 19) rfl)) (hw _ (List.mem_of_getElem? (i := 18) rfl)) (hw _ (List.mem_of_getElem? (i := 2) rfl)) (hw _ (List.mem_of_getElem? (i := 20) rfl)) (by decide) rfl (by rw [hml]; rfl) (argsL := [(.int q), (.int z)]) (rest := []) (lenOf pd_28IZ29Lcom2fexample2fbrisk5fodds2fbriskodds2fautomaton2fLabelExpression3b rfl) rfl (hb hby at_40) (W := 0) (by show 2 * 0 + _ ≤ _; exact Nat.le_of_eq rfl) (by decide) (by decide) (by decide) (by decide)
      have E3_0 := E2_0.keep Kc3
      have F3_1 := Fc2.keep Kc3 nin0
      have K3 := K2.trans Kc3 all0
      have N3 := Fr.app N2 Nc3
      refine Go.st st3 ?_
      show Go p e below _ T3 (mkF m 43 #[.val (.int p1), .val (.int p2), .val (.int p3), .val (.int z), .val (.int q), .val (.ref o1), .unset] [(.ref r1)])
      refine Go.st (fun _ h => XS.astore X3.here hx rfl (hb hby at_43) rfl rfl (l' := #[.val (.int p1), .val (.int p2), .val (.int p3), .val (.int z), .val (.int q), .val (.ref o1), .val (.ref r1)]) rfl h) ?_
      show Go p e below _ T3 (mkF m 45 #[.val (.int p1), .val (.int p2), .val (.int p3), .val (.int z), .val (.int q), .val (.ref o1), .val (.ref r1)] [])
      refine Go.st (fun _ h => XS.iload X3.here hx rfl (hb hby at_45) rfl h) ?_
      show Go p e below _ T3 (mkF m 47 #[.val (.int p1), .val (.int p2), .val (.int p3), .val (.int z), .val (.int q), .val (.ref o1), .val (.ref r1)] [(.int q)])
      refine Go.st (fun _ h => XS.iloadN X3.here hx rfl (hb hby at_47) rfl h) ?_
      show Go p e below _ T3 (mkF m 48 #[.val (.int p1), .val (.int p2), .val (.int p3), .val (.int z), .val (.int q), .val (.ref o1), .val (.ref r1)] [(.int p1), (.int q)])
      refine Go.st (fun _ h => XS.icmpNo X3.here hx rfl (hb hby at_48) rfl ((teq (hq : q = p1)).2) h) ?_
      show Go p e below _ T3 (mkF m 51 #[.val (.int p1), .val (.int p2), .val (.int p3), .val (.int z), .val (.int q), .val (.ref o1), .val (.ref r1)] [])
      refine Go.st (fun _ h => XS.aload X3.here hx rfl (hb hby at_51) rfl rfl h) ?_
      show Go p e below _ T3 (mkF m 53 #[.val (.int p1), .val (.int p2), .val (.int p3), .val (.int z), .val (.int q), .val (.ref o1), .val (.ref r1)] [(.ref r1)])
      obtain ⟨T4, X4, e4, st4⟩ := instY X3 hx hZ hown (hw _ (List.mem_of_getElem? (i := 30) rfl)) rfl (Ins.self Ec3) (g := (mkF m 53 #[.val (.int p1), .val (.int p2), .val (.int p3), .val (.int z), .val (.int q), .val (.ref o1), .val (.ref r1)] [(.ref r1)])) rfl rfl (hb hby at_53)
      refine Go.st st4 ?_
      show Go p e below _ T4 (mkF m 56 #[.val (.int p1), .val (.int p2), .val (.int p3), .val (.int z), .val (.int q), .val (.ref o1), .val (.ref r1)] [(.int (1 : Int32))])
      refine Go.st (fun _ h => XS.ifYes X4.here hx rfl (pc0 := 56) (pc' := 61) rfl (hb hby at_56) rfl (by decide) (by decide) (by decide) h) ?_
      show Go p e below _ T4 (mkF m 61 #[.val (.int p1), .val (.int p2), .val (.int p3), .val (.int z), .val (.int q), .val (.ref o1), .val (.ref r1)] [])
      refine Go.st (fun _ h => XS.aload X4.here hx rfl (hb hby at_61) rfl rfl h) ?_
      show Go p e below _ T4 (mkF m 63 #[.val (.int p1), .val (.int p2), .val (.int p3), .val (.int z), .val (.int q), .val (.ref o1), .val (.ref r1)] [(.ref r1)])
      obtain ⟨T5, X5, e5, st5⟩ := castY X4 hx hZ hown (hw _ (List.mem_of_getElem? (i := 30) rfl)) e4 (Ins.self Ec3) (g := (mkF m 63 #[.val (.int p1), .val (.int p2), .val (.int p3), .val (.int z), .val (.int q), .val (.ref o1), .val (.ref r1)] [(.ref r1)])) rfl rfl (hb hby at_63)
      refine Go.st st5 ?_
      show Go p e below _ T5 (mkF m 66 #[.val (.int p1), .val (.int p2), .val (.int p3), .val (.int z), .val (.int q), .val (.ref o1), .val (.ref r1)] [(.ref r1)])
      obtain ⟨T6, X6, e6, st6⟩ := own_still rfl rfl (Does.virtual (y := (⟨"com/example/brisk_odds/briskodds/automaton/LabelExpression$Constant", "value", "()Z"⟩ : MethodName)) (g := (mkF m 66 #[.val (.int p1), .val (.int p2), .val (.int p3), .val (.int z), .val (.int q), .val (.ref o1), .val (.ref r1)] [(.ref r1)])) (a := r1) (rmVal l Z a0 hw r1 z T3.heap Fc3 hz) X5 hx hZ hown e5 Ec3 (hw _ (List.mem_of_getElem? (i := 32) rfl)) (hw _ (List.mem_of_getElem? (i := 33) rfl)) (hw _ (List.mem_of_getElem? (i := 35) rfl)) (hw _ (List.mem_of_getElem? (i := 34) rfl)) (hw _ (List.mem_of_getElem? (i := 23) rfl)) (hw _ (List.mem_of_getElem? (i := 36) rfl)) (by decide) rfl (by rw [hml]; rfl) (argsL := []) (rest := []) (lenOf pd_2829Z rfl) rfl (hb hby at_66) (W := 0) (by show 2 * 0 + _ ≤ _; exact Nat.le_of_eq rfl) (by decide) (by decide) (by decide) (by decide))
      refine Go.st st6 ?_
      show Go p e below _ T6 (mkF m 69 #[.val (.int p1), .val (.int p2), .val (.int p3), .val (.int z), .val (.int q), .val (.ref o1), .val (.ref r1)] [(.int z)])
      refine Go.st (fun _ h => XS.iloadN X6.here hx rfl (hb hby at_69) rfl h) ?_
      show Go p e below _ T6 (mkF m 70 #[.val (.int p1), .val (.int p2), .val (.int p3), .val (.int z), .val (.int q), .val (.ref o1), .val (.ref r1)] [(.int z), (.int z)])
      refine Go.st (fun _ h => XS.icmpNo X6.here hx rfl (hb hby at_70) rfl ((teq (rfl : z = z)).2) h) ?_
      show Go p e below _ T6 (mkF m 73 #[.val (.int p1), .val (.int p2), .val (.int p3), .val (.int z), .val (.int q), .val (.ref o1), .val (.ref r1)] [])
      refine Go.st (fun _ h => XT.iconstV X6.here hx rfl (1 : Int32) (hb hby at_73) (by decide) h) ?_
      show Go p e below _ T6 (mkF m 74 #[.val (.int p1), .val (.int p2), .val (.int p3), .val (.int z), .val (.int q), .val (.ref o1), .val (.ref r1)] [(.int (1 : Int32))])
      refine Go.st (fun _ h => XS.goto X6.here hx rfl (pc0 := 74) (pc' := 78) rfl (hb hby at_74) (by decide) (by decide) h) ?_
      show Go p e below _ T6 (mkF m 78 #[.val (.int p1), .val (.int p2), .val (.int p3), .val (.int z), .val (.int q), .val (.ref o1), .val (.ref r1)] [(.int (1 : Int32))])
      refine Go.retZ X6 hx hlk hret rfl (hb hby at_78) (by decide) (by decide) ?_
      exact ⟨rfl, N3⟩
    ·
      obtain ⟨T7, h7, X7, e7, E7, A7, D7, -, st7⟩ := newO X0 hx hZ hown (hw _ (List.mem_of_getElem? (i := 0) rfl)) (hw _ (List.mem_of_getElem? (i := 1) rfl)) (hw _ (List.mem_of_getElem? (i := 2) rfl)) e0 (g := (mkF m 25 #[.val (.int p1), .val (.int p2), .val (.int p3), .val (.int z), .val (.int q), .unset, .unset] [])) rfl (hb hby at_25) (by decide) (by decide)
      obtain ⟨o7, g7⟩ : ∃ z, z = h0.size := ⟨_, rfl⟩
      rw [← g7] at A7 D7 st7
      have le_o7 : h0.size ≤ o7 := by rw [g7]; exact (Keep.refl _ []).1
      have K7 := (Keep.refl _ []).ext E7
      have F7_index : Fld Z h7 o7 "com/example/brisk_odds/briskodds/automaton/LabelExpression$Proposition" "index" "I" (.int (0 : Int32)) := D7 (Or.inr (hw _ (List.mem_of_getElem? (i := 15) rfl))) (ty := .int) (by decide)
      refine Go.st st7 ?_
      show Go p e below _ T7 (mkF m 28 #[.val (.int p1), .val (.int p2), .val (.int p3), .val (.int z), .val (.int q), .unset, .unset] [(.ref o7)])
      refine Go.st (fun _ h => XS.dup X7.here hx rfl (hb hby at_28) rfl rfl h) ?_
      show Go p e below _ T7 (mkF m 29 #[.val (.int p1), .val (.int p2), .val (.int p3), .val (.int z), .val (.int q), .unset, .unset] [(.ref o7), (.ref o7)])
      refine Go.st (fun _ h => XS.iloadN X7.here hx rfl (hb hby at_29) rfl h) ?_
      show Go p e below _ T7 (mkF m 30 #[.val (.int p1), .val (.int p2), .val (.int p3), .val (.int z), .val (.int q), .unset, .unset] [(.int p1), (.ref o7), (.ref o7)])
      obtain ⟨_, T8, L8, X8, ⟨rfl, Nc8, Kc8, Fc8⟩, st8⟩ := Does.special (y := (⟨"com/example/brisk_odds/briskodds/automaton/LabelExpression$Proposition", "<init>", "(I)V"⟩ : MethodName)) (g := (mkF m 30 #[.val (.int p1), .val (.int p2), .val (.int p3), .val (.int z), .val (.int q), .unset, .unset] [(.int p1), (.ref o7), (.ref o7)])) (a := o7) (rmInitP l Z a0 hw o7 p1 h7 n0 (Nat.le_trans Z0 K7.1) F7_index A7 (Nat.le_trans Z0 le_o7)) X7 hx hZ hown e7 rfl (hw _ (List.mem_of_getElem? (i := 3) rfl)) (hw _ (List.mem_of_getElem? (i := 4) rfl)) (hw _ (List.mem_of_getElem? (i := 2) rfl)) (hw _ (List.mem_of_getElem? (i := 5) rfl)) (by decide) rfl (by rw [hml]; rfl) (argsL := [(.int p1)]) (rest := [(.ref o7)]) (lenOf pd_28I29V rfl) rfl (hb hby at_30) (W := 1) (by show 2 * 0 + _ ≤ _; exact Nat.le_of_eq rfl) (by decide) (by decide) (by decide) (by decide)
      have E8_0 := A7.keep Kc8
      have K8 := K7.trans Kc8 (allS (Or.inr le_o7) all0)
      have N8 := Fr.app N0 Nc8
      refine Go.st st8 ?_
      show Go p e below _ T8 (mkF m 33 #[.val (.int p1), .val (.int p2), .val (.int p3), .val (.int z), .val (.int q), .unset, .unset] [(.ref o7)])
      refine Go.st (fun _ h => XS.astore X8.here hx rfl (hb hby at_33) rfl rfl (l' := #[.val (.int p1), .val (.int p2), .val (.int p3), .val (.int z), .val (.int q), .val (.ref o7), .unset]) rfl h) ?_
      show Go p e below _ T8 (mkF m 35 #[.val (.int p1), .val (.int p2), .val (.int p3), .val (.int z), .val (.int q), .val (.ref o7), .unset] [])
      refine Go.st (fun _ h => XS.aload X8.here hx rfl (hb hby at_35) rfl rfl h) ?_
      show Go p e below _ T8 (mkF m 37 #[.val (.int p1), .val (.int p2), .val (.int p3), .val (.int z), .val (.int q), .val (.ref o7), .unset] [(.ref o7)])
      refine Go.st (fun _ h => XS.iload X8.here hx rfl (hb hby at_37) rfl h) ?_
      show Go p e below _ T8 (mkF m 39 #[.val (.int p1), .val (.int p2), .val (.int p3), .val (.int z), .val (.int q), .val (.ref o7), .unset] [(.int q), (.ref o7)])
      refine Go.st (fun _ h => XS.iloadN X8.here hx rfl (hb hby at_39) rfl h) ?_
      show Go p e below _ T8 (mkF m 40 #[.val (.int p1), .val (.int p2), .val (.int p3), .val (.int z), .val (.int q), .val (.ref o7), .unset] [(.int z), (.int q), (.ref o7)])
      obtain ⟨T9, X9, e9, st9⟩ := own_still rfl rfl (Does.virtual (y := (⟨"com/example/brisk_odds/briskodds/automaton/LabelExpression$Proposition", "assign", "(IZ)Lcom/example/brisk_odds/briskodds/automaton/LabelExpression;"⟩ : MethodName)) (g := (mkF m 40 #[.val (.int p1), .val (.int p2), .val (.int p3), .val (.int z), .val (.int q), .val (.ref o7), .unset] [(.int z), (.int q), (.ref o7)])) (a := o7) (rmAsgN l Z a0 hw o7 q z p1 T8.heap Fc8 hq) X8 hx hZ hown rfl E8_0 (hw _ (List.mem_of_getElem? (i := 16) rfl)) (hw _ (List.mem_of_getElem? (i := 17) rfl)) (hw _ (List.mem_of_getElem? (i := 19) rfl)) (hw _ (List.mem_of_getElem? (i := 18) rfl)) (hw _ (List.mem_of_getElem? (i := 2) rfl)) (hw _ (List.mem_of_getElem? (i := 20) rfl)) (by decide) rfl (by rw [hml]; rfl) (argsL := [(.int q), (.int z)]) (rest := []) (lenOf pd_28IZ29Lcom2fexample2fbrisk5fodds2fbriskodds2fautomaton2fLabelExpression3b rfl) rfl (hb hby at_40) (W := 0) (by show 2 * 0 + _ ≤ _; exact Nat.le_of_eq rfl) (by decide) (by decide) (by decide) (by decide))
      refine Go.st st9 ?_
      show Go p e below _ T9 (mkF m 43 #[.val (.int p1), .val (.int p2), .val (.int p3), .val (.int z), .val (.int q), .val (.ref o7), .unset] [(.ref o7)])
      refine Go.st (fun _ h => XS.astore X9.here hx rfl (hb hby at_43) rfl rfl (l' := #[.val (.int p1), .val (.int p2), .val (.int p3), .val (.int z), .val (.int q), .val (.ref o7), .val (.ref o7)]) rfl h) ?_
      show Go p e below _ T9 (mkF m 45 #[.val (.int p1), .val (.int p2), .val (.int p3), .val (.int z), .val (.int q), .val (.ref o7), .val (.ref o7)] [])
      refine Go.st (fun _ h => XS.iload X9.here hx rfl (hb hby at_45) rfl h) ?_
      show Go p e below _ T9 (mkF m 47 #[.val (.int p1), .val (.int p2), .val (.int p3), .val (.int z), .val (.int q), .val (.ref o7), .val (.ref o7)] [(.int q)])
      refine Go.st (fun _ h => XS.iloadN X9.here hx rfl (hb hby at_47) rfl h) ?_
      show Go p e below _ T9 (mkF m 48 #[.val (.int p1), .val (.int p2), .val (.int p3), .val (.int z), .val (.int q), .val (.ref o7), .val (.ref o7)] [(.int p1), (.int q)])
      refine Go.st (fun _ h => XS.icmpYes X9.here hx rfl (pc0 := 48) (pc' := 79) rfl (hb hby at_48) rfl ((feq (hq : ¬ (q = p1))).2) (by decide) (by decide) h) ?_
      show Go p e below _ T9 (mkF m 79 #[.val (.int p1), .val (.int p2), .val (.int p3), .val (.int z), .val (.int q), .val (.ref o7), .val (.ref o7)] [])
      refine Go.st (fun _ h => XS.aload X9.here hx rfl (hb hby at_79) rfl rfl h) ?_
      show Go p e below _ T9 (mkF m 81 #[.val (.int p1), .val (.int p2), .val (.int p3), .val (.int z), .val (.int q), .val (.ref o7), .val (.ref o7)] [(.ref o7)])
      obtain ⟨T10, X10, e10, st10⟩ := instY X9 hx hZ hown (hw _ (List.mem_of_getElem? (i := 0) rfl)) e9 (Ins.self E8_0) (g := (mkF m 81 #[.val (.int p1), .val (.int p2), .val (.int p3), .val (.int z), .val (.int q), .val (.ref o7), .val (.ref o7)] [(.ref o7)])) rfl rfl (hb hby at_81)
      refine Go.st st10 ?_
      show Go p e below _ T10 (mkF m 84 #[.val (.int p1), .val (.int p2), .val (.int p3), .val (.int z), .val (.int q), .val (.ref o7), .val (.ref o7)] [(.int (1 : Int32))])
      refine Go.st (fun _ h => XS.ifYes X10.here hx rfl (pc0 := 84) (pc' := 89) rfl (hb hby at_84) rfl (by decide) (by decide) (by decide) h) ?_
      show Go p e below _ T10 (mkF m 89 #[.val (.int p1), .val (.int p2), .val (.int p3), .val (.int z), .val (.int q), .val (.ref o7), .val (.ref o7)] [])
      refine Go.st (fun _ h => XS.aload X10.here hx rfl (hb hby at_89) rfl rfl h) ?_
      show Go p e below _ T10 (mkF m 91 #[.val (.int p1), .val (.int p2), .val (.int p3), .val (.int z), .val (.int q), .val (.ref o7), .val (.ref o7)] [(.ref o7)])
      obtain ⟨T11, X11, e11, st11⟩ := castY X10 hx hZ hown (hw _ (List.mem_of_getElem? (i := 0) rfl)) e10 (Ins.self E8_0) (g := (mkF m 91 #[.val (.int p1), .val (.int p2), .val (.int p3), .val (.int z), .val (.int q), .val (.ref o7), .val (.ref o7)] [(.ref o7)])) rfl rfl (hb hby at_91)
      refine Go.st st11 ?_
      show Go p e below _ T11 (mkF m 94 #[.val (.int p1), .val (.int p2), .val (.int p3), .val (.int z), .val (.int q), .val (.ref o7), .val (.ref o7)] [(.ref o7)])
      obtain ⟨T12, X12, e12, st12⟩ := own_still rfl rfl (Does.virtual (y := (⟨"com/example/brisk_odds/briskodds/automaton/LabelExpression$Proposition", "index", "()I"⟩ : MethodName)) (g := (mkF m 94 #[.val (.int p1), .val (.int p2), .val (.int p3), .val (.int z), .val (.int q), .val (.ref o7), .val (.ref o7)] [(.ref o7)])) (a := o7) (rmIdx l Z a0 hw o7 p1 T8.heap Fc8) X11 hx hZ hown e11 E8_0 (hw _ (List.mem_of_getElem? (i := 38) rfl)) (hw _ (List.mem_of_getElem? (i := 39) rfl)) (hw _ (List.mem_of_getElem? (i := 41) rfl)) (hw _ (List.mem_of_getElem? (i := 40) rfl)) (hw _ (List.mem_of_getElem? (i := 2) rfl)) (hw _ (List.mem_of_getElem? (i := 42) rfl)) (by decide) rfl (by rw [hml]; rfl) (argsL := []) (rest := []) (lenOf pd_2829I rfl) rfl (hb hby at_94) (W := 0) (by show 2 * 0 + _ ≤ _; exact Nat.le_of_eq rfl) (by decide) (by decide) (by decide) (by decide))
      refine Go.st st12 ?_
      show Go p e below _ T12 (mkF m 97 #[.val (.int p1), .val (.int p2), .val (.int p3), .val (.int z), .val (.int q), .val (.ref o7), .val (.ref o7)] [(.int p1)])
      refine Go.st (fun _ h => XS.iloadN X12.here hx rfl (hb hby at_97) rfl h) ?_
      show Go p e below _ T12 (mkF m 98 #[.val (.int p1), .val (.int p2), .val (.int p3), .val (.int z), .val (.int q), .val (.ref o7), .val (.ref o7)] [(.int p1), (.int p1)])
      refine Go.st (fun _ h => XS.icmpNo X12.here hx rfl (hb hby at_98) rfl ((teq (rfl : p1 = p1)).2) h) ?_
      show Go p e below _ T12 (mkF m 101 #[.val (.int p1), .val (.int p2), .val (.int p3), .val (.int z), .val (.int q), .val (.ref o7), .val (.ref o7)] [])
      refine Go.st (fun _ h => XT.iconstV X12.here hx rfl (1 : Int32) (hb hby at_101) (by decide) h) ?_
      show Go p e below _ T12 (mkF m 102 #[.val (.int p1), .val (.int p2), .val (.int p3), .val (.int z), .val (.int q), .val (.ref o7), .val (.ref o7)] [(.int (1 : Int32))])
      refine Go.st (fun _ h => XS.goto X12.here hx rfl (pc0 := 102) (pc' := 106) rfl (hb hby at_102) (by decide) (by decide) h) ?_
      show Go p e below _ T12 (mkF m 106 #[.val (.int p1), .val (.int p2), .val (.int p3), .val (.int z), .val (.int q), .val (.ref o7), .val (.ref o7)] [(.int (1 : Int32))])
      refine Go.retZ X12 hx hlk hret rfl (hb hby at_106) (by decide) (by decide) ?_
      exact ⟨rfl, N8⟩
  refine Go.st (fun _ h => XS.iloadN X0.here hx rfl (hb hby at_0) rfl h) ?_
  show Go p e below _ s₁ (mkF m 1 #[.val (.int p1), .val (.int p2), .val (.int p3), .unset, .unset, .unset, .unset] [(.int p3)])
  refine Go.st (fun _ h => XT.iconstV X0.here hx rfl (1 : Int32) (hb hby at_1) (by decide) h) ?_
  show Go p e below _ s₁ (mkF m 2 #[.val (.int p1), .val (.int p2), .val (.int p3), .unset, .unset, .unset, .unset] [(.int (1 : Int32)), (.int p3)])
  refine Go.st (fun _ h => XS.iand X0.here hx rfl (hb hby at_2) rfl h) ?_
  show Go p e below _ s₁ (mkF m 3 #[.val (.int p1), .val (.int p2), .val (.int p3), .unset, .unset, .unset, .unset] [(.int (p3 &&& (1 : Int32)))])
  by_cases hc13 : (p3 &&& (1 : Int32)) = (0 : Int32)
  · refine Go.st (fun _ h => XS.ifYes X0.here hx rfl (pc0 := 3) (pc' := 10) rfl (hb hby at_3) rfl ((if0 _ _).trans (teq hc13).1) (by decide) (by decide) h) ?_
    show Go p e below _ s₁ (mkF m 10 #[.val (.int p1), .val (.int p2), .val (.int p3), .unset, .unset, .unset, .unset] [])
    refine Go.st (fun _ h => XT.iconstV X0.here hx rfl (0 : Int32) (hb hby at_10) (by decide) h) ?_
    show Go p e below _ s₁ (mkF m 11 #[.val (.int p1), .val (.int p2), .val (.int p3), .unset, .unset, .unset, .unset] [(.int (0 : Int32))])
    refine Go.st (fun _ h => XS.istoreN X0.here hx rfl (hb hby at_11) rfl (l' := #[.val (.int p1), .val (.int p2), .val (.int p3), .val (.int (0 : Int32)), .unset, .unset, .unset]) rfl h) ?_
    show Go p e below _ s₁ (mkF m 12 #[.val (.int p1), .val (.int p2), .val (.int p3), .val (.int (0 : Int32)), .unset, .unset, .unset] [])
    refine Go.st (fun _ h => XS.iloadN X0.here hx rfl (hb hby at_12) rfl h) ?_
    show Go p e below _ s₁ (mkF m 13 #[.val (.int p1), .val (.int p2), .val (.int p3), .val (.int (0 : Int32)), .unset, .unset, .unset] [(.int p3)])
    refine Go.st (fun _ h => XT.iconstV X0.here hx rfl (2 : Int32) (hb hby at_13) (by decide) h) ?_
    show Go p e below _ s₁ (mkF m 14 #[.val (.int p1), .val (.int p2), .val (.int p3), .val (.int (0 : Int32)), .unset, .unset, .unset] [(.int (2 : Int32)), (.int p3)])
    refine Go.st (fun _ h => XS.iand X0.here hx rfl (hb hby at_14) rfl h) ?_
    show Go p e below _ s₁ (mkF m 15 #[.val (.int p1), .val (.int p2), .val (.int p3), .val (.int (0 : Int32)), .unset, .unset, .unset] [(.int (p3 &&& (2 : Int32)))])
    by_cases hc14 : (p3 &&& (2 : Int32)) = (0 : Int32)
    · refine Go.st (fun _ h => XS.ifYes X0.here hx rfl (pc0 := 15) (pc' := 22) rfl (hb hby at_15) rfl ((if0 _ _).trans (teq hc14).1) (by decide) (by decide) h) ?_
      show Go p e below _ s₁ (mkF m 22 #[.val (.int p1), .val (.int p2), .val (.int p3), .val (.int (0 : Int32)), .unset, .unset, .unset] [])
      refine Go.st (fun _ h => XS.iloadN X0.here hx rfl (hb hby at_22) rfl h) ?_
      show Go p e below _ s₁ (mkF m 23 #[.val (.int p1), .val (.int p2), .val (.int p3), .val (.int (0 : Int32)), .unset, .unset, .unset] [(.int p2)])
      refine Go.st (fun _ h => XS.istore X0.here hx rfl (hb hby at_23) rfl (l' := #[.val (.int p1), .val (.int p2), .val (.int p3), .val (.int (0 : Int32)), .val (.int p2), .unset, .unset]) rfl h) ?_
      show Go p e below _ s₁ (mkF m 25 #[.val (.int p1), .val (.int p2), .val (.int p3), .val (.int (0 : Int32)), .val (.int p2), .unset, .unset] [])
      exact KK _ _ (by decide)
    · refine Go.st (fun _ h => XS.ifNo X0.here hx rfl (hb hby at_15) rfl ((if0 _ _).trans (feq hc14).1) h) ?_
      show Go p e below _ s₁ (mkF m 18 #[.val (.int p1), .val (.int p2), .val (.int p3), .val (.int (0 : Int32)), .unset, .unset, .unset] [])
      refine Go.st (fun _ h => XS.iloadN X0.here hx rfl (hb hby at_18) rfl h) ?_
      show Go p e below _ s₁ (mkF m 19 #[.val (.int p1), .val (.int p2), .val (.int p3), .val (.int (0 : Int32)), .unset, .unset, .unset] [(.int p1)])
      refine Go.st (fun _ h => XS.goto X0.here hx rfl (pc0 := 19) (pc' := 23) rfl (hb hby at_19) (by decide) (by decide) h) ?_
      show Go p e below _ s₁ (mkF m 23 #[.val (.int p1), .val (.int p2), .val (.int p3), .val (.int (0 : Int32)), .unset, .unset, .unset] [(.int p1)])
      refine Go.st (fun _ h => XS.istore X0.here hx rfl (hb hby at_23) rfl (l' := #[.val (.int p1), .val (.int p2), .val (.int p3), .val (.int (0 : Int32)), .val (.int p1), .unset, .unset]) rfl h) ?_
      show Go p e below _ s₁ (mkF m 25 #[.val (.int p1), .val (.int p2), .val (.int p3), .val (.int (0 : Int32)), .val (.int p1), .unset, .unset] [])
      exact KK _ _ (by decide)
  · refine Go.st (fun _ h => XS.ifNo X0.here hx rfl (hb hby at_3) rfl ((if0 _ _).trans (feq hc13).1) h) ?_
    show Go p e below _ s₁ (mkF m 6 #[.val (.int p1), .val (.int p2), .val (.int p3), .unset, .unset, .unset, .unset] [])
    refine Go.st (fun _ h => XT.iconstV X0.here hx rfl (1 : Int32) (hb hby at_6) (by decide) h) ?_
    show Go p e below _ s₁ (mkF m 7 #[.val (.int p1), .val (.int p2), .val (.int p3), .unset, .unset, .unset, .unset] [(.int (1 : Int32))])
    refine Go.st (fun _ h => XS.goto X0.here hx rfl (pc0 := 7) (pc' := 11) rfl (hb hby at_7) (by decide) (by decide) h) ?_
    show Go p e below _ s₁ (mkF m 11 #[.val (.int p1), .val (.int p2), .val (.int p3), .unset, .unset, .unset, .unset] [(.int (1 : Int32))])
    refine Go.st (fun _ h => XS.istoreN X0.here hx rfl (hb hby at_11) rfl (l' := #[.val (.int p1), .val (.int p2), .val (.int p3), .val (.int (1 : Int32)), .unset, .unset, .unset]) rfl h) ?_
    show Go p e below _ s₁ (mkF m 12 #[.val (.int p1), .val (.int p2), .val (.int p3), .val (.int (1 : Int32)), .unset, .unset, .unset] [])
    refine Go.st (fun _ h => XS.iloadN X0.here hx rfl (hb hby at_12) rfl h) ?_
    show Go p e below _ s₁ (mkF m 13 #[.val (.int p1), .val (.int p2), .val (.int p3), .val (.int (1 : Int32)), .unset, .unset, .unset] [(.int p3)])
    refine Go.st (fun _ h => XT.iconstV X0.here hx rfl (2 : Int32) (hb hby at_13) (by decide) h) ?_
    show Go p e below _ s₁ (mkF m 14 #[.val (.int p1), .val (.int p2), .val (.int p3), .val (.int (1 : Int32)), .unset, .unset, .unset] [(.int (2 : Int32)), (.int p3)])
    refine Go.st (fun _ h => XS.iand X0.here hx rfl (hb hby at_14) rfl h) ?_
    show Go p e below _ s₁ (mkF m 15 #[.val (.int p1), .val (.int p2), .val (.int p3), .val (.int (1 : Int32)), .unset, .unset, .unset] [(.int (p3 &&& (2 : Int32)))])
    by_cases hc15 : (p3 &&& (2 : Int32)) = (0 : Int32)
    · refine Go.st (fun _ h => XS.ifYes X0.here hx rfl (pc0 := 15) (pc' := 22) rfl (hb hby at_15) rfl ((if0 _ _).trans (teq hc15).1) (by decide) (by decide) h) ?_
      show Go p e below _ s₁ (mkF m 22 #[.val (.int p1), .val (.int p2), .val (.int p3), .val (.int (1 : Int32)), .unset, .unset, .unset] [])
      refine Go.st (fun _ h => XS.iloadN X0.here hx rfl (hb hby at_22) rfl h) ?_
      show Go p e below _ s₁ (mkF m 23 #[.val (.int p1), .val (.int p2), .val (.int p3), .val (.int (1 : Int32)), .unset, .unset, .unset] [(.int p2)])
      refine Go.st (fun _ h => XS.istore X0.here hx rfl (hb hby at_23) rfl (l' := #[.val (.int p1), .val (.int p2), .val (.int p3), .val (.int (1 : Int32)), .val (.int p2), .unset, .unset]) rfl h) ?_
      show Go p e below _ s₁ (mkF m 25 #[.val (.int p1), .val (.int p2), .val (.int p3), .val (.int (1 : Int32)), .val (.int p2), .unset, .unset] [])
      exact KK _ _ (by decide)
    · refine Go.st (fun _ h => XS.ifNo X0.here hx rfl (hb hby at_15) rfl ((if0 _ _).trans (feq hc15).1) h) ?_
      show Go p e below _ s₁ (mkF m 18 #[.val (.int p1), .val (.int p2), .val (.int p3), .val (.int (1 : Int32)), .unset, .unset, .unset] [])
      refine Go.st (fun _ h => XS.iloadN X0.here hx rfl (hb hby at_18) rfl h) ?_
      show Go p e below _ s₁ (mkF m 19 #[.val (.int p1), .val (.int p2), .val (.int p3), .val (.int (1 : Int32)), .unset, .unset, .unset] [(.int p1)])
      refine Go.st (fun _ h => XS.goto X0.here hx rfl (pc0 := 19) (pc' := 23) rfl (hb hby at_19) (by decide) (by decide) h) ?_
      show Go p e below _ s₁ (mkF m 23 #[.val (.int p1), .val (.int p2), .val (.int p3), .val (.int (1 : Int32)), .unset, .unset, .unset] [(.int p1)])
      refine Go.st (fun _ h => XS.istore X0.here hx rfl (hb hby at_23) rfl (l' := #[.val (.int p1), .val (.int p2), .val (.int p3), .val (.int (1 : Int32)), .val (.int p1), .unset, .unset]) rfl h) ?_
      show Go p e below _ s₁ (mkF m 25 #[.val (.int p1), .val (.int p2), .val (.int p3), .val (.int (1 : Int32)), .val (.int p1), .unset, .unset] [])
      exact KK _ _ (by decide)
set_option maxRecDepth 65536 in
set_option maxHeartbeats 40000000 in
theorem comes_1 {Post : Tables → Env → Array Value → State → Outcome → State → Prop} (hpost : ∀ tb e args s v u, (limb_1_1.after args s (.returned v) u = true ∧ limb_1_2.after args s (.returned v) u = true ∧ True) → FrameEnd s (.returned v) u (Jvm.fieldLocs frame_1_writes args s ++ Jvm.arrayLocs frame_1_arrays args s ++ Jvm.staticLocs frame_1_statics s) 16 128 → Post tb e args s (.returned v) u) :
    ArmFor flags0 classFile x code maxLocals ret World_1 tables_1 room_1 Calls_1 rest_1 Pre_1 Post := by
  intro l hfl _ _ p e ha hc hk s m args below hf hA hF happ hP
  obtain ⟨hcalls, hrest, hpre⟩ := hP
  obtain ⟨-, -, -, hnamed, -, -, -, hat⟩ := (Spec.applies_iff hf).mp happ
  obtain ⟨hg, hn⟩ := and_e (Cond.before_iff.mp (show (Jvm.Cond.and given_1 narrow_1).before args s = true from hpre))
  obtain ⟨g0, hg⟩ := and_e hg
  obtain ⟨g1, hg⟩ := and_e hg
  obtain ⟨g2, hg⟩ := and_e hg
  obtain ⟨w0, w1, w2, rfl⟩ : ∃ w0 w1 w2 : Value, args = #[w0, w1, w2] := by
    have hs : args.size = 3 := by simpa [Cond.value, given_1] using g0
    obtain ⟨L⟩ := args
    match L, hs with
    | [w0, w1, w2], _ => exact ⟨w0, w1, w2, rfl⟩
  have hw := fun d (hd : d ∈ tables_1) => atoms_spec (ws := Jvm.Cond.code x code maxLocals ret :: tables_1) hat d (List.mem_cons_of_mem _ hd)
  have hfit : Fit s := fun {y c} hc i hi => by
    obtain ⟨ha, rfl⟩ := Array.getElem?_eq_some_iff.mp hc
    have q := List.all_eq_true.mp ((Array.all_eq_true_iff_forall_mem.mp hF) _ (Array.getElem_mem ha)) i (List.mem_range.mpr hi)
    simpa [Array.getElem?_eq_getElem hi] using q
  obtain ⟨i0, q0⟩ := is_v g1
  obtain rfl : w0 = (.int i0) := Option.some.inj q0
  obtain ⟨i1, q1⟩ := is_v g2
  obtain rfl : w1 = (.int i1) := Option.some.inj q1
  obtain ⟨i2, q2⟩ := is_v hg
  obtain rfl : w2 = (.int i2) := Option.some.inj q2
  obtain ⟨n, o, h1, h2, h3, v, L, rfl, hP, hq⟩ := rmLaw l s _ hw i0 i1 i2 s.heap s.heap.size (Nat.le_refl _) p e ha hc hk s m _ below hf ((Spec.applies_iff_loose hf).mp happ).1 ⟨rfl, State.Warmed39.refl s, rfl⟩ trivial
  obtain ⟨rfl, N⟩ := hP
  refine ⟨n, _, h1, h2, h3, hpost _ _ _ _ _ _ ⟨Cond.after_iff.mpr rfl, Cond.after_iff.mpr (eq_i res_at (Term.int_eval (1)) rfl), trivial⟩ ⟨hq.1, hq.2.1, (hq.2.2.sift fun y hy => Or.inr (N y hy)).mono (by decide) (by decide)⟩⟩
theorem main_1_1 : Claimed_1_1 := comes_1 fun _ _ _ _ _ _ h hF => ⟨h.1, hF⟩
theorem main_1_2 : Claimed_1_2 := comes_1 fun _ _ _ _ _ _ h hF => ⟨h.2.1, hF⟩
end Jvm.Pilot.@@N@@
namespace Jvm.Pilot.@@N@@
open Jvm Jvm.ClassFile Sem Op Lib Jvm.Free Jvm.Stand Jvm.Pilot.@@N@@.Jvm.D
/-! MADE BY PROGRAM (witnessworld.py) out of the Statement's table words and the real class files: 12 classes; the members and pool entries that the words name. The judged class is class 1, her method 1. -/
namespace start1
open Jvm.ClassFile
def u (s : String) : CpInfo := .utf8 (stringToUtf16 s)
/-- a pool by its gaps: so many unusable entries, then the entry; so many at the end -/
def gap : Nat → List CpInfo → List CpInfo
  | 0, r => r
  | n + 1, r => .unusable :: gap n r
def poolList (es : List (Nat × CpInfo)) (last : Nat) : List CpInfo := es.foldr (fun e r => gap e.1 (e.2 :: r)) (gap last [])
def pool (es : List (Nat × CpInfo)) (last : Nat) : Array CpInfo := ⟨poolList es last⟩
def fileOf (pool : Array CpInfo) (this : Nat) (attrs : Array Attribute := #[]) (ms : Array MethodInfo := #[]) (fl : Nat := 33) (sup : Nat := 0) (ifs : Array Nat := #[]) (fds : Array FieldInfo := #[]) : ClassFile where
  minorVersion := 0
  majorVersion := 65
  constantPool := pool
  accessFlags := fl
  thisClass := this
  superClass := sup
  interfaces := ifs
  fields := fds
  methods := ms
  attributes := attrs
def plain (name : String) (sup : Option ClassId) : Class where
  name := name
  kind := .ordinary
  loader := none
  accessFlags := 33
  super := sup
  interfaces := #[]
  cf := none
  fields := #[]
  methods := #[]
  instanceTypes := #[]
  staticTypes := #[]
  resolved := #[]
  callSites := []
  init := .initialized
  statics := none
  mirror := none

def pool0 : Array CpInfo := pool [(5, u "<init>"), (0, u "()V"), (1, .class_ 10), (1, u "java/lang/Object")] 113

def k0c0 : Code := { maxStack := 0, maxLocals := 1, code := object_method_1_code, exceptionTable := #[], attributes := #[] }
def k0m0 : Method := { name := "<init>", desc := "()V", sig := { parameters := [], returnType := none }, accessFlags := 1, code := some k0c0 }
/-- java/lang/Object -/
def k0 : Class := { plain "java/lang/Object" none with
  accessFlags := 33
  interfaces := #[]
  cf := some (fileOf pool0 8 #[] #[{ accessFlags := 1, nameIndex := 5, descriptorIndex := 6, attributes := #[] }] 33 0 #[] #[])
  fields := #[]
  methods := #[k0m0]
  instanceTypes := #[]
  staticTypes := #[]
  resolved := Array.replicate 124 none
  statics := none }

def pool1 : Array CpInfo := pool [(2, .class_ 4), (1, u "java/lang/Object"), (0, u "<init>"), (0, u "()V"), (0, .class_ 8), (0, u "com/example/brisk_odds/briskodds/automaton/LabelExpression$Proposition"), (0, .methodref 7 10), (0, .nameAndType 5 11), (0, u "(I)V"), (0, .methodref 7 13), (0, .nameAndType 14 15), (0, u "assign"), (0, u "(IZ)Lcom/example/brisk_odds/briskodds/automaton/LabelExpression;"), (0, .class_ 17), (0, u "com/example/brisk_odds/briskodds/automaton/LabelExpression$Constant"), (0, .methodref 16 19), (0, .nameAndType 20 21), (0, u "value"), (0, u "()Z"), (0, .methodref 7 23), (0, .nameAndType 24 25), (0, u "index"), (0, u "()I"), (0, .class_ 27), (0, u "com/example/brisk_odds/briskodds/automaton/PropositionAssignPinLaw"), (2, u "law"), (0, u "(III)Z")] 8

def k1m0 : Method := { name := "<init>", desc := "()V", sig := { parameters := [], returnType := none }, accessFlags := 2, code := none }
def k1c1 : Code := { maxStack := 3, maxLocals := 7, code := code, exceptionTable := #[], attributes := #[] }
def k1m1 : Method := { name := "law", desc := "(III)Z", sig := { parameters := [.int, .int, .int], returnType := some .boolean }, accessFlags := 9, code := some k1c1 }
/-- com/example/brisk_odds/briskodds/automaton/PropositionAssignPinLaw -/
def k1 : Class := { plain "com/example/brisk_odds/briskodds/automaton/PropositionAssignPinLaw" (some 0) with
  accessFlags := 49
  interfaces := #[]
  cf := some (fileOf pool1 26 #[] #[{ accessFlags := 2, nameIndex := 5, descriptorIndex := 6, attributes := #[] }, { accessFlags := 9, nameIndex := 30, descriptorIndex := 31, attributes := #[] }] 49 2 #[] #[])
  fields := #[]
  methods := #[k1m0, k1m1]
  instanceTypes := #[]
  staticTypes := #[]
  resolved := Array.replicate 40 none
  statics := none }

def pool2 : Array CpInfo := pool [(1, .methodref 2 3), (0, .class_ 4), (0, .nameAndType 5 6), (0, u "java/lang/Object"), (0, u "<init>"), (0, u "()V"), (0, .class_ 8), (0, u "java/lang/Record")] 13

def k2c0 : Code := { maxStack := 1, maxLocals := 1, code := jdk_30_method_1_code, exceptionTable := #[], attributes := #[] }
def k2m0 : Method := { name := "<init>", desc := "()V", sig := { parameters := [], returnType := none }, accessFlags := 4, code := some k2c0 }
/-- java/lang/Record -/
def k2 : Class := { plain "java/lang/Record" (some 0) with
  accessFlags := 1057
  interfaces := #[]
  cf := some (fileOf pool2 7 #[] #[{ accessFlags := 4, nameIndex := 5, descriptorIndex := 6, attributes := #[] }] 1057 2 #[] #[])
  fields := #[]
  methods := #[k2m0]
  instanceTypes := #[]
  staticTypes := #[]
  resolved := Array.replicate 22 none
  statics := none }

def pool3 : Array CpInfo := pool [(23, .class_ 24), (0, u "com/example/brisk_odds/briskodds/automaton/LabelExpression"), (21, .class_ 47), (0, u "com/example/brisk_odds/briskodds/automaton/LabelExpression$And"), (14, .class_ 63), (0, u "com/example/brisk_odds/briskodds/automaton/LabelExpression$Proposition"), (1, .class_ 66), (0, u "com/example/brisk_odds/briskodds/automaton/LabelExpression$Not"), (20, u "FALSE"), (0, u "Lcom/example/brisk_odds/briskodds/automaton/LabelExpression;"), (2, u "TRUE"), (8, .class_ 101), (0, u "com/example/brisk_odds/briskodds/automaton/LabelExpression$Constant"), (3, .class_ 106), (0, u "java/lang/Object"), (12, .class_ 120), (0, u "com/example/brisk_odds/briskodds/automaton/LabelExpression$Or")] 7

/-- com/example/brisk_odds/briskodds/automaton/LabelExpression -/
def k3 : Class := { plain "com/example/brisk_odds/briskodds/automaton/LabelExpression" (some 0) with
  accessFlags := 1537
  interfaces := #[]
  cf := some (fileOf pool3 23 #[.nestMembers #[119, 46, 65, 62, 100]] #[] 1537 105 #[] #[{ accessFlags := 25, nameIndex := 91, descriptorIndex := 88, attributes := #[] }, { accessFlags := 25, nameIndex := 87, descriptorIndex := 88, attributes := #[] }])
  fields := #[{ name := "TRUE", type := (.object "com/example/brisk_odds/briskodds/automaton/LabelExpression"), accessFlags := 25, slot := 0, constantValue := 0 }, { name := "FALSE", type := (.object "com/example/brisk_odds/briskodds/automaton/LabelExpression"), accessFlags := 25, slot := 1, constantValue := 0 }]
  methods := #[]
  instanceTypes := #[]
  staticTypes := #[(.object "com/example/brisk_odds/briskodds/automaton/LabelExpression"), (.object "com/example/brisk_odds/briskodds/automaton/LabelExpression")]
  resolved := Array.replicate 128 none
  statics := none }

def pool4 : Array CpInfo := pool [(1, .methodref 2 3), (0, .class_ 4), (0, .nameAndType 5 6), (0, u "java/lang/Record"), (0, u "<init>"), (0, u "()V"), (0, .fieldref 8 9), (0, .class_ 10), (0, .nameAndType 11 12), (0, u "com/example/brisk_odds/briskodds/automaton/LabelExpression$Proposition"), (0, u "index"), (0, u "I"), (6, .class_ 20), (0, u "com/example/brisk_odds/briskodds/automaton/LabelExpression$Constant"), (0, .methodref 19 22), (0, .nameAndType 5 23), (0, u "(Z)V"), (12, .class_ 37), (0, u "com/example/brisk_odds/briskodds/automaton/LabelExpression"), (0, u "(I)V"), (5, u "assign"), (0, u "(IZ)Lcom/example/brisk_odds/briskodds/automaton/LabelExpression;"), (2, u "()I")] 24

def k4c0 : Code := { maxStack := 2, maxLocals := 2, code := prog_16_method_1_code, exceptionTable := #[], attributes := #[] }
def k4m0 : Method := { name := "<init>", desc := "(I)V", sig := { parameters := [.int], returnType := none }, accessFlags := 1, code := some k4c0 }
def k4c1 : Code := { maxStack := 3, maxLocals := 3, code := prog_16_method_3_code, exceptionTable := #[], attributes := #[] }
def k4m1 : Method := { name := "assign", desc := "(IZ)Lcom/example/brisk_odds/briskodds/automaton/LabelExpression;", sig := { parameters := [.int, .boolean], returnType := some (.object "com/example/brisk_odds/briskodds/automaton/LabelExpression") }, accessFlags := 1, code := some k4c1 }
def k4c2 : Code := { maxStack := 1, maxLocals := 1, code := prog_16_method_8_code, exceptionTable := #[], attributes := #[] }
def k4m2 : Method := { name := "index", desc := "()I", sig := { parameters := [], returnType := some .int }, accessFlags := 1, code := some k4c2 }
/-- com/example/brisk_odds/briskodds/automaton/LabelExpression$Proposition -/
def k4 : Class := { plain "com/example/brisk_odds/briskodds/automaton/LabelExpression$Proposition" (some 2) with
  accessFlags := 49
  interfaces := #[3]
  cf := some (fileOf pool4 8 #[.nestHost 36] #[{ accessFlags := 1, nameIndex := 5, descriptorIndex := 38, attributes := #[] }, { accessFlags := 1, nameIndex := 44, descriptorIndex := 45, attributes := #[] }, { accessFlags := 1, nameIndex := 11, descriptorIndex := 48, attributes := #[] }] 49 2 #[36] #[{ accessFlags := 18, nameIndex := 11, descriptorIndex := 12, attributes := #[] }])
  fields := #[{ name := "index", type := .int, accessFlags := 18, slot := 0, constantValue := 0 }]
  methods := #[k4m0, k4m1, k4m2]
  instanceTypes := #[.int]
  staticTypes := #[]
  resolved := Array.replicate 73 none
  statics := none }

def pool5 : Array CpInfo := pool [(1, .methodref 2 3), (0, .class_ 4), (0, .nameAndType 5 6), (0, u "java/lang/Record"), (0, u "<init>"), (0, u "()V"), (0, .fieldref 8 9), (0, .class_ 10), (0, .nameAndType 11 12), (0, u "com/example/brisk_odds/briskodds/automaton/LabelExpression$Constant"), (0, u "value"), (0, u "Z"), (12, .class_ 26), (0, u "com/example/brisk_odds/briskodds/automaton/LabelExpression"), (0, u "(Z)V"), (11, u "()Z")] 21

def k5c0 : Code := { maxStack := 2, maxLocals := 2, code := prog_13_method_1_code, exceptionTable := #[], attributes := #[] }
def k5m0 : Method := { name := "<init>", desc := "(Z)V", sig := { parameters := [.boolean], returnType := none }, accessFlags := 1, code := some k5c0 }
def k5c1 : Code := { maxStack := 1, maxLocals := 1, code := prog_13_method_8_code, exceptionTable := #[], attributes := #[] }
def k5m1 : Method := { name := "value", desc := "()Z", sig := { parameters := [], returnType := some .boolean }, accessFlags := 1, code := some k5c1 }
/-- com/example/brisk_odds/briskodds/automaton/LabelExpression$Constant -/
def k5 : Class := { plain "com/example/brisk_odds/briskodds/automaton/LabelExpression$Constant" (some 2) with
  accessFlags := 49
  interfaces := #[3]
  cf := some (fileOf pool5 8 #[.nestHost 25] #[{ accessFlags := 1, nameIndex := 5, descriptorIndex := 27, attributes := #[] }, { accessFlags := 1, nameIndex := 11, descriptorIndex := 39, attributes := #[] }] 49 2 #[25] #[{ accessFlags := 18, nameIndex := 11, descriptorIndex := 12, attributes := #[] }])
  fields := #[{ name := "value", type := .boolean, accessFlags := 18, slot := 0, constantValue := 0 }]
  methods := #[k5m0, k5m1]
  instanceTypes := #[.boolean]
  staticTypes := #[]
  resolved := Array.replicate 61 none
  statics := none }

def pool6 : Array CpInfo := pool [(1, u "java/lang/Cloneable"), (0, .class_ 1), (0, u "java/lang/Object"), (0, .class_ 3)] 3

/-- java/lang/Cloneable -/
def k6 : Class := { plain "java/lang/Cloneable" (some 0) with
  accessFlags := 1537
  interfaces := #[]
  cf := some (fileOf pool6 2 #[] #[] 1537 4 #[] #[])
  fields := #[]
  methods := #[]
  instanceTypes := #[]
  staticTypes := #[]
  resolved := Array.replicate 8 none
  statics := none }

def pool7 : Array CpInfo := pool [(1, u "java/io/Serializable"), (0, .class_ 1), (0, u "java/lang/Object"), (0, .class_ 3)] 3

/-- java/io/Serializable -/
def k7 : Class := { plain "java/io/Serializable" (some 0) with
  accessFlags := 1537
  interfaces := #[]
  cf := some (fileOf pool7 2 #[] #[] 1537 4 #[] #[])
  fields := #[]
  methods := #[]
  instanceTypes := #[]
  staticTypes := #[]
  resolved := Array.replicate 8 none
  statics := none }

/-- the primitive byte -/
def k8 : Class := { plain "byte" none with kind := .primitive 'B', accessFlags := 0x411 }
/-- [B -/
def k9 : Class := { plain "[B" (some 0) with kind := .array 8 .byte, interfaces := #[6, 7], accessFlags := 1041 }

/-- the primitive int -/
def k10 : Class := { plain "int" none with kind := .primitive 'I', accessFlags := 0x411 }
/-- [I -/
def k11 : Class := { plain "[I" (some 0) with kind := .array 10 .int, interfaces := #[6, 7], accessFlags := 1041 }

def heap : Heap := #[]
def classes : Array Class := #[k0, k1, k2, k3, k4, k5, k6, k7, k8, k9, k10, k11]
def interned : List (Array UInt16 × Addr) := []
def slotsUsed : Nat := 0
def theMethod : MethodId := ⟨1, 1⟩
def args0 : Array Value := #[.int 0, .int 1, .int 2]
def aboutOver (below : List Frame) : State where
  vm := { classes := classes, interned := interned.toArray }
  heap := heap
  slotsUsed := slotsUsed
  threads := #[{ frames := .invoking theMethod args0 :: below }]
def below0 : List Frame := [.native { method := ⟨0, 0⟩, args := #[] }]
def about1 : State := aboutOver below0
def p0 : Program := .bare "" "" ""
def e0 : Env := launch0.env 0 0 0
theorem w_frames : about1.frames = Frame.invoking theMethod args0 :: below0 := rfl
set_option maxRecDepth 65536 in
theorem w_args : argsFit about1.vm theMethod args0 = true := by decide +kernel
set_option maxRecDepth 65536 in
theorem w_heap : heapFits about1 = true := by decide +kernel
set_option maxRecDepth 65536 in
theorem w_runnable : about1.curStatus? = some .runnable := by decide +kernel
set_option maxRecDepth 65536 in
theorem w_alone : about1.alone = true := by decide +kernel
set_option maxRecDepth 65536 in
theorem w_named : about1.methodNamed? x = some theMethod := by decide +kernel
set_option maxRecDepth 65536 in
theorem w_hears : about1.hears theMethod below0 = true := by decide +kernel
set_option maxRecDepth 65536 in
theorem w_ripe : about1.ripe theMethod args0 below0 = true := by decide +kernel
theorem w_running : about1.status = .running := rfl
set_option maxRecDepth 65536 in
theorem w_room : about1.hasRoom e0.platform room_1 = true :=
  launch0.hasRoom_least _ room_1 (by decide +kernel) (by decide +kernel) (by decide +kernel) (by decide +kernel) (by decide +kernel) (by decide +kernel)
theorem allAtoms_all (ts : List Jvm.Cond) (a : Array Jvm.Value) (st : Jvm.State) : (allAtoms ts).before a st = ts.all (fun c => c.before a st) := by
  induction ts with
  | nil => rfl
  | cons c t ih =>
    show (Jvm.Cond.and c (allAtoms t)).before a st = _
    rw [Jvm.Cond.before_and, ih, List.all_cons]
def words1 : List Jvm.Cond := Jvm.Cond.code x code maxLocals ret :: tables_1
/-- a 'code' word, met by the world's own term for the bytes: nothing is compared byte by byte -/
theorem code_word {y : MethodName} {bytes : ByteArray} {mx : Nat} {rt : Option FieldType} {a : Array Value} {s : State} {m : MethodId} {meth : Method} {c : Code} (h1 : s.methodNamed? y = some m) (h2 : s.vm.method? m = some meth) (h3 : meth.code = some c) (h4 : c.code = bytes)
    (h5 : (c.maxLocals == mx && c.exceptionTable.isEmpty && decide (c.maxStack ≤ mostOperands) && decide (meth.sig.returnType = rt) && !meth.locks && decide (parseMethodDescriptor y.desc = some meth.sig)) = true) : (Jvm.Cond.code y bytes mx rt).before a s = true := by
  simp only [Bool.and_eq_true, beq_iff_eq, Bool.not_eq_true', decide_eq_true_eq] at h5
  obtain ⟨⟨⟨⟨⟨g1, g2⟩, g3⟩, g4⟩, g5⟩, g6⟩ := h5
  simp [Cond.before, Cond.holds, Cond.value, h1, h2, h3, h4, g1, g2, g3, g4, g5, g6]
def isCode : Jvm.Cond → Bool
  | .code _ _ _ _ => true
  | _ => false
theorem all_split {L : List Jvm.Cond} {P : Jvm.Cond → Bool} (h1 : L.all (fun c => isCode c || P c) = true) (h2 : ∀ c ∈ L.filter isCode, P c = true) : L.all P = true := by
  refine List.all_eq_true.mpr fun c hc => ?_
  have h := List.all_eq_true.mp h1 c hc
  rcases Bool.eq_false_or_eq_true (isCode c) with hi | hi
  · exact h2 c (List.mem_filter.mpr ⟨hc, hi⟩)
  · simpa [hi] using h
set_option maxRecDepth 65536 in
theorem w_c0 : (Jvm.Cond.code x code maxLocals ret).before args0 about1 = true := code_word (m := ⟨1, 1⟩) (meth := k1m1) (c := k1c1) (by decide +kernel) rfl rfl rfl (by decide +kernel)
set_option maxRecDepth 65536 in
theorem w_c1 : (Jvm.Cond.code ({ cls := "com/example/brisk_odds/briskodds/automaton/LabelExpression$Proposition", name := "<init>", desc := "(I)V" } : Jvm.MethodName) prog_16_method_1_code (2 : Nat) (Option.none : Option Jvm.ClassFile.FieldType)).before args0 about1 = true := code_word (m := ⟨4, 0⟩) (meth := k4m0) (c := k4c0) (by decide +kernel) rfl rfl rfl (by decide +kernel)
set_option maxRecDepth 65536 in
theorem w_c2 : (Jvm.Cond.code ({ cls := "java/lang/Record", name := "<init>", desc := "()V" } : Jvm.MethodName) jdk_30_method_1_code (1 : Nat) (Option.none : Option Jvm.ClassFile.FieldType)).before args0 about1 = true := code_word (m := ⟨2, 0⟩) (meth := k2m0) (c := k2c0) (by decide +kernel) rfl rfl rfl (by decide +kernel)
set_option maxRecDepth 65536 in
theorem w_c3 : (Jvm.Cond.code ({ cls := "java/lang/Object", name := "<init>", desc := "()V" } : Jvm.MethodName) object_method_1_code (1 : Nat) (Option.none : Option Jvm.ClassFile.FieldType)).before args0 about1 = true := code_word (m := ⟨0, 0⟩) (meth := k0m0) (c := k0c0) (by decide +kernel) rfl rfl rfl (by decide +kernel)
set_option maxRecDepth 65536 in
theorem w_c4 : (Jvm.Cond.code ({ cls := "com/example/brisk_odds/briskodds/automaton/LabelExpression$Proposition", name := "assign", desc := "(IZ)Lcom/example/brisk_odds/briskodds/automaton/LabelExpression;" } : Jvm.MethodName) prog_16_method_3_code (3 : Nat) (Option.some (Jvm.ClassFile.FieldType.object "com/example/brisk_odds/briskodds/automaton/LabelExpression"))).before args0 about1 = true := code_word (m := ⟨4, 1⟩) (meth := k4m1) (c := k4c1) (by decide +kernel) rfl rfl rfl (by decide +kernel)
set_option maxRecDepth 65536 in
theorem w_c5 : (Jvm.Cond.code ({ cls := "com/example/brisk_odds/briskodds/automaton/LabelExpression$Constant", name := "<init>", desc := "(Z)V" } : Jvm.MethodName) prog_13_method_1_code (2 : Nat) (Option.none : Option Jvm.ClassFile.FieldType)).before args0 about1 = true := code_word (m := ⟨5, 0⟩) (meth := k5m0) (c := k5c0) (by decide +kernel) rfl rfl rfl (by decide +kernel)
set_option maxRecDepth 65536 in
theorem w_c6 : (Jvm.Cond.code ({ cls := "com/example/brisk_odds/briskodds/automaton/LabelExpression$Constant", name := "value", desc := "()Z" } : Jvm.MethodName) prog_13_method_8_code (1 : Nat) (Option.some Jvm.ClassFile.FieldType.boolean)).before args0 about1 = true := code_word (m := ⟨5, 1⟩) (meth := k5m1) (c := k5c1) (by decide +kernel) rfl rfl rfl (by decide +kernel)
set_option maxRecDepth 65536 in
theorem w_c7 : (Jvm.Cond.code ({ cls := "com/example/brisk_odds/briskodds/automaton/LabelExpression$Proposition", name := "index", desc := "()I" } : Jvm.MethodName) prog_16_method_8_code (1 : Nat) (Option.some Jvm.ClassFile.FieldType.int)).before args0 about1 = true := code_word (m := ⟨4, 2⟩) (meth := k4m2) (c := k4c2) (by decide +kernel) rfl rfl rfl (by decide +kernel)
def codes1 : List Jvm.Cond := [Jvm.Cond.code x code maxLocals ret, Jvm.Cond.code ({ cls := "com/example/brisk_odds/briskodds/automaton/LabelExpression$Proposition", name := "<init>", desc := "(I)V" } : Jvm.MethodName) prog_16_method_1_code (2 : Nat) (Option.none : Option Jvm.ClassFile.FieldType), Jvm.Cond.code ({ cls := "java/lang/Record", name := "<init>", desc := "()V" } : Jvm.MethodName) jdk_30_method_1_code (1 : Nat) (Option.none : Option Jvm.ClassFile.FieldType), Jvm.Cond.code ({ cls := "java/lang/Object", name := "<init>", desc := "()V" } : Jvm.MethodName) object_method_1_code (1 : Nat) (Option.none : Option Jvm.ClassFile.FieldType), Jvm.Cond.code ({ cls := "com/example/brisk_odds/briskodds/automaton/LabelExpression$Proposition", name := "assign", desc := "(IZ)Lcom/example/brisk_odds/briskodds/automaton/LabelExpression;" } : Jvm.MethodName) prog_16_method_3_code (3 : Nat) (Option.some (Jvm.ClassFile.FieldType.object "com/example/brisk_odds/briskodds/automaton/LabelExpression")), Jvm.Cond.code ({ cls := "com/example/brisk_odds/briskodds/automaton/LabelExpression$Constant", name := "<init>", desc := "(Z)V" } : Jvm.MethodName) prog_13_method_1_code (2 : Nat) (Option.none : Option Jvm.ClassFile.FieldType), Jvm.Cond.code ({ cls := "com/example/brisk_odds/briskodds/automaton/LabelExpression$Constant", name := "value", desc := "()Z" } : Jvm.MethodName) prog_13_method_8_code (1 : Nat) (Option.some Jvm.ClassFile.FieldType.boolean), Jvm.Cond.code ({ cls := "com/example/brisk_odds/briskodds/automaton/LabelExpression$Proposition", name := "index", desc := "()I" } : Jvm.MethodName) prog_16_method_8_code (1 : Nat) (Option.some Jvm.ClassFile.FieldType.int)]
set_option maxRecDepth 65536 in
theorem codes_eq : words1.filter isCode = codes1 := rfl
theorem w_codes : ∀ c ∈ words1.filter isCode, c.before args0 about1 = true := by
  rw [codes_eq]
  intro c hc
  simp only [codes1, List.mem_cons, List.not_mem_nil, or_false] at hc
  rcases hc with rfl | rfl | rfl | rfl | rfl | rfl | rfl | rfl
  · exact w_c0
  · exact w_c1
  · exact w_c2
  · exact w_c3
  · exact w_c4
  · exact w_c5
  · exact w_c6
  · exact w_c7
set_option maxRecDepth 65536 in
theorem w_t1 : (words1.take 24).all (fun c => isCode c || c.before args0 about1) = true := by decide +kernel
set_option maxRecDepth 65536 in
theorem w_t2 : (words1.drop 24).all (fun c => isCode c || c.before args0 about1) = true := by decide +kernel
theorem w_tables : (allAtoms (Jvm.Cond.code x code maxLocals ret :: tables_1)).before args0 about1 = true := by
  rw [allAtoms_all]
  show words1.all (fun c => c.before args0 about1) = true
  refine all_split ?_ w_codes
  rw [← List.take_append_drop 24 words1, List.all_append, w_t1, w_t2]
  rfl
set_option maxRecDepth 65536 in
theorem w_case : (Jvm.Cond.and given_1 narrow_1).before args0 about1 = true := by decide +kernel
theorem w_applies : (headSpec (Jvm.Cond.code x code maxLocals ret :: tables_1) room_1).applies x e0.platform about1 = true :=
  (Spec.applies_iff w_frames).mpr ⟨w_running, w_runnable, w_alone, w_named, w_hears, w_ripe, w_room, w_tables⟩
theorem atStart : AtStart classFile x code maxLocals ret World_1 tables_1 room_1 Calls_1 rest_1 Pre_1 launch0 p0 e0 about1 theMethod args0 below0 :=
  ⟨lists_1, trivial, launch0.admits_env _ _ _, launch0.least_env, fairChoices_fair.cas, fairChoices_fair.clock, w_frames, w_args, w_heap, w_applies, trivial, trivial, w_case⟩
end start1
theorem witness_1 : WitnessClaimed_1 := ⟨start1.p0, start1.e0, start1.about1, start1.theMethod, start1.args0, start1.below0, start1.atStart⟩
end Jvm.Pilot.@@N@@
