import JvmDerived
import JvmDerived.Pilot.@@N@@Statement
import JvmDerived.Pilot.@@N@@Code
set_option linter.unusedVariables false
set_option linter.unusedSimpArgs false
namespace Jvm.Pilot.@@N@@
open Jvm Jvm.ClassFile Sem Op Lib Jvm.Free Jvm.Stand Jvm.LawKit Jvm.RoadKit Bundle Jvm.Pilot.@@N@@.Jvm.D
/-! GoKit: a walk told forwards. Go: from this frame on the method comes to its end as Q says; Does: what a call of a method does (over the library's MetFree). -/
section GoKit
variable {p : Program} {l : Launch} {e : Env} {R : Room} {s : State} {m : MethodId} {args : Array Value} {below : List Frame} {meth : Method} {c : Code} {T T' : State} {locs : List Loc} {cells slots : Nat} {Z : State} {a0 : Array Value} {h : Heap} {g g' : JFrame} {Q : Outcome → State → Prop}
def Go (p : Program) (e : Env) (below : List Frame) (Q : Outcome → State → Prop) (T : State) (g : JFrame) : Prop :=
  ∃ s₂ o, Steps p.tables e below (T.setTop g) s₂ ∧ s₂.status = .running ∧ Ended s₂ below o ∧ Q o s₂
theorem Go.st (k : ∀ target, Steps p.tables e below (T'.setTop g') target → Steps p.tables e below (T.setTop g) target) (H : Go p e below Q T' g') : Go p e below Q T g := by
  obtain ⟨s₂, o, h1, r⟩ := H; exact ⟨s₂, o, k _ h1, r⟩
theorem Go.eq (q : g = g') (H : Go p e below Q T g') : Go p e below Q T g := q ▸ H
def Ends (s : State) (k n : Nat) (P : Option Value → Heap → List Loc → Prop) : Outcome → State → Prop :=
  fun o U' => ∃ v L, o = .returned v ∧ P v U'.heap L ∧ FrameEnd s o U' L k n
theorem Go.ret (X : Stand p l e R s m args below meth c T locs cells slots) (hx : p.tables.exec = Jvm.exec) (hlk : meth.locks = false) {pc : Nat} {Ls : Array Slot} {w : Value} {t : FieldType} {i : Instr} {rest : List Value} {P : Option Value → Heap → List Loc → Prop} {k n : Nat}
    (hret : meth.sig.returnType = some t) (hn : narrow t w = w)
    (hi : (i = .ireturn ∧ (t = .int ∨ t = .boolean ∨ t = .byte ∨ t = .char ∨ t = .short) ∧ ∃ z, w = .int z) ∨ (i = .lreturn ∧ t = .long ∧ ∃ z, w = .long z) ∨ (i = .dreturn ∧ t = .double ∧ ∃ z, w = .double z) ∨ (i = .freturn ∧ t = .float ∧ ∃ z, w = .float z) ∨ (i = .areturn ∧ t.isReference = true ∧ w.isRef = true))
    (hd : decode c.code pc = .ok (i, 1)) (hk : cells ≤ k) (hs : slots ≤ n) (hP : P (some w) T.heap locs) : Go p e below (Ends s k n P) T (mkF m pc Ls (w :: rest)) := by
  obtain ⟨fs, hr, hrun, hended, hW, hsame⟩ := X.leave (v := some w) (fun h => by rw [hret] at h; cases h) hlk
  exact ⟨_, _, retOut X hx hret hn hi hd hr, hrun, hended, _, _, rfl, hP, ⟨_, rfl⟩, hW, hsame.mono hk hs⟩
theorem Go.retV (X : Stand p l e R s m args below meth c T locs cells slots) (hx : p.tables.exec = Jvm.exec) (hlk : meth.locks = false) {pc : Nat} {Ls : Array Slot} {P : Option Value → Heap → List Loc → Prop} {k n : Nat}
    (hret : meth.sig.returnType = none) (hd : decode c.code pc = .ok (.return_, 1)) (hk : cells ≤ k) (hs : slots ≤ n) (hP : P none T.heap locs) : Go p e below (Ends s k n P) T (mkF m pc Ls []) := by
  obtain ⟨fs, hr, hrun, hended, hW, hsame⟩ := X.leave (v := none) (fun _ => rfl) hlk
  exact ⟨_, _, X.returnOut hx hret hd hr, hrun, hended, _, _, rfl, hP, ⟨_, rfl⟩, hW, hsame.mono hk hs⟩
theorem Go.retZ (X : Stand p l e R s m args below meth c T locs cells slots) (hx : p.tables.exec = Jvm.exec) (hlk : meth.locks = false) {pc : Nat} {Ls : Array Slot} {z : Int32} {rest : List Value} {P : Option Value → Heap → List Loc → Prop} {k n : Nat}
    (hret : meth.sig.returnType = some .boolean) (hn : narrow .boolean (.int z) = .int z) (hd : decode c.code pc = .ok (.ireturn, 1)) (hk : cells ≤ k) (hs : slots ≤ n) (hP : P (some (.int z)) T.heap locs) : Go p e below (Ends s k n P) T (mkF m pc Ls (.int z :: rest)) :=
  Go.ret X hx hlk hret hn (Or.inl ⟨rfl, Or.inr (Or.inl rfl), z, rfl⟩) hd hk hs hP
theorem Go.retC (X : Stand p l e R s m args below meth c T locs cells slots) (hx : p.tables.exec = Jvm.exec) (hlk : meth.locks = false) {pc : Nat} {Ls : Array Slot} {z : Int32} {rest : List Value} {P : Option Value → Heap → List Loc → Prop} {k n : Nat}
    (hret : meth.sig.returnType = some .char) (hn : narrow .char (.int z) = .int z) (hd : decode c.code pc = .ok (.ireturn, 1)) (hk : cells ≤ k) (hs : slots ≤ n) (hP : P (some (.int z)) T.heap locs) : Go p e below (Ends s k n P) T (mkF m pc Ls (.int z :: rest)) :=
  Go.ret X hx hlk hret hn (Or.inl ⟨rfl, Or.inr (Or.inr (Or.inr (Or.inl rfl))), z, rfl⟩) hd hk hs hP
theorem Go.retI (X : Stand p l e R s m args below meth c T locs cells slots) (hx : p.tables.exec = Jvm.exec) (hlk : meth.locks = false) {pc : Nat} {Ls : Array Slot} {z : Int32} {rest : List Value} {P : Option Value → Heap → List Loc → Prop} {k n : Nat}
    (hret : meth.sig.returnType = some .int) (hd : decode c.code pc = .ok (.ireturn, 1)) (hk : cells ≤ k) (hs : slots ≤ n) (hP : P (some (.int z)) T.heap locs) : Go p e below (Ends s k n P) T (mkF m pc Ls (.int z :: rest)) :=
  Go.ret X hx hlk hret rfl (Or.inl ⟨rfl, Or.inl rfl, z, rfl⟩) hd hk hs hP
theorem Go.retJ (X : Stand p l e R s m args below meth c T locs cells slots) (hx : p.tables.exec = Jvm.exec) (hlk : meth.locks = false) {pc : Nat} {Ls : Array Slot} {z : Int64} {rest : List Value} {P : Option Value → Heap → List Loc → Prop} {k n : Nat}
    (hret : meth.sig.returnType = some .long) (hd : decode c.code pc = .ok (.lreturn, 1)) (hk : cells ≤ k) (hs : slots ≤ n) (hP : P (some (.long z)) T.heap locs) : Go p e below (Ends s k n P) T (mkF m pc Ls (.long z :: rest)) :=
  Go.ret X hx hlk hret rfl (Or.inr (Or.inl ⟨rfl, rfl, z, rfl⟩)) hd hk hs hP
theorem Go.retA (X : Stand p l e R s m args below meth c T locs cells slots) (hx : p.tables.exec = Jvm.exec) (hlk : meth.locks = false) {pc : Nat} {Ls : Array Slot} {w : Value} {t : FieldType} {rest : List Value} {P : Option Value → Heap → List Loc → Prop} {k n : Nat}
    (hret : meth.sig.returnType = some t) (ht : t.isReference = true) (hw : w.isRef = true) (hn : narrow t w = w) (hd : decode c.code pc = .ok (.areturn, 1)) (hk : cells ≤ k) (hs : slots ≤ n) (hP : P (some w) T.heap locs) : Go p e below (Ends s k n P) T (mkF m pc Ls (w :: rest)) :=
  Go.ret X hx hlk hret hn (Or.inr (Or.inr (Or.inr (Or.inr ⟨rfl, ht, hw⟩)))) hd hk hs hP
/-- what a call does: the arguments, the heap before, and P: what it returns, the heap behind, the places written -/
def Does (l : Launch) (Z : State) (y : MethodName) (bytes : ByteArray) (maxL : Nat) (ret : Option FieldType) (ws : List Jvm.Cond) (rm : Room) (as' : Array Value) (h : Heap) (P : Option Value → Heap → List Loc → Prop) : Prop :=
  MetFree l y (head1 (Jvm.Cond.code y bytes maxL ret :: ws) rm) (fun a U => a = as' ∧ Z.Warmed39 U.vm ∧ U.heap = h) (fun _ _ _ _ _ => True) (fun _ U o U' => ∃ v L, o = .returned v ∧ P v U'.heap L ∧ FrameEnd U o U' L rm.cells rm.slots)
theorem Does.intro {y : MethodName} {bytes : ByteArray} {maxL : Nat} {ret : Option FieldType} {ws : List Jvm.Cond} {rm : Room} {as' : Array Value} {P : Option Value → Heap → List Loc → Prop} {Ls : Array Slot} (hpn : plainName y.cls = true) (hef : ∀ m, entryFrame m as' maxL = mkF m 0 Ls [])
    (body : ∀ (p : Program) (e : Env) (s : State) (m : MethodId) (below : List Frame) (meth : Method) (c : Code) (s₁ : State), p.tables.exec = Jvm.exec → c.code = bytes → c.maxLocals = maxL → s.vm.findClass y.cls = some m.cls → meth.name = y.name → meth.sig.returnType = ret → meth.locks = false →
      Z.Warmed39 s.vm → s₁.heap = h → Stand p l e rm s m as' below meth c s₁ [] 0 0 → Go p e below (Ends s rm.cells rm.slots P) s₁ (mkF m 0 Ls [])) : Does l Z y bytes maxL ret ws rm as' h P := by
  refine MetFree.of_bodySF (plainFor_of_name hpn) hisR ?_
  intro p e s m args below meth c s₁ Bd hml0 hP hK
  obtain ⟨rfl, hZ, hh⟩ := hP
  have := body p e s m below meth c s₁ Bd.exec Bd.bytes hml0 (findClass_of_methodNamed Bd.named) (name_of_methodNamed Bd.named Bd.method).1 Bd.returns Bd.notSynchronized hZ (by rw [← hh, Bd.state]; rfl) (Stand.of_body Bd)
  obtain ⟨s₂, o, h1, h2, h3, h4⟩ := this
  exact ⟨s₂, o, castTop (hef m) h1, h2, h3, h4⟩
theorem Does.mono {y : MethodName} {bytes : ByteArray} {maxL : Nat} {ret : Option FieldType} {ws : List Jvm.Cond} {rm : Room} {as' : Array Value} {P P' : Option Value → Heap → List Loc → Prop} (D : Does l Z y bytes maxL ret ws rm as' h P) (q : ∀ v h' L, P v h' L → P' v h' L) : Does l Z y bytes maxL ret ws rm as' h P' := by
  intro p e ha hc hk s m args below hf happ hP hK
  obtain ⟨n, o, h1, h2, h3, v, L, h4, h5, h6⟩ := D p e ha hc hk s m args below hf happ hP hK
  exact ⟨n, o, h1, h2, h3, v, L, h4, q _ _ _ h5, h6⟩
theorem Does.static {y : MethodName} {bytes : ByteArray} {maxL : Nat} {ret : Option FieldType} {rm : Room} {P : Option Value → Heap → List Loc → Prop} {own : String} {index : Nat} {argsL rest : List Value} (D : Does l Z y bytes maxL ret [] rm argsL.toArray h P)
    (X : Stand p l e R s m args below meth c T locs cells slots) (hx : p.tables.exec = Jvm.exec) (hZ : Z.Warmed39 s.vm) (hown : s.vm.findClass own = some m.cls) (eT : T.heap = h) (w1 : (Cond.methodLink own index y).before a0 Z = true) (w2 : (Cond.static y).before a0 Z = true) (w3 : (Cond.initialized y.cls).before a0 Z = true) (w4 : (Cond.code y bytes maxL ret).before a0 Z = true)
    (hy : y.cls ≠ "java/lang/invoke/MethodHandle" ∧ y.cls ≠ "java/lang/invoke/VarHandle") (hg : g.method = m) (hsize : g.locals.size = c.maxLocals) (hlen : ∀ sig, parseMethodDescriptor y.desc = some sig → argsL.length = sig.parameters.length)
    (hstack : g.stack = argsL.reverse ++ rest) (hd : decode c.code g.pc = .ok (.invokestatic index, 3)) {W : Nat} (hW : 2 * g.monitorRoom + (rest.map fun v => v.category).sum ≤ W) (hf : rm.frames + 1 ≤ R.frames) (hl : W + (maxL + 11) + rm.locals ≤ R.locals) (hc : cells + rm.cells ≤ R.cells) (hs : slots + rm.slots ≤ R.slots) :
    ∃ v T' L, Stand p l e R s m args below meth c T' (locs ++ L) (cells + rm.cells) (slots + rm.slots) ∧ P v T'.heap L ∧ ∀ target, Steps p.tables e below (T'.setTop { g with pc := g.pc + 3, stack := v.toList ++ rest }) target → Steps p.tables e below (T.setTop g) target := by
  obtain ⟨v, vm₁, ⟨T', L', k', n'⟩, -, X', ⟨L, hQ, q1, q2, q3⟩, st⟩ := Jvm.LawKit.callS X hx (y := y) hown (mvT hZ w1) (mvT hZ w2) (mvT hZ w3) (mvT hZ w4) hy (backOf (W := W) D hZ w4 w3 hf hl) hg hsize (argsL := argsL) (rest := rest) hlen hstack hW hd (fun _ _ => ⟨rfl, eT, hc, hs⟩)
  dsimp only [Pt.U, Pt.locs, Pt.cells, Pt.slots] at X' q1 q2 q3 st hQ
  subst q1 q2 q3
  exact ⟨v, T', L, X', hQ, st⟩
theorem Does.special {y : MethodName} {bytes : ByteArray} {maxL : Nat} {rm : Room} {P : Option Value → Heap → List Loc → Prop} {own : String} {index : Nat} {a : Addr} {argsL rest : List Value} (D : Does l Z y bytes maxL none [] rm (.ref a :: argsL).toArray h P)
    (X : Stand p l e R s m args below meth c T locs cells slots) (hx : p.tables.exec = Jvm.exec) (hZ : Z.Warmed39 s.vm) (hown : s.vm.findClass own = some m.cls) (eT : T.heap = h) (hnm : y.name = "<init>") (w1 : (Cond.methodLink own index y).before a0 Z = true) (w2 : (Cond.instanceMethod y).before a0 Z = true) (w3 : (Cond.initialized y.cls).before a0 Z = true) (w4 : (Cond.code y bytes maxL none).before a0 Z = true)
    (hy : y.cls ≠ "java/lang/invoke/MethodHandle" ∧ y.cls ≠ "java/lang/invoke/VarHandle") (hg : g.method = m) (hsize : g.locals.size = c.maxLocals) (hlen : ∀ sig, parseMethodDescriptor y.desc = some sig → argsL.length = sig.parameters.length)
    (hstack : g.stack = argsL.reverse ++ .ref a :: rest) (hd : decode c.code g.pc = .ok (.invokespecial index, 3)) {W : Nat} (hW : 2 * g.monitorRoom + (rest.map fun v => v.category).sum ≤ W) (hf : rm.frames + 1 ≤ R.frames) (hl : W + (maxL + 11) + rm.locals ≤ R.locals) (hc : cells + rm.cells ≤ R.cells) (hs : slots + rm.slots ≤ R.slots) :
    ∃ v T' L, Stand p l e R s m args below meth c T' (locs ++ L) (cells + rm.cells) (slots + rm.slots) ∧ P v T'.heap L ∧ ∀ target, Steps p.tables e below (T'.setTop { g with pc := g.pc + 3, stack := v.toList ++ rest }) target → Steps p.tables e below (T.setTop g) target := by
  obtain ⟨v, vm₁, ⟨T', L', k', n'⟩, -, X', ⟨L, hQ, q1, q2, q3⟩, st⟩ := X.specialBack hx (y := y) hnm hown (mvT hZ w1) (mvT hZ w2) (mvT hZ w4) hy (backOf (W := W) D hZ w4 w3 hf hl) hg hsize (Steps.refl _) (a := a) (argsL := argsL) (rest := rest) hlen hstack hW hd (fun _ _ => ⟨rfl, eT, hc, hs⟩)
  dsimp only [Pt.U, Pt.locs, Pt.cells, Pt.slots] at X' q1 q2 q3 st hQ
  subst q1 q2 q3
  exact ⟨v, T', L, X', hQ, fun _ k => st.trans k⟩
theorem Does.virtual {y : MethodName} {bytes : ByteArray} {maxL : Nat} {ret : Option FieldType} {rm : Room} {P : Option Value → Heap → List Loc → Prop} {own C : String} {index : Nat} {a : Addr} {argsL rest : List Value} (D : Does l Z y bytes maxL ret [] rm (.ref a :: argsL).toArray h P)
    (X : Stand p l e R s m args below meth c T locs cells slots) (hx : p.tables.exec = Jvm.exec) (hZ : Z.Warmed39 s.vm) (hown : s.vm.findClass own = some m.cls) (eT : T.heap = h) (E : Exa Z h a C) (w1 : (Cond.methodLink own index y).before a0 Z = true) (w2 : (Cond.declares y).before a0 Z = true) (w2' : (Cond.selects C y y).before a0 Z = true) (w2'' : (Cond.instanceMethod y).before a0 Z = true) (w3 : (Cond.initialized y.cls).before a0 Z = true) (w4 : (Cond.code y bytes maxL ret).before a0 Z = true)
    (hy : y.cls ≠ "java/lang/invoke/MethodHandle" ∧ y.cls ≠ "java/lang/invoke/VarHandle") (hg : g.method = m) (hsize : g.locals.size = c.maxLocals) (hlen : ∀ sig, parseMethodDescriptor y.desc = some sig → argsL.length = sig.parameters.length)
    (hstack : g.stack = argsL.reverse ++ .ref a :: rest) (hd : decode c.code g.pc = .ok (.invokevirtual index, 3)) {W : Nat} (hW : 2 * g.monitorRoom + (rest.map fun v => v.category).sum ≤ W) (hf : rm.frames + 1 ≤ R.frames) (hl : W + (maxL + 11) + rm.locals ≤ R.locals) (hc : cells + rm.cells ≤ R.cells) (hs : slots + rm.slots ≤ R.slots) :
    ∃ v T' L, Stand p l e R s m args below meth c T' (locs ++ L) (cells + rm.cells) (slots + rm.slots) ∧ P v T'.heap L ∧ ∀ target, Steps p.tables e below (T'.setTop { g with pc := g.pc + 3, stack := v.toList ++ rest }) target → Steps p.tables e below (T.setTop g) target := by
  obtain ⟨cB, kB, q1, -, q3⟩ := isOf hZ eT E
  obtain ⟨v, vm₁, ⟨T', L', k', n'⟩, -, X', ⟨L, hQ, q1, q2, q3⟩, st⟩ := X.virtualBack hx (y := y) (z := y) hown (mvT hZ w1) (mvT hZ w2) (notFace_of_selects (args := #[]) (mvT hZ w2')) (mvT hZ w2') (mvT hZ w2'') hy (backOf (W := W) D hZ w4 w3 hf hl) q1 q3 hg hsize (Steps.refl _) (argsL := argsL) (rest := rest) hlen hstack hW hd (fun _ _ => ⟨rfl, eT, hc, hs⟩)
  dsimp only [Pt.U, Pt.locs, Pt.cells, Pt.slots] at X' q1 q2 q3 st hQ
  subst q1 q2 q3
  exact ⟨v, T', L, X', hQ, fun _ k => st.trans k⟩
theorem Does.virtualUp {x' z : MethodName} {owner : String} {bytes : ByteArray} {maxL : Nat} {ret : Option FieldType} {rm : Room} {P : Option Value → Heap → List Loc → Prop} {own C : String} {index : Nat} {a : Addr} {argsL rest : List Value} (D : Does l Z z bytes maxL ret [] rm (.ref a :: argsL).toArray h P)
    (X : Stand p l e R s m args below meth c T locs cells slots) (hx : p.tables.exec = Jvm.exec) (hZ : Z.Warmed39 s.vm) (hown : s.vm.findClass own = some m.cls) (eT : T.heap = h) (E : Exa Z h a C) (w1 : (Cond.methodLink own index x').before a0 Z = true) (w1' : (Cond.sameMethod x'.cls owner x'.name x'.desc).before a0 Z = true) (w2 : (Cond.declares ⟨owner, x'.name, x'.desc⟩).before a0 Z = true) (w2' : (Cond.selects C x' z).before a0 Z = true) (w2'' : (Cond.instanceMethod z).before a0 Z = true) (w3 : (Cond.initialized z.cls).before a0 Z = true) (w4 : (Cond.code z bytes maxL ret).before a0 Z = true)
    (hy : owner ≠ "java/lang/invoke/MethodHandle" ∧ owner ≠ "java/lang/invoke/VarHandle") (hg : g.method = m) (hsize : g.locals.size = c.maxLocals) (hlen : ∀ sig, parseMethodDescriptor x'.desc = some sig → argsL.length = sig.parameters.length)
    (hstack : g.stack = argsL.reverse ++ .ref a :: rest) (hd : decode c.code g.pc = .ok (.invokevirtual index, 3)) {W : Nat} (hW : 2 * g.monitorRoom + (rest.map fun v => v.category).sum ≤ W) (hf : rm.frames + 1 ≤ R.frames) (hl : W + (maxL + 11) + rm.locals ≤ R.locals) (hc : cells + rm.cells ≤ R.cells) (hs : slots + rm.slots ≤ R.slots) :
    ∃ v T' L, Stand p l e R s m args below meth c T' (locs ++ L) (cells + rm.cells) (slots + rm.slots) ∧ P v T'.heap L ∧ ∀ target, Steps p.tables e below (T'.setTop { g with pc := g.pc + 3, stack := v.toList ++ rest }) target → Steps p.tables e below (T.setTop g) target := by
  obtain ⟨cB, kB, q1, -, q3⟩ := isOf hZ eT E
  obtain ⟨v, vm₁, ⟨T', L', k', n'⟩, -, X', ⟨L, hQ, q1, q2, q3⟩, st⟩ := X.virtualBackUp hx (x := x') (y := z) hown (mvT hZ w1) (mvT hZ w1') (mvT hZ w2) hy (mvT hZ w2') (mvT hZ w2'') (backOf (W := W) D hZ w4 w3 hf hl) q1 q3 hg hsize (Steps.refl _) (argsL := argsL) (rest := rest) hlen hstack hW hd (fun _ _ => ⟨rfl, eT, hc, hs⟩)
  dsimp only [Pt.U, Pt.locs, Pt.cells, Pt.slots] at X' q1 q2 q3 st hQ
  subst q1 q2 q3
  exact ⟨v, T', L, X', hQ, fun _ k => st.trans k⟩
/-- a call that leaves the heap as it was and returns w -/
abbrev Val (w : Option Value) (h : Heap) : Option Value → Heap → List Loc → Prop := fun v h' L => v = w ∧ L = [] ∧ h' = h
theorem own_still {w : Option Value} {rm : Room} {rest : List Value} (hc : rm.cells = 0) (hs : rm.slots = 0)
    (H : ∃ v T' L, Stand p l e R s m args below meth c T' (locs ++ L) (cells + rm.cells) (slots + rm.slots) ∧ Val w h v T'.heap L ∧ ∀ target, Steps p.tables e below (T'.setTop { g with pc := g.pc + 3, stack := v.toList ++ rest }) target → Steps p.tables e below (T.setTop g) target) :
    ∃ T', Stand p l e R s m args below meth c T' locs cells slots ∧ T'.heap = h ∧ ∀ target, Steps p.tables e below (T'.setTop { g with pc := g.pc + 3, stack := w.toList ++ rest }) target → Steps p.tables e below (T.setTop g) target := by
  obtain ⟨v, T', L, X', ⟨rfl, rfl, e'⟩, st⟩ := H
  rw [hc, hs, List.append_nil] at X'
  exact ⟨T', X', e', st⟩
theorem own_Llt {x y : Int64} (h : x < y) : XT.cmpL x y < 0 := (lw_lt x y).mpr h
theorem own_Lnlt {x y : Int64} (h : ¬ x < y) : ¬ XT.cmpL x y < 0 := fun q => h ((lw_lt x y).mp q)
theorem own_Lgt {x y : Int64} (h : y < x) : 0 < XT.cmpL x y := (lw_gt x y).mpr h
theorem own_Lngt {x y : Int64} (h : ¬ y < x) : ¬ 0 < XT.cmpL x y := fun q => h ((lw_gt x y).mp q)
theorem own_Leq {x y : Int64} (h : x = y) : XT.cmpL x y = 0 := (lw_eq x y).mpr h
theorem own_Lneq {x y : Int64} (h : ¬ x = y) : ¬ XT.cmpL x y = 0 := fun q => h ((lw_eq x y).mp q)
theorem own_aeq {a b : Addr} (h : a = b) : XT.acmp .eq (.ref a) (.ref b) = true ∧ XT.acmp .ne (.ref a) (.ref b) = false := by subst h; exact ⟨decide_eq_true rfl, decide_eq_false (fun q => q rfl)⟩
theorem own_ane {a b : Addr} (h : ¬ a = b) : XT.acmp .eq (.ref a) (.ref b) = false ∧ XT.acmp .ne (.ref a) (.ref b) = true := ⟨decide_eq_false (fun q => h (by cases q; rfl)), decide_eq_true (fun q => h (by cases q; rfl))⟩
theorem own_ext {h0 h : Heap} (K : Keep h0 h []) : Ext h0 h := ⟨K.1, fun x c q => K.2.1 x c q nin0⟩
end GoKit
theorem own_sta {Z : State} {args : Array Value} {C f d K : String} (h : (Jvm.Cond.exactly (.static C f d) K).value args Z none Z [] = some true) (wi : (Jvm.Cond.initialized C).before args Z = true) (wl : (Jvm.Cond.laysStatic C f d).before args Z = true) :
    ∃ x, (Term.static C f d).eval args Z none [] Z = some (.ref x) ∧ Sta Z Z.heap C f d (.ref x) ∧ Exa Z Z.heap x K := by
  obtain ⟨x, ev⟩ := exa_v h
  exact ⟨x, ev, Sta.start ev (Or.inr ⟨wi, wl⟩), Exa.start ev h⟩
theorem own_fldI {Z : State} {args : Array Value} {t : Term} {O n d : String} {k : Int32} {x : Addr} (ev : t.eval args Z none [] Z = some (.ref x)) (h : (Jvm.Cond.eq (.field t O n d) (.int k)).value args Z none Z [] = some true) : Fld Z Z.heap x O n d (.int k) := by
  obtain ⟨u, v, e1, e2, k1, -⟩ := cmp_v (Or.inl h)
  have e3 : v = .int k := by simpa [Term.eval] using e2.symm
  subst e3
  obtain ⟨z, rfl⟩ : ∃ z, u = .int z := by cases u <;> simp [Kin, Value.isRef] at k1 ⊢
  have q : z = k := gotT (Cond.eq_ints e1 e2) h
  subst q
  exact Fld.start ((fld_at ev).symm.trans e1)
theorem d_jdk_30_method_1_code_0 : decode jdk_30_method_1_code 0 = .ok (.aload_n 0, 1) := by decide +kernel
theorem d_jdk_30_method_1_code_1 : decode jdk_30_method_1_code 1 = .ok (.invokespecial 1, 3) := by decide +kernel
theorem d_jdk_30_method_1_code_4 : decode jdk_30_method_1_code 4 = .ok (.return_, 1) := by decide +kernel
theorem pn_java_lang_Record : plainName "java/lang/Record" = true := by first | (simp [plainName, overriddenIn]; done) | decide +kernel
theorem d_prog_8_method_1_code_0 : decode prog_8_method_1_code 0 = .ok (.aload_n 0, 1) := by decide +kernel
theorem d_prog_8_method_1_code_1 : decode prog_8_method_1_code 1 = .ok (.invokespecial 1, 3) := by decide +kernel
theorem pd_2829V : parseMethodDescriptor "()V" = some ⟨[], none⟩ := by decide +kernel
theorem d_prog_8_method_1_code_4 : decode prog_8_method_1_code 4 = .ok (.aload_n 0, 1) := by decide +kernel
theorem d_prog_8_method_1_code_5 : decode prog_8_method_1_code 5 = .ok (.iload_n 1, 1) := by decide +kernel
theorem d_prog_8_method_1_code_6 : decode prog_8_method_1_code 6 = .ok (.putfield 7, 3) := by decide +kernel
theorem d_prog_8_method_1_code_9 : decode prog_8_method_1_code 9 = .ok (.aload_n 0, 1) := by decide +kernel
theorem d_prog_8_method_1_code_10 : decode prog_8_method_1_code 10 = .ok (.iload_n 2, 1) := by decide +kernel
theorem d_prog_8_method_1_code_11 : decode prog_8_method_1_code 11 = .ok (.putfield 13, 3) := by decide +kernel
theorem d_prog_8_method_1_code_14 : decode prog_8_method_1_code 14 = .ok (.aload_n 0, 1) := by decide +kernel
theorem d_prog_8_method_1_code_15 : decode prog_8_method_1_code 15 = .ok (.iload_n 3, 1) := by decide +kernel
theorem d_prog_8_method_1_code_16 : decode prog_8_method_1_code 16 = .ok (.putfield 16, 3) := by decide +kernel
theorem d_prog_8_method_1_code_19 : decode prog_8_method_1_code 19 = .ok (.return_, 1) := by decide +kernel
theorem pn_com_example_unanimo_unanimo_coordinator_RecoveryResult : plainName "com/example/unanimo/unanimo/coordinator/RecoveryResult" = true := by first | (simp [plainName, overriddenIn]; done) | decide +kernel
theorem d_prog_8_method_2_code_0 : decode prog_8_method_2_code 0 = .ok (.new 8, 3) := by decide +kernel
theorem d_prog_8_method_2_code_3 : decode prog_8_method_2_code 3 = .ok (.dup, 1) := by decide +kernel
theorem d_prog_8_method_2_code_4 : decode prog_8_method_2_code 4 = .ok (.aload_n 0, 1) := by decide +kernel
theorem d_prog_8_method_2_code_5 : decode prog_8_method_2_code 5 = .ok (.getfield 7, 3) := by decide +kernel
theorem d_prog_8_method_2_code_8 : decode prog_8_method_2_code 8 = .ok (.aload_n 1, 1) := by decide +kernel
theorem d_prog_8_method_2_code_9 : decode prog_8_method_2_code 9 = .ok (.getfield 7, 3) := by decide +kernel
theorem d_prog_8_method_2_code_12 : decode prog_8_method_2_code 12 = .ok (.iadd, 1) := by decide +kernel
theorem d_prog_8_method_2_code_13 : decode prog_8_method_2_code 13 = .ok (.aload_n 0, 1) := by decide +kernel
theorem d_prog_8_method_2_code_14 : decode prog_8_method_2_code 14 = .ok (.getfield 13, 3) := by decide +kernel
theorem d_prog_8_method_2_code_17 : decode prog_8_method_2_code 17 = .ok (.aload_n 1, 1) := by decide +kernel
theorem d_prog_8_method_2_code_18 : decode prog_8_method_2_code 18 = .ok (.getfield 13, 3) := by decide +kernel
theorem d_prog_8_method_2_code_21 : decode prog_8_method_2_code 21 = .ok (.iadd, 1) := by decide +kernel
theorem d_prog_8_method_2_code_22 : decode prog_8_method_2_code 22 = .ok (.aload_n 0, 1) := by decide +kernel
theorem d_prog_8_method_2_code_23 : decode prog_8_method_2_code 23 = .ok (.getfield 16, 3) := by decide +kernel
theorem d_prog_8_method_2_code_26 : decode prog_8_method_2_code 26 = .ok (.aload_n 1, 1) := by decide +kernel
theorem d_prog_8_method_2_code_27 : decode prog_8_method_2_code 27 = .ok (.getfield 16, 3) := by decide +kernel
theorem d_prog_8_method_2_code_30 : decode prog_8_method_2_code 30 = .ok (.iadd, 1) := by decide +kernel
theorem d_prog_8_method_2_code_31 : decode prog_8_method_2_code 31 = .ok (.invokespecial 19, 3) := by decide +kernel
theorem pd_28III29V : parseMethodDescriptor "(III)V" = some ⟨[.int, .int, .int], none⟩ := by decide +kernel
theorem d_prog_8_method_2_code_34 : decode prog_8_method_2_code 34 = .ok (.areturn, 1) := by decide +kernel
theorem d_prog_8_method_6_code_0 : decode prog_8_method_6_code 0 = .ok (.aload_n 0, 1) := by decide +kernel
theorem d_prog_8_method_6_code_1 : decode prog_8_method_6_code 1 = .ok (.getfield 7, 3) := by decide +kernel
theorem d_prog_8_method_6_code_4 : decode prog_8_method_6_code 4 = .ok (.ireturn, 1) := by decide +kernel
theorem d_prog_8_method_7_code_0 : decode prog_8_method_7_code 0 = .ok (.aload_n 0, 1) := by decide +kernel
theorem d_prog_8_method_7_code_1 : decode prog_8_method_7_code 1 = .ok (.getfield 13, 3) := by decide +kernel
theorem d_prog_8_method_7_code_4 : decode prog_8_method_7_code 4 = .ok (.ireturn, 1) := by decide +kernel
theorem d_prog_8_method_8_code_0 : decode prog_8_method_8_code 0 = .ok (.aload_n 0, 1) := by decide +kernel
theorem d_prog_8_method_8_code_1 : decode prog_8_method_8_code 1 = .ok (.getfield 16, 3) := by decide +kernel
theorem d_prog_8_method_8_code_4 : decode prog_8_method_8_code 4 = .ok (.ireturn, 1) := by decide +kernel
theorem pd_28Lcom2fexample2funanimo2funanimo2fcoordinator2fRecoveryResult3b29Lcom2fexample2funanimo2funanimo2fcoordinator2fRecoveryResult3b : parseMethodDescriptor "(Lcom/example/unanimo/unanimo/coordinator/RecoveryResult;)Lcom/example/unanimo/unanimo/coordinator/RecoveryResult;" = some ⟨[(.object "com/example/unanimo/unanimo/coordinator/RecoveryResult")], some (.object "com/example/unanimo/unanimo/coordinator/RecoveryResult")⟩ := by decide +kernel
theorem pd_2829I : parseMethodDescriptor "()I" = some ⟨[], some .int⟩ := by decide +kernel
theorem pn_com_example_unanimo_unanimo_coordinator_RecoveryResultPlusPinLaw : plainName "com/example/unanimo/unanimo/coordinator/RecoveryResultPlusPinLaw" = true := by first | (simp [plainName, overriddenIn]; done) | decide +kernel
theorem ef_rmRec (x0 : Addr) (m : MethodId) : entryFrame m #[(.ref x0)] 1 = mkF m 0 #[.val (.ref x0)] [] := by first | (simp [entryFrame, mkF, argsToLocals, Value.category]; done) | rfl
set_option maxRecDepth 65536 in
set_option maxHeartbeats 40000000 in
theorem rmRec (l : Launch) (Z : State) (a0 : Array Value) (hw : ∀ d ∈ tables_1, d.before a0 Z = true) (b1 : Addr) (h0 : Heap) :
    Does l Z (⟨"java/lang/Record", "<init>", "()V"⟩ : MethodName) jdk_30_method_1_code 1 none [] ({ frames := 1, cells := 0, slots := 0, locals := 12 } : Room) #[(.ref b1)] h0 (Val none h0) := by
  refine Does.intro pn_java_lang_Record (ef_rmRec b1) ?_
  intro p e s m below meth c s₁ hx hby hml hown hnm hret hlk hZ e0 X0
  show Go p e below _ s₁ (mkF m 0 #[.val (.ref b1)] [])
  refine Go.st (fun _ h => XS.aloadN X0.here hx rfl (hb hby d_jdk_30_method_1_code_0) rfl rfl h) ?_
  show Go p e below _ s₁ (mkF m 1 #[.val (.ref b1)] [(.ref b1)])
  obtain ⟨T1, X1, e1, st1⟩ := initO X0 hx hZ hown (hw _ (List.mem_of_getElem? (i := 11) rfl)) (hw _ (List.mem_of_getElem? (i := 12) rfl)) (hw _ (List.mem_of_getElem? (i := 13) rfl)) e0 (g := (mkF m 1 #[.val (.ref b1)] [(.ref b1)])) rfl (by rw [hml]; rfl) rfl (hb hby d_jdk_30_method_1_code_1) (by decide) (W := 0) (by show 2 * 0 + _ ≤ _; exact Nat.le_of_eq rfl) (by decide)
  refine Go.st st1 ?_
  show Go p e below _ T1 (mkF m 4 #[.val (.ref b1)] [])
  refine Go.retV X1 hx hlk hret (hb hby d_jdk_30_method_1_code_4) (by decide) (by decide) ?_
  exact ⟨rfl, rfl, e1⟩
theorem ef_rmInit (x0 : Addr) (x1 : Int32) (x2 : Int32) (x3 : Int32) (m : MethodId) : entryFrame m #[(.ref x0), (.int x1), (.int x2), (.int x3)] 4 = mkF m 0 #[.val (.ref x0), .val (.int x1), .val (.int x2), .val (.int x3)] [] := by first | (simp [entryFrame, mkF, argsToLocals, Value.category]; done) | rfl
set_option maxRecDepth 65536 in
set_option maxHeartbeats 40000000 in
theorem rmInit (l : Launch) (Z : State) (a0 : Array Value) (hw : ∀ d ∈ tables_1, d.before a0 Z = true) (b1 : Addr) (p1 p2 p3 : Int32) (h0 : Heap) (n0 : Nat) (Z0 : n0 ≤ h0.size) (F0_ : Fld Z h0 b1 "com/example/unanimo/unanimo/coordinator/RecoveryResult" "committed" "I" (.int (0 : Int32))) (F1_ : Fld Z h0 b1 "com/example/unanimo/unanimo/coordinator/RecoveryResult" "rolledBack" "I" (.int (0 : Int32))) (F2_ : Fld Z h0 b1 "com/example/unanimo/unanimo/coordinator/RecoveryResult" "failures" "I" (.int (0 : Int32))) (E1 : Exa Z h0 b1 "com/example/unanimo/unanimo/coordinator/RecoveryResult") (g_b1 : n0 ≤ b1) :
    Does l Z (⟨"com/example/unanimo/unanimo/coordinator/RecoveryResult", "<init>", "(III)V"⟩ : MethodName) prog_8_method_1_code 4 none [] ({ frames := 2, cells := 0, slots := 0, locals := 24 } : Room) #[(.ref b1), (.int p1), (.int p2), (.int p3)] h0 (fun v h L => v = none ∧ Fr n0 L ∧ Keep h0 h [b1] ∧ Fld Z h b1 "com/example/unanimo/unanimo/coordinator/RecoveryResult" "committed" "I" (.int p1) ∧ Fld Z h b1 "com/example/unanimo/unanimo/coordinator/RecoveryResult" "rolledBack" "I" (.int p2) ∧ Fld Z h b1 "com/example/unanimo/unanimo/coordinator/RecoveryResult" "failures" "I" (.int p3)) := by
  refine Does.intro pn_com_example_unanimo_unanimo_coordinator_RecoveryResult (ef_rmInit b1 p1 p2 p3) ?_
  intro p e s m below meth c s₁ hx hby hml hown hnm hret hlk hZ e0 X0
  show Go p e below _ s₁ (mkF m 0 #[.val (.ref b1), .val (.int p1), .val (.int p2), .val (.int p3)] [])
  have N0 := Fr.nil n0
  refine Go.st (fun _ h => XS.aloadN X0.here hx rfl (hb hby d_prog_8_method_1_code_0) rfl rfl h) ?_
  show Go p e below _ s₁ (mkF m 1 #[.val (.ref b1), .val (.int p1), .val (.int p2), .val (.int p3)] [(.ref b1)])
  obtain ⟨T1, X1, e1, st1⟩ := own_still rfl rfl (Does.special (y := (⟨"java/lang/Record", "<init>", "()V"⟩ : MethodName)) (g := (mkF m 1 #[.val (.ref b1), .val (.int p1), .val (.int p2), .val (.int p3)] [(.ref b1)])) (a := b1) (rmRec l Z a0 hw b1 h0) X0 hx hZ hown e0 rfl (hw _ (List.mem_of_getElem? (i := 6) rfl)) (hw _ (List.mem_of_getElem? (i := 7) rfl)) (hw _ (List.mem_of_getElem? (i := 9) rfl)) (hw _ (List.mem_of_getElem? (i := 10) rfl)) (by decide) rfl (by rw [hml]; rfl) (argsL := []) (rest := []) (lenOf pd_2829V rfl) rfl (hb hby d_prog_8_method_1_code_1) (W := 0) (by show 2 * 0 + _ ≤ _; exact Nat.le_of_eq rfl) (by decide) (by decide) (by decide) (by decide))
  refine Go.st st1 ?_
  show Go p e below _ T1 (mkF m 4 #[.val (.ref b1), .val (.int p1), .val (.int p2), .val (.int p3)] [])
  refine Go.st (fun _ h => XS.aloadN X1.here hx rfl (hb hby d_prog_8_method_1_code_4) rfl rfl h) ?_
  show Go p e below _ T1 (mkF m 5 #[.val (.ref b1), .val (.int p1), .val (.int p2), .val (.int p3)] [(.ref b1)])
  refine Go.st (fun _ h => XS.iloadN X1.here hx rfl (hb hby d_prog_8_method_1_code_5) rfl h) ?_
  show Go p e below _ T1 (mkF m 6 #[.val (.ref b1), .val (.int p1), .val (.int p2), .val (.int p3)] [(.int p1), (.ref b1)])
  obtain ⟨T2, h2, X2, e2, W2, st2⟩ := putF X1 hx hZ hown (host := "") (Or.inl (hw _ (List.mem_of_getElem? (i := 14) rfl))) Via.refl e1 F0_ E1 (Or.inr ⟨(hw _ (List.mem_of_getElem? (i := 15) rfl)), rfl, hnm⟩) (hw _ (List.mem_of_getElem? (i := 1) rfl)) (ty := .int) (by decide) rfl rfl (g := (mkF m 6 #[.val (.ref b1), .val (.int p1), .val (.int p2), .val (.int p3)] [(.int p1), (.ref b1)])) rfl rfl (hb hby d_prog_8_method_1_code_6)
  have N2 := Fr.snoc X2 N0 g_b1
  have E2_0 := E1.wr W2
  have F2_1 := F0_.same W2
  have F2_2 := F2_.other W2 (Or.inr (slot_ne (Or.inr (hw _ (List.mem_of_getElem? (i := 19) rfl))) (Or.inr (hw _ (List.mem_of_getElem? (i := 15) rfl))) (by decide) (t := .int) (by decide) (t' := .int) (by decide)))
  have F2_3 := F1_.other W2 (Or.inr (slot_ne (Or.inr (hw _ (List.mem_of_getElem? (i := 17) rfl))) (Or.inr (hw _ (List.mem_of_getElem? (i := 15) rfl))) (by decide) (t := .int) (by decide) (t' := .int) (by decide)))
  have K2 := (Keep.refl _ [b1]).wr W2 (Or.inl (List.mem_of_getElem? (i := 0) rfl))
  refine Go.st st2 ?_
  show Go p e below _ T2 (mkF m 9 #[.val (.ref b1), .val (.int p1), .val (.int p2), .val (.int p3)] [])
  refine Go.st (fun _ h => XS.aloadN X2.here hx rfl (hb hby d_prog_8_method_1_code_9) rfl rfl h) ?_
  show Go p e below _ T2 (mkF m 10 #[.val (.ref b1), .val (.int p1), .val (.int p2), .val (.int p3)] [(.ref b1)])
  refine Go.st (fun _ h => XS.iloadN X2.here hx rfl (hb hby d_prog_8_method_1_code_10) rfl h) ?_
  show Go p e below _ T2 (mkF m 11 #[.val (.ref b1), .val (.int p1), .val (.int p2), .val (.int p3)] [(.int p2), (.ref b1)])
  obtain ⟨T3, h3, X3, e3, W3, st3⟩ := putF X2 hx hZ hown (host := "") (Or.inl (hw _ (List.mem_of_getElem? (i := 16) rfl))) Via.refl e2 F2_3 E2_0 (Or.inr ⟨(hw _ (List.mem_of_getElem? (i := 17) rfl)), rfl, hnm⟩) (hw _ (List.mem_of_getElem? (i := 1) rfl)) (ty := .int) (by decide) rfl rfl (g := (mkF m 11 #[.val (.ref b1), .val (.int p1), .val (.int p2), .val (.int p3)] [(.int p2), (.ref b1)])) rfl rfl (hb hby d_prog_8_method_1_code_11)
  have N3 := Fr.snoc X3 N2 g_b1
  have E3_0 := E2_0.wr W3
  have F3_1 := F2_1.other W3 (Or.inr (slot_ne (Or.inr (hw _ (List.mem_of_getElem? (i := 15) rfl))) (Or.inr (hw _ (List.mem_of_getElem? (i := 17) rfl))) (by decide) (t := .int) (by decide) (t' := .int) (by decide)))
  have F3_2 := F2_2.other W3 (Or.inr (slot_ne (Or.inr (hw _ (List.mem_of_getElem? (i := 19) rfl))) (Or.inr (hw _ (List.mem_of_getElem? (i := 17) rfl))) (by decide) (t := .int) (by decide) (t' := .int) (by decide)))
  have F3_3 := F2_3.same W3
  have K3 := K2.wr W3 (Or.inl (List.mem_of_getElem? (i := 0) rfl))
  refine Go.st st3 ?_
  show Go p e below _ T3 (mkF m 14 #[.val (.ref b1), .val (.int p1), .val (.int p2), .val (.int p3)] [])
  refine Go.st (fun _ h => XS.aloadN X3.here hx rfl (hb hby d_prog_8_method_1_code_14) rfl rfl h) ?_
  show Go p e below _ T3 (mkF m 15 #[.val (.ref b1), .val (.int p1), .val (.int p2), .val (.int p3)] [(.ref b1)])
  refine Go.st (fun _ h => XS.iloadN X3.here hx rfl (hb hby d_prog_8_method_1_code_15) rfl h) ?_
  show Go p e below _ T3 (mkF m 16 #[.val (.ref b1), .val (.int p1), .val (.int p2), .val (.int p3)] [(.int p3), (.ref b1)])
  obtain ⟨T4, h4, X4, e4, W4, st4⟩ := putF X3 hx hZ hown (host := "") (Or.inl (hw _ (List.mem_of_getElem? (i := 18) rfl))) Via.refl e3 F3_2 E3_0 (Or.inr ⟨(hw _ (List.mem_of_getElem? (i := 19) rfl)), rfl, hnm⟩) (hw _ (List.mem_of_getElem? (i := 1) rfl)) (ty := .int) (by decide) rfl rfl (g := (mkF m 16 #[.val (.ref b1), .val (.int p1), .val (.int p2), .val (.int p3)] [(.int p3), (.ref b1)])) rfl rfl (hb hby d_prog_8_method_1_code_16)
  have N4 := Fr.snoc X4 N3 g_b1
  have E4_0 := E3_0.wr W4
  have F4_1 := F3_1.other W4 (Or.inr (slot_ne (Or.inr (hw _ (List.mem_of_getElem? (i := 15) rfl))) (Or.inr (hw _ (List.mem_of_getElem? (i := 19) rfl))) (by decide) (t := .int) (by decide) (t' := .int) (by decide)))
  have F4_2 := F3_2.same W4
  have F4_3 := F3_3.other W4 (Or.inr (slot_ne (Or.inr (hw _ (List.mem_of_getElem? (i := 17) rfl))) (Or.inr (hw _ (List.mem_of_getElem? (i := 19) rfl))) (by decide) (t := .int) (by decide) (t' := .int) (by decide)))
  have K4 := K3.wr W4 (Or.inl (List.mem_of_getElem? (i := 0) rfl))
  refine Go.st st4 ?_
  show Go p e below _ T4 (mkF m 19 #[.val (.ref b1), .val (.int p1), .val (.int p2), .val (.int p3)] [])
  refine Go.retV X4 hx hlk hret (hb hby d_prog_8_method_1_code_19) (by decide) (by decide) ?_
  rw [e4]
  exact ⟨rfl, N4, K4, F4_1, F4_3, F4_2⟩
theorem ef_rmPlus (x0 : Addr) (x1 : Addr) (m : MethodId) : entryFrame m #[(.ref x0), (.ref x1)] 2 = mkF m 0 #[.val (.ref x0), .val (.ref x1)] [] := by first | (simp [entryFrame, mkF, argsToLocals, Value.category]; done) | rfl
set_option maxRecDepth 65536 in
set_option maxHeartbeats 40000000 in
theorem rmPlus (l : Launch) (Z : State) (a0 : Array Value) (hw : ∀ d ∈ tables_1, d.before a0 Z = true) (b1 b2 : Addr) (p10 p11 p12 p20 p21 p22 : Int32) (h0 : Heap) (n0 : Nat) (Z0 : n0 ≤ h0.size) (G10 : Fld Z h0 b1 "com/example/unanimo/unanimo/coordinator/RecoveryResult" "committed" "I" (.int p10)) (G11 : Fld Z h0 b1 "com/example/unanimo/unanimo/coordinator/RecoveryResult" "rolledBack" "I" (.int p11)) (G12 : Fld Z h0 b1 "com/example/unanimo/unanimo/coordinator/RecoveryResult" "failures" "I" (.int p12)) (G20 : Fld Z h0 b2 "com/example/unanimo/unanimo/coordinator/RecoveryResult" "committed" "I" (.int p20)) (G21 : Fld Z h0 b2 "com/example/unanimo/unanimo/coordinator/RecoveryResult" "rolledBack" "I" (.int p21)) (G22 : Fld Z h0 b2 "com/example/unanimo/unanimo/coordinator/RecoveryResult" "failures" "I" (.int p22)) :
    Does l Z (⟨"com/example/unanimo/unanimo/coordinator/RecoveryResult", "plus", "(Lcom/example/unanimo/unanimo/coordinator/RecoveryResult;)Lcom/example/unanimo/unanimo/coordinator/RecoveryResult;"⟩ : MethodName) prog_8_method_2_code 2 (some (.object "com/example/unanimo/unanimo/coordinator/RecoveryResult")) [] ({ frames := 3, cells := 1, slots := 3, locals := 41 } : Room) #[(.ref b1), (.ref b2)] h0 (fun v h L => ∃ r, v = some (.ref r) ∧ Fr n0 L ∧ Keep h0 h [] ∧ h0.size ≤ r ∧ Exa Z h r "com/example/unanimo/unanimo/coordinator/RecoveryResult" ∧ Fld Z h r "com/example/unanimo/unanimo/coordinator/RecoveryResult" "committed" "I" (.int (p10 + p20)) ∧ Fld Z h r "com/example/unanimo/unanimo/coordinator/RecoveryResult" "rolledBack" "I" (.int (p11 + p21)) ∧ Fld Z h r "com/example/unanimo/unanimo/coordinator/RecoveryResult" "failures" "I" (.int (p12 + p22))) := by
  refine Does.intro pn_com_example_unanimo_unanimo_coordinator_RecoveryResult (ef_rmPlus b1 b2) ?_
  intro p e s m below meth c s₁ hx hby hml hown hnm hret hlk hZ e0 X0
  show Go p e below _ s₁ (mkF m 0 #[.val (.ref b1), .val (.ref b2)] [])
  have N0 := Fr.nil n0
  obtain ⟨T1, h1, X1, e1, E1, A1, D1, -, st1⟩ := newO X0 hx hZ hown (hw _ (List.mem_of_getElem? (i := 25) rfl)) (hw _ (List.mem_of_getElem? (i := 1) rfl)) (hw _ (List.mem_of_getElem? (i := 2) rfl)) e0 (g := (mkF m 0 #[.val (.ref b1), .val (.ref b2)] [])) rfl (hb hby d_prog_8_method_2_code_0) (by decide) (by decide)
  obtain ⟨o1, g1⟩ : ∃ z, z = h0.size := ⟨_, rfl⟩
  rw [← g1] at A1 D1 st1
  have le_o1 : h0.size ≤ o1 := by rw [g1]; exact (Keep.refl _ []).1
  have K1 := (Keep.refl _ []).ext E1
  have F1_committed : Fld Z h1 o1 "com/example/unanimo/unanimo/coordinator/RecoveryResult" "committed" "I" (.int (0 : Int32)) := D1 (Or.inr (hw _ (List.mem_of_getElem? (i := 15) rfl))) (ty := .int) (by decide)
  have F1_rolledBack : Fld Z h1 o1 "com/example/unanimo/unanimo/coordinator/RecoveryResult" "rolledBack" "I" (.int (0 : Int32)) := D1 (Or.inr (hw _ (List.mem_of_getElem? (i := 17) rfl))) (ty := .int) (by decide)
  have F1_failures : Fld Z h1 o1 "com/example/unanimo/unanimo/coordinator/RecoveryResult" "failures" "I" (.int (0 : Int32)) := D1 (Or.inr (hw _ (List.mem_of_getElem? (i := 19) rfl))) (ty := .int) (by decide)
  refine Go.st st1 ?_
  show Go p e below _ T1 (mkF m 3 #[.val (.ref b1), .val (.ref b2)] [(.ref o1)])
  refine Go.st (fun _ h => XS.dup X1.here hx rfl (hb hby d_prog_8_method_2_code_3) rfl rfl h) ?_
  show Go p e below _ T1 (mkF m 4 #[.val (.ref b1), .val (.ref b2)] [(.ref o1), (.ref o1)])
  refine Go.st (fun _ h => XS.aloadN X1.here hx rfl (hb hby d_prog_8_method_2_code_4) rfl rfl h) ?_
  show Go p e below _ T1 (mkF m 5 #[.val (.ref b1), .val (.ref b2)] [(.ref b1), (.ref o1), (.ref o1)])
  obtain ⟨T2, X2, e2, st2⟩ := getF X1 hx hZ hown (host := "") (Or.inl (hw _ (List.mem_of_getElem? (i := 14) rfl))) Via.refl e1 (G10.keep K1 nin0) (g := (mkF m 5 #[.val (.ref b1), .val (.ref b2)] [(.ref b1), (.ref o1), (.ref o1)])) rfl rfl (hb hby d_prog_8_method_2_code_5)
  refine Go.st st2 ?_
  show Go p e below _ T2 (mkF m 8 #[.val (.ref b1), .val (.ref b2)] [(.int p10), (.ref o1), (.ref o1)])
  refine Go.st (fun _ h => XS.aloadN X2.here hx rfl (hb hby d_prog_8_method_2_code_8) rfl rfl h) ?_
  show Go p e below _ T2 (mkF m 9 #[.val (.ref b1), .val (.ref b2)] [(.ref b2), (.int p10), (.ref o1), (.ref o1)])
  obtain ⟨T3, X3, e3, st3⟩ := getF X2 hx hZ hown (host := "") (Or.inl (hw _ (List.mem_of_getElem? (i := 14) rfl))) Via.refl e2 (G20.keep K1 nin0) (g := (mkF m 9 #[.val (.ref b1), .val (.ref b2)] [(.ref b2), (.int p10), (.ref o1), (.ref o1)])) rfl rfl (hb hby d_prog_8_method_2_code_9)
  refine Go.st st3 ?_
  show Go p e below _ T3 (mkF m 12 #[.val (.ref b1), .val (.ref b2)] [(.int p20), (.int p10), (.ref o1), (.ref o1)])
  refine Go.st (fun _ h => XS.iadd X3.here hx rfl (hb hby d_prog_8_method_2_code_12) rfl h) ?_
  show Go p e below _ T3 (mkF m 13 #[.val (.ref b1), .val (.ref b2)] [(.int (p10 + p20)), (.ref o1), (.ref o1)])
  refine Go.st (fun _ h => XS.aloadN X3.here hx rfl (hb hby d_prog_8_method_2_code_13) rfl rfl h) ?_
  show Go p e below _ T3 (mkF m 14 #[.val (.ref b1), .val (.ref b2)] [(.ref b1), (.int (p10 + p20)), (.ref o1), (.ref o1)])
  obtain ⟨T4, X4, e4, st4⟩ := getF X3 hx hZ hown (host := "") (Or.inl (hw _ (List.mem_of_getElem? (i := 16) rfl))) Via.refl e3 (G11.keep K1 nin0) (g := (mkF m 14 #[.val (.ref b1), .val (.ref b2)] [(.ref b1), (.int (p10 + p20)), (.ref o1), (.ref o1)])) rfl rfl (hb hby d_prog_8_method_2_code_14)
  refine Go.st st4 ?_
  show Go p e below _ T4 (mkF m 17 #[.val (.ref b1), .val (.ref b2)] [(.int p11), (.int (p10 + p20)), (.ref o1), (.ref o1)])
  refine Go.st (fun _ h => XS.aloadN X4.here hx rfl (hb hby d_prog_8_method_2_code_17) rfl rfl h) ?_
  show Go p e below _ T4 (mkF m 18 #[.val (.ref b1), .val (.ref b2)] [(.ref b2), (.int p11), (.int (p10 + p20)), (.ref o1), (.ref o1)])
  obtain ⟨T5, X5, e5, st5⟩ := getF X4 hx hZ hown (host := "") (Or.inl (hw _ (List.mem_of_getElem? (i := 16) rfl))) Via.refl e4 (G21.keep K1 nin0) (g := (mkF m 18 #[.val (.ref b1), .val (.ref b2)] [(.ref b2), (.int p11), (.int (p10 + p20)), (.ref o1), (.ref o1)])) rfl rfl (hb hby d_prog_8_method_2_code_18)
  refine Go.st st5 ?_
  show Go p e below _ T5 (mkF m 21 #[.val (.ref b1), .val (.ref b2)] [(.int p21), (.int p11), (.int (p10 + p20)), (.ref o1), (.ref o1)])
  refine Go.st (fun _ h => XS.iadd X5.here hx rfl (hb hby d_prog_8_method_2_code_21) rfl h) ?_
  show Go p e below _ T5 (mkF m 22 #[.val (.ref b1), .val (.ref b2)] [(.int (p11 + p21)), (.int (p10 + p20)), (.ref o1), (.ref o1)])
  refine Go.st (fun _ h => XS.aloadN X5.here hx rfl (hb hby d_prog_8_method_2_code_22) rfl rfl h) ?_
  show Go p e below _ T5 (mkF m 23 #[.val (.ref b1), .val (.ref b2)] [(.ref b1), (.int (p11 + p21)), (.int (p10 + p20)), (.ref o1), (.ref o1)])
  obtain ⟨T6, X6, e6, st6⟩ := getF X5 hx hZ hown (host := "") (Or.inl (hw _ (List.mem_of_getElem? (i := 18) rfl))) Via.refl e5 (G12.keep K1 nin0) (g := (mkF m 23 #[.val (.ref b1), .val (.ref b2)] [(.ref b1), (.int (p11 + p21)), (.int (p10 + p20)), (.ref o1), (.ref o1)])) rfl rfl (hb hby d_prog_8_method_2_code_23)
  refine Go.st st6 ?_
  show Go p e below _ T6 (mkF m 26 #[.val (.ref b1), .val (.ref b2)] [(.int p12), (.int (p11 + p21)), (.int (p10 + p20)), (.ref o1), (.ref o1)])
  refine Go.st (fun _ h => XS.aloadN X6.here hx rfl (hb hby d_prog_8_method_2_code_26) rfl rfl h) ?_
  show Go p e below _ T6 (mkF m 27 #[.val (.ref b1), .val (.ref b2)] [(.ref b2), (.int p12), (.int (p11 + p21)), (.int (p10 + p20)), (.ref o1), (.ref o1)])
  obtain ⟨T7, X7, e7, st7⟩ := getF X6 hx hZ hown (host := "") (Or.inl (hw _ (List.mem_of_getElem? (i := 18) rfl))) Via.refl e6 (G22.keep K1 nin0) (g := (mkF m 27 #[.val (.ref b1), .val (.ref b2)] [(.ref b2), (.int p12), (.int (p11 + p21)), (.int (p10 + p20)), (.ref o1), (.ref o1)])) rfl rfl (hb hby d_prog_8_method_2_code_27)
  refine Go.st st7 ?_
  show Go p e below _ T7 (mkF m 30 #[.val (.ref b1), .val (.ref b2)] [(.int p22), (.int p12), (.int (p11 + p21)), (.int (p10 + p20)), (.ref o1), (.ref o1)])
  refine Go.st (fun _ h => XS.iadd X7.here hx rfl (hb hby d_prog_8_method_2_code_30) rfl h) ?_
  show Go p e below _ T7 (mkF m 31 #[.val (.ref b1), .val (.ref b2)] [(.int (p12 + p22)), (.int (p11 + p21)), (.int (p10 + p20)), (.ref o1), (.ref o1)])
  obtain ⟨_, T8, L8, X8, ⟨rfl, Nc8, Kc8, Fc8_0, Fc8_1, Fc8_2⟩, st8⟩ := Does.special (y := (⟨"com/example/unanimo/unanimo/coordinator/RecoveryResult", "<init>", "(III)V"⟩ : MethodName)) (g := (mkF m 31 #[.val (.ref b1), .val (.ref b2)] [(.int (p12 + p22)), (.int (p11 + p21)), (.int (p10 + p20)), (.ref o1), (.ref o1)])) (a := o1) (rmInit l Z a0 hw o1 (p10 + p20) (p11 + p21) (p12 + p22) h1 n0 (Nat.le_trans Z0 K1.1) F1_committed F1_rolledBack F1_failures A1 (Nat.le_trans Z0 le_o1)) X7 hx hZ hown e7 rfl (hw _ (List.mem_of_getElem? (i := 26) rfl)) (hw _ (List.mem_of_getElem? (i := 4) rfl)) (hw _ (List.mem_of_getElem? (i := 2) rfl)) (hw _ (List.mem_of_getElem? (i := 5) rfl)) (by decide) rfl (by rw [hml]; rfl) (argsL := [(.int (p10 + p20)), (.int (p11 + p21)), (.int (p12 + p22))]) (rest := [(.ref o1)]) (lenOf pd_28III29V rfl) rfl (hb hby d_prog_8_method_2_code_31) (W := 1) (by show 2 * 0 + _ ≤ _; exact Nat.le_of_eq rfl) (by decide) (by decide) (by decide) (by decide)
  have E8_0 := A1.keep Kc8
  have K8 := K1.trans Kc8 (allS (Or.inr le_o1) all0)
  have N8 := Fr.app N0 Nc8
  refine Go.st st8 ?_
  show Go p e below _ T8 (mkF m 34 #[.val (.ref b1), .val (.ref b2)] [(.ref o1)])
  refine Go.retA X8 hx hlk hret rfl rfl rfl (hb hby d_prog_8_method_2_code_34) (by decide) (by decide) ?_
  exact ⟨o1, rfl, N8, K8, le_o1, E8_0, Fc8_0, Fc8_1, Fc8_2⟩
theorem ef_rmGet0 (x0 : Addr) (m : MethodId) : entryFrame m #[(.ref x0)] 1 = mkF m 0 #[.val (.ref x0)] [] := by first | (simp [entryFrame, mkF, argsToLocals, Value.category]; done) | rfl
set_option maxRecDepth 65536 in
set_option maxHeartbeats 40000000 in
theorem rmGet0 (l : Launch) (Z : State) (a0 : Array Value) (hw : ∀ d ∈ tables_1, d.before a0 Z = true) (b1 : Addr) (p1 : Int32) (h0 : Heap) (F1 : Fld Z h0 b1 "com/example/unanimo/unanimo/coordinator/RecoveryResult" "committed" "I" (.int p1)) :
    Does l Z (⟨"com/example/unanimo/unanimo/coordinator/RecoveryResult", "committed", "()I"⟩ : MethodName) prog_8_method_6_code 1 (some .int) [] ({ frames := 0, cells := 0, slots := 0, locals := 0 } : Room) #[(.ref b1)] h0 (Val (some (.int p1)) h0) := by
  refine Does.intro pn_com_example_unanimo_unanimo_coordinator_RecoveryResult (ef_rmGet0 b1) ?_
  intro p e s m below meth c s₁ hx hby hml hown hnm hret hlk hZ e0 X0
  show Go p e below _ s₁ (mkF m 0 #[.val (.ref b1)] [])
  refine Go.st (fun _ h => XS.aloadN X0.here hx rfl (hb hby d_prog_8_method_6_code_0) rfl rfl h) ?_
  show Go p e below _ s₁ (mkF m 1 #[.val (.ref b1)] [(.ref b1)])
  obtain ⟨T1, X1, e1, st1⟩ := getF X0 hx hZ hown (host := "") (Or.inl (hw _ (List.mem_of_getElem? (i := 14) rfl))) Via.refl e0 F1 (g := (mkF m 1 #[.val (.ref b1)] [(.ref b1)])) rfl rfl (hb hby d_prog_8_method_6_code_1)
  refine Go.st st1 ?_
  show Go p e below _ T1 (mkF m 4 #[.val (.ref b1)] [(.int p1)])
  refine Go.retI X1 hx hlk hret (hb hby d_prog_8_method_6_code_4) (by decide) (by decide) ?_
  exact ⟨rfl, rfl, e1⟩
theorem ef_rmGet1 (x0 : Addr) (m : MethodId) : entryFrame m #[(.ref x0)] 1 = mkF m 0 #[.val (.ref x0)] [] := by first | (simp [entryFrame, mkF, argsToLocals, Value.category]; done) | rfl
set_option maxRecDepth 65536 in
set_option maxHeartbeats 40000000 in
theorem rmGet1 (l : Launch) (Z : State) (a0 : Array Value) (hw : ∀ d ∈ tables_1, d.before a0 Z = true) (b1 : Addr) (p1 : Int32) (h0 : Heap) (F1 : Fld Z h0 b1 "com/example/unanimo/unanimo/coordinator/RecoveryResult" "rolledBack" "I" (.int p1)) :
    Does l Z (⟨"com/example/unanimo/unanimo/coordinator/RecoveryResult", "rolledBack", "()I"⟩ : MethodName) prog_8_method_7_code 1 (some .int) [] ({ frames := 0, cells := 0, slots := 0, locals := 0 } : Room) #[(.ref b1)] h0 (Val (some (.int p1)) h0) := by
  refine Does.intro pn_com_example_unanimo_unanimo_coordinator_RecoveryResult (ef_rmGet1 b1) ?_
  intro p e s m below meth c s₁ hx hby hml hown hnm hret hlk hZ e0 X0
  show Go p e below _ s₁ (mkF m 0 #[.val (.ref b1)] [])
  refine Go.st (fun _ h => XS.aloadN X0.here hx rfl (hb hby d_prog_8_method_7_code_0) rfl rfl h) ?_
  show Go p e below _ s₁ (mkF m 1 #[.val (.ref b1)] [(.ref b1)])
  obtain ⟨T1, X1, e1, st1⟩ := getF X0 hx hZ hown (host := "") (Or.inl (hw _ (List.mem_of_getElem? (i := 16) rfl))) Via.refl e0 F1 (g := (mkF m 1 #[.val (.ref b1)] [(.ref b1)])) rfl rfl (hb hby d_prog_8_method_7_code_1)
  refine Go.st st1 ?_
  show Go p e below _ T1 (mkF m 4 #[.val (.ref b1)] [(.int p1)])
  refine Go.retI X1 hx hlk hret (hb hby d_prog_8_method_7_code_4) (by decide) (by decide) ?_
  exact ⟨rfl, rfl, e1⟩
theorem ef_rmGet2 (x0 : Addr) (m : MethodId) : entryFrame m #[(.ref x0)] 1 = mkF m 0 #[.val (.ref x0)] [] := by first | (simp [entryFrame, mkF, argsToLocals, Value.category]; done) | rfl
set_option maxRecDepth 65536 in
set_option maxHeartbeats 40000000 in
theorem rmGet2 (l : Launch) (Z : State) (a0 : Array Value) (hw : ∀ d ∈ tables_1, d.before a0 Z = true) (b1 : Addr) (p1 : Int32) (h0 : Heap) (F1 : Fld Z h0 b1 "com/example/unanimo/unanimo/coordinator/RecoveryResult" "failures" "I" (.int p1)) :
    Does l Z (⟨"com/example/unanimo/unanimo/coordinator/RecoveryResult", "failures", "()I"⟩ : MethodName) prog_8_method_8_code 1 (some .int) [] ({ frames := 0, cells := 0, slots := 0, locals := 0 } : Room) #[(.ref b1)] h0 (Val (some (.int p1)) h0) := by
  refine Does.intro pn_com_example_unanimo_unanimo_coordinator_RecoveryResult (ef_rmGet2 b1) ?_
  intro p e s m below meth c s₁ hx hby hml hown hnm hret hlk hZ e0 X0
  show Go p e below _ s₁ (mkF m 0 #[.val (.ref b1)] [])
  refine Go.st (fun _ h => XS.aloadN X0.here hx rfl (hb hby d_prog_8_method_8_code_0) rfl rfl h) ?_
  show Go p e below _ s₁ (mkF m 1 #[.val (.ref b1)] [(.ref b1)])
  obtain ⟨T1, X1, e1, st1⟩ := getF X0 hx hZ hown (host := "") (Or.inl (hw _ (List.mem_of_getElem? (i := 18) rfl))) Via.refl e0 F1 (g := (mkF m 1 #[.val (.ref b1)] [(.ref b1)])) rfl rfl (hb hby d_prog_8_method_8_code_1)
  refine Go.st st1 ?_
  show Go p e below _ T1 (mkF m 4 #[.val (.ref b1)] [(.int p1)])
  refine Go.retI X1 hx hlk hret (hb hby d_prog_8_method_8_code_4) (by decide) (by decide) ?_
  exact ⟨rfl, rfl, e1⟩
theorem ef_rmLaw (x0 : Int32) (x1 : Int32) (x2 : Int32) (x3 : Int32) (x4 : Int32) (x5 : Int32) (m : MethodId) : entryFrame m #[(.int x0), (.int x1), (.int x2), (.int x3), (.int x4), (.int x5)] maxLocals = mkF m 0 #[.val (.int x0), .val (.int x1), .val (.int x2), .val (.int x3), .val (.int x4), .val (.int x5), .unset, .unset, .unset, .unset, .unset, .unset] [] := by first | (simp [entryFrame, mkF, argsToLocals, Value.category, maxLocals]; done) | rfl
set_option maxRecDepth 65536 in
set_option maxHeartbeats 40000000 in
theorem rmLaw (l : Launch) (Z : State) (a0 : Array Value) (hw : ∀ d ∈ tables_1, d.before a0 Z = true) (p1 p2 p3 p4 p5 p6 : Int32) (h0 : Heap) (n0 : Nat) (Z0 : n0 ≤ h0.size) :
    Does l Z x code maxLocals ret tables_1 room_1 #[(.int p1), (.int p2), (.int p3), (.int p4), (.int p5), (.int p6)] h0 (fun v h L => v = some (.int 1) ∧ Fr n0 L) := by
  refine Does.intro pn_com_example_unanimo_unanimo_coordinator_RecoveryResultPlusPinLaw (ef_rmLaw p1 p2 p3 p4 p5 p6) ?_
  intro p e s m below meth c s₁ hx hby hml hown hnm hret hlk hZ e0 X0
  show Go p e below _ s₁ (mkF m 0 #[.val (.int p1), .val (.int p2), .val (.int p3), .val (.int p4), .val (.int p5), .val (.int p6), .unset, .unset, .unset, .unset, .unset, .unset] [])
  have N0 := Fr.nil n0
  obtain ⟨T1, h1, X1, e1, E1, A1, D1, -, st1⟩ := newO X0 hx hZ hown (hw _ (List.mem_of_getElem? (i := 0) rfl)) (hw _ (List.mem_of_getElem? (i := 1) rfl)) (hw _ (List.mem_of_getElem? (i := 2) rfl)) e0 (g := (mkF m 0 #[.val (.int p1), .val (.int p2), .val (.int p3), .val (.int p4), .val (.int p5), .val (.int p6), .unset, .unset, .unset, .unset, .unset, .unset] [])) rfl (hb hby at_0) (by decide) (by decide)
  obtain ⟨o1, g1⟩ : ∃ z, z = h0.size := ⟨_, rfl⟩
  rw [← g1] at A1 D1 st1
  have le_o1 : h0.size ≤ o1 := by rw [g1]; exact (Keep.refl _ []).1
  have K1 := (Keep.refl _ []).ext E1
  have F1_committed : Fld Z h1 o1 "com/example/unanimo/unanimo/coordinator/RecoveryResult" "committed" "I" (.int (0 : Int32)) := D1 (Or.inr (hw _ (List.mem_of_getElem? (i := 15) rfl))) (ty := .int) (by decide)
  have F1_rolledBack : Fld Z h1 o1 "com/example/unanimo/unanimo/coordinator/RecoveryResult" "rolledBack" "I" (.int (0 : Int32)) := D1 (Or.inr (hw _ (List.mem_of_getElem? (i := 17) rfl))) (ty := .int) (by decide)
  have F1_failures : Fld Z h1 o1 "com/example/unanimo/unanimo/coordinator/RecoveryResult" "failures" "I" (.int (0 : Int32)) := D1 (Or.inr (hw _ (List.mem_of_getElem? (i := 19) rfl))) (ty := .int) (by decide)
  refine Go.st st1 ?_
  show Go p e below _ T1 (mkF m 3 #[.val (.int p1), .val (.int p2), .val (.int p3), .val (.int p4), .val (.int p5), .val (.int p6), .unset, .unset, .unset, .unset, .unset, .unset] [(.ref o1)])
  refine Go.st (fun _ h => XS.dup X1.here hx rfl (hb hby at_3) rfl rfl h) ?_
  show Go p e below _ T1 (mkF m 4 #[.val (.int p1), .val (.int p2), .val (.int p3), .val (.int p4), .val (.int p5), .val (.int p6), .unset, .unset, .unset, .unset, .unset, .unset] [(.ref o1), (.ref o1)])
  refine Go.st (fun _ h => XS.iloadN X1.here hx rfl (hb hby at_4) rfl h) ?_
  show Go p e below _ T1 (mkF m 5 #[.val (.int p1), .val (.int p2), .val (.int p3), .val (.int p4), .val (.int p5), .val (.int p6), .unset, .unset, .unset, .unset, .unset, .unset] [(.int p1), (.ref o1), (.ref o1)])
  refine Go.st (fun _ h => XS.iloadN X1.here hx rfl (hb hby at_5) rfl h) ?_
  show Go p e below _ T1 (mkF m 6 #[.val (.int p1), .val (.int p2), .val (.int p3), .val (.int p4), .val (.int p5), .val (.int p6), .unset, .unset, .unset, .unset, .unset, .unset] [(.int p2), (.int p1), (.ref o1), (.ref o1)])
  refine Go.st (fun _ h => XS.iloadN X1.here hx rfl (hb hby at_6) rfl h) ?_
  show Go p e below _ T1 (mkF m 7 #[.val (.int p1), .val (.int p2), .val (.int p3), .val (.int p4), .val (.int p5), .val (.int p6), .unset, .unset, .unset, .unset, .unset, .unset] [(.int p3), (.int p2), (.int p1), (.ref o1), (.ref o1)])
  obtain ⟨_, T2, L2, X2, ⟨rfl, Nc2, Kc2, Fc2_0, Fc2_1, Fc2_2⟩, st2⟩ := Does.special (y := (⟨"com/example/unanimo/unanimo/coordinator/RecoveryResult", "<init>", "(III)V"⟩ : MethodName)) (g := (mkF m 7 #[.val (.int p1), .val (.int p2), .val (.int p3), .val (.int p4), .val (.int p5), .val (.int p6), .unset, .unset, .unset, .unset, .unset, .unset] [(.int p3), (.int p2), (.int p1), (.ref o1), (.ref o1)])) (a := o1) (rmInit l Z a0 hw o1 p1 p2 p3 h1 n0 (Nat.le_trans Z0 K1.1) F1_committed F1_rolledBack F1_failures A1 (Nat.le_trans Z0 le_o1)) X1 hx hZ hown e1 rfl (hw _ (List.mem_of_getElem? (i := 3) rfl)) (hw _ (List.mem_of_getElem? (i := 4) rfl)) (hw _ (List.mem_of_getElem? (i := 2) rfl)) (hw _ (List.mem_of_getElem? (i := 5) rfl)) (by decide) rfl (by rw [hml]; rfl) (argsL := [(.int p1), (.int p2), (.int p3)]) (rest := [(.ref o1)]) (lenOf pd_28III29V rfl) rfl (hb hby at_7) (W := 1) (by show 2 * 0 + _ ≤ _; exact Nat.le_of_eq rfl) (by decide) (by decide) (by decide) (by decide)
  have E2_0 := A1.keep Kc2
  have K2 := K1.trans Kc2 (allS (Or.inr le_o1) all0)
  have N2 := Fr.app N0 Nc2
  refine Go.st st2 ?_
  show Go p e below _ T2 (mkF m 10 #[.val (.int p1), .val (.int p2), .val (.int p3), .val (.int p4), .val (.int p5), .val (.int p6), .unset, .unset, .unset, .unset, .unset, .unset] [(.ref o1)])
  refine Go.st (fun _ h => XS.astore X2.here hx rfl (hb hby at_10) rfl rfl (l' := #[.val (.int p1), .val (.int p2), .val (.int p3), .val (.int p4), .val (.int p5), .val (.int p6), .val (.ref o1), .unset, .unset, .unset, .unset, .unset]) rfl h) ?_
  show Go p e below _ T2 (mkF m 12 #[.val (.int p1), .val (.int p2), .val (.int p3), .val (.int p4), .val (.int p5), .val (.int p6), .val (.ref o1), .unset, .unset, .unset, .unset, .unset] [])
  obtain ⟨T3, h3, X3, e3, E3, A3, D3, -, st3⟩ := newO X2 hx hZ hown (hw _ (List.mem_of_getElem? (i := 0) rfl)) (hw _ (List.mem_of_getElem? (i := 1) rfl)) (hw _ (List.mem_of_getElem? (i := 2) rfl)) rfl (g := (mkF m 12 #[.val (.int p1), .val (.int p2), .val (.int p3), .val (.int p4), .val (.int p5), .val (.int p6), .val (.ref o1), .unset, .unset, .unset, .unset, .unset] [])) rfl (hb hby at_12) (by decide) (by decide)
  obtain ⟨o3, g3⟩ : ∃ z, z = T2.heap.size := ⟨_, rfl⟩
  rw [← g3] at A3 D3 st3
  have ne_o1_o3 : o1 ≠ o3 := by rw [g3]; exact Nat.ne_of_lt E2_0.lt
  have le_o3 : h0.size ≤ o3 := by rw [g3]; exact K2.1
  have E3_0 := E2_0.ext E3
  have F3_1 := Fc2_0.ext E3
  have F3_2 := Fc2_2.ext E3
  have F3_3 := Fc2_1.ext E3
  have K3 := K2.ext E3
  have F3_committed : Fld Z h3 o3 "com/example/unanimo/unanimo/coordinator/RecoveryResult" "committed" "I" (.int (0 : Int32)) := D3 (Or.inr (hw _ (List.mem_of_getElem? (i := 15) rfl))) (ty := .int) (by decide)
  have F3_rolledBack : Fld Z h3 o3 "com/example/unanimo/unanimo/coordinator/RecoveryResult" "rolledBack" "I" (.int (0 : Int32)) := D3 (Or.inr (hw _ (List.mem_of_getElem? (i := 17) rfl))) (ty := .int) (by decide)
  have F3_failures : Fld Z h3 o3 "com/example/unanimo/unanimo/coordinator/RecoveryResult" "failures" "I" (.int (0 : Int32)) := D3 (Or.inr (hw _ (List.mem_of_getElem? (i := 19) rfl))) (ty := .int) (by decide)
  refine Go.st st3 ?_
  show Go p e below _ T3 (mkF m 15 #[.val (.int p1), .val (.int p2), .val (.int p3), .val (.int p4), .val (.int p5), .val (.int p6), .val (.ref o1), .unset, .unset, .unset, .unset, .unset] [(.ref o3)])
  refine Go.st (fun _ h => XS.dup X3.here hx rfl (hb hby at_15) rfl rfl h) ?_
  show Go p e below _ T3 (mkF m 16 #[.val (.int p1), .val (.int p2), .val (.int p3), .val (.int p4), .val (.int p5), .val (.int p6), .val (.ref o1), .unset, .unset, .unset, .unset, .unset] [(.ref o3), (.ref o3)])
  refine Go.st (fun _ h => XS.iloadN X3.here hx rfl (hb hby at_16) rfl h) ?_
  show Go p e below _ T3 (mkF m 17 #[.val (.int p1), .val (.int p2), .val (.int p3), .val (.int p4), .val (.int p5), .val (.int p6), .val (.ref o1), .unset, .unset, .unset, .unset, .unset] [(.int p4), (.ref o3), (.ref o3)])
  refine Go.st (fun _ h => XS.iload X3.here hx rfl (hb hby at_17) rfl h) ?_
  show Go p e below _ T3 (mkF m 19 #[.val (.int p1), .val (.int p2), .val (.int p3), .val (.int p4), .val (.int p5), .val (.int p6), .val (.ref o1), .unset, .unset, .unset, .unset, .unset] [(.int p5), (.int p4), (.ref o3), (.ref o3)])
  refine Go.st (fun _ h => XS.iload X3.here hx rfl (hb hby at_19) rfl h) ?_
  show Go p e below _ T3 (mkF m 21 #[.val (.int p1), .val (.int p2), .val (.int p3), .val (.int p4), .val (.int p5), .val (.int p6), .val (.ref o1), .unset, .unset, .unset, .unset, .unset] [(.int p6), (.int p5), (.int p4), (.ref o3), (.ref o3)])
  obtain ⟨_, T4, L4, X4, ⟨rfl, Nc4, Kc4, Fc4_0, Fc4_1, Fc4_2⟩, st4⟩ := Does.special (y := (⟨"com/example/unanimo/unanimo/coordinator/RecoveryResult", "<init>", "(III)V"⟩ : MethodName)) (g := (mkF m 21 #[.val (.int p1), .val (.int p2), .val (.int p3), .val (.int p4), .val (.int p5), .val (.int p6), .val (.ref o1), .unset, .unset, .unset, .unset, .unset] [(.int p6), (.int p5), (.int p4), (.ref o3), (.ref o3)])) (a := o3) (rmInit l Z a0 hw o3 p4 p5 p6 h3 n0 (Nat.le_trans Z0 K3.1) F3_committed F3_rolledBack F3_failures A3 (Nat.le_trans Z0 le_o3)) X3 hx hZ hown e3 rfl (hw _ (List.mem_of_getElem? (i := 3) rfl)) (hw _ (List.mem_of_getElem? (i := 4) rfl)) (hw _ (List.mem_of_getElem? (i := 2) rfl)) (hw _ (List.mem_of_getElem? (i := 5) rfl)) (by decide) rfl (by rw [hml]; rfl) (argsL := [(.int p4), (.int p5), (.int p6)]) (rest := [(.ref o3)]) (lenOf pd_28III29V rfl) rfl (hb hby at_21) (W := 1) (by show 2 * 0 + _ ≤ _; exact Nat.le_of_eq rfl) (by decide) (by decide) (by decide) (by decide)
  have E4_0 := E3_0.keep Kc4
  have E4_1 := A3.keep Kc4
  have F4_2 := F3_1.keep Kc4 (ninS ne_o1_o3 nin0)
  have F4_3 := F3_2.keep Kc4 (ninS ne_o1_o3 nin0)
  have F4_4 := F3_3.keep Kc4 (ninS ne_o1_o3 nin0)
  have K4 := K3.trans Kc4 (allS (Or.inr le_o3) all0)
  have N4 := Fr.app N2 Nc4
  refine Go.st st4 ?_
  show Go p e below _ T4 (mkF m 24 #[.val (.int p1), .val (.int p2), .val (.int p3), .val (.int p4), .val (.int p5), .val (.int p6), .val (.ref o1), .unset, .unset, .unset, .unset, .unset] [(.ref o3)])
  refine Go.st (fun _ h => XS.astore X4.here hx rfl (hb hby at_24) rfl rfl (l' := #[.val (.int p1), .val (.int p2), .val (.int p3), .val (.int p4), .val (.int p5), .val (.int p6), .val (.ref o1), .val (.ref o3), .unset, .unset, .unset, .unset]) rfl h) ?_
  show Go p e below _ T4 (mkF m 26 #[.val (.int p1), .val (.int p2), .val (.int p3), .val (.int p4), .val (.int p5), .val (.int p6), .val (.ref o1), .val (.ref o3), .unset, .unset, .unset, .unset] [])
  refine Go.st (fun _ h => XS.aload X4.here hx rfl (hb hby at_26) rfl rfl h) ?_
  show Go p e below _ T4 (mkF m 28 #[.val (.int p1), .val (.int p2), .val (.int p3), .val (.int p4), .val (.int p5), .val (.int p6), .val (.ref o1), .val (.ref o3), .unset, .unset, .unset, .unset] [(.ref o1)])
  refine Go.st (fun _ h => XS.aload X4.here hx rfl (hb hby at_28) rfl rfl h) ?_
  show Go p e below _ T4 (mkF m 30 #[.val (.int p1), .val (.int p2), .val (.int p3), .val (.int p4), .val (.int p5), .val (.int p6), .val (.ref o1), .val (.ref o3), .unset, .unset, .unset, .unset] [(.ref o3), (.ref o1)])
  obtain ⟨_, T5, L5, X5, ⟨r1, rfl, Nc5, Kc5, le_r1, Ec5, Fc5_0, Fc5_1, Fc5_2⟩, st5⟩ := Does.virtual (y := (⟨"com/example/unanimo/unanimo/coordinator/RecoveryResult", "plus", "(Lcom/example/unanimo/unanimo/coordinator/RecoveryResult;)Lcom/example/unanimo/unanimo/coordinator/RecoveryResult;"⟩ : MethodName)) (g := (mkF m 30 #[.val (.int p1), .val (.int p2), .val (.int p3), .val (.int p4), .val (.int p5), .val (.int p6), .val (.ref o1), .val (.ref o3), .unset, .unset, .unset, .unset] [(.ref o3), (.ref o1)])) (a := o1) (rmPlus l Z a0 hw o1 o3 p1 p2 p3 p4 p5 p6 T4.heap n0 (Nat.le_trans Z0 K4.1) F4_2 F4_4 F4_3 Fc4_0 Fc4_1 Fc4_2) X4 hx hZ hown rfl E4_0 (hw _ (List.mem_of_getElem? (i := 20) rfl)) (hw _ (List.mem_of_getElem? (i := 21) rfl)) (hw _ (List.mem_of_getElem? (i := 23) rfl)) (hw _ (List.mem_of_getElem? (i := 22) rfl)) (hw _ (List.mem_of_getElem? (i := 2) rfl)) (hw _ (List.mem_of_getElem? (i := 24) rfl)) (by decide) rfl (by rw [hml]; rfl) (argsL := [(.ref o3)]) (rest := []) (lenOf pd_28Lcom2fexample2funanimo2funanimo2fcoordinator2fRecoveryResult3b29Lcom2fexample2funanimo2funanimo2fcoordinator2fRecoveryResult3b rfl) rfl (hb hby at_30) (W := 0) (by show 2 * 0 + _ ≤ _; exact Nat.le_of_eq rfl) (by decide) (by decide) (by decide) (by decide)
  have E5_0 := E4_0.keep Kc5
  have E5_1 := E4_1.keep Kc5
  have F5_2 := F4_2.keep Kc5 nin0
  have F5_3 := F4_3.keep Kc5 nin0
  have F5_4 := F4_4.keep Kc5 nin0
  have F5_5 := Fc4_0.keep Kc5 nin0
  have F5_6 := Fc4_2.keep Kc5 nin0
  have F5_7 := Fc4_1.keep Kc5 nin0
  have K5 := K4.trans Kc5 all0
  have N5 := Fr.app N4 Nc5
  refine Go.st st5 ?_
  show Go p e below _ T5 (mkF m 33 #[.val (.int p1), .val (.int p2), .val (.int p3), .val (.int p4), .val (.int p5), .val (.int p6), .val (.ref o1), .val (.ref o3), .unset, .unset, .unset, .unset] [(.ref r1)])
  refine Go.st (fun _ h => XS.astore X5.here hx rfl (hb hby at_33) rfl rfl (l' := #[.val (.int p1), .val (.int p2), .val (.int p3), .val (.int p4), .val (.int p5), .val (.int p6), .val (.ref o1), .val (.ref o3), .val (.ref r1), .unset, .unset, .unset]) rfl h) ?_
  show Go p e below _ T5 (mkF m 35 #[.val (.int p1), .val (.int p2), .val (.int p3), .val (.int p4), .val (.int p5), .val (.int p6), .val (.ref o1), .val (.ref o3), .val (.ref r1), .unset, .unset, .unset] [])
  refine Go.st (fun _ h => XS.aload X5.here hx rfl (hb hby at_35) rfl rfl h) ?_
  show Go p e below _ T5 (mkF m 37 #[.val (.int p1), .val (.int p2), .val (.int p3), .val (.int p4), .val (.int p5), .val (.int p6), .val (.ref o1), .val (.ref o3), .val (.ref r1), .unset, .unset, .unset] [(.ref r1)])
  refine Go.st (fun _ h => XT.ifnonnullYes X5.here hx rfl (pc0 := 37) (pc' := 42) rfl (hb hby at_37) rfl (by decide) (by decide) h) ?_
  show Go p e below _ T5 (mkF m 42 #[.val (.int p1), .val (.int p2), .val (.int p3), .val (.int p4), .val (.int p5), .val (.int p6), .val (.ref o1), .val (.ref o3), .val (.ref r1), .unset, .unset, .unset] [])
  refine Go.st (fun _ h => XS.aload X5.here hx rfl (hb hby at_42) rfl rfl h) ?_
  show Go p e below _ T5 (mkF m 44 #[.val (.int p1), .val (.int p2), .val (.int p3), .val (.int p4), .val (.int p5), .val (.int p6), .val (.ref o1), .val (.ref o3), .val (.ref r1), .unset, .unset, .unset] [(.ref r1)])
  obtain ⟨T6, X6, e6, st6⟩ := own_still rfl rfl (Does.virtual (y := (⟨"com/example/unanimo/unanimo/coordinator/RecoveryResult", "committed", "()I"⟩ : MethodName)) (g := (mkF m 44 #[.val (.int p1), .val (.int p2), .val (.int p3), .val (.int p4), .val (.int p5), .val (.int p6), .val (.ref o1), .val (.ref o3), .val (.ref r1), .unset, .unset, .unset] [(.ref r1)])) (a := r1) (rmGet0 l Z a0 hw r1 (p1 + p4) T5.heap Fc5_0) X5 hx hZ hown rfl Ec5 (hw _ (List.mem_of_getElem? (i := 27) rfl)) (hw _ (List.mem_of_getElem? (i := 28) rfl)) (hw _ (List.mem_of_getElem? (i := 30) rfl)) (hw _ (List.mem_of_getElem? (i := 29) rfl)) (hw _ (List.mem_of_getElem? (i := 2) rfl)) (hw _ (List.mem_of_getElem? (i := 31) rfl)) (by decide) rfl (by rw [hml]; rfl) (argsL := []) (rest := []) (lenOf pd_2829I rfl) rfl (hb hby at_44) (W := 0) (by show 2 * 0 + _ ≤ _; exact Nat.le_of_eq rfl) (by decide) (by decide) (by decide) (by decide))
  refine Go.st st6 ?_
  show Go p e below _ T6 (mkF m 47 #[.val (.int p1), .val (.int p2), .val (.int p3), .val (.int p4), .val (.int p5), .val (.int p6), .val (.ref o1), .val (.ref o3), .val (.ref r1), .unset, .unset, .unset] [(.int (p1 + p4))])
  refine Go.st (fun _ h => XS.iloadN X6.here hx rfl (hb hby at_47) rfl h) ?_
  show Go p e below _ T6 (mkF m 48 #[.val (.int p1), .val (.int p2), .val (.int p3), .val (.int p4), .val (.int p5), .val (.int p6), .val (.ref o1), .val (.ref o3), .val (.ref r1), .unset, .unset, .unset] [(.int p1), (.int (p1 + p4))])
  refine Go.st (fun _ h => XS.iloadN X6.here hx rfl (hb hby at_48) rfl h) ?_
  show Go p e below _ T6 (mkF m 49 #[.val (.int p1), .val (.int p2), .val (.int p3), .val (.int p4), .val (.int p5), .val (.int p6), .val (.ref o1), .val (.ref o3), .val (.ref r1), .unset, .unset, .unset] [(.int p4), (.int p1), (.int (p1 + p4))])
  refine Go.st (fun _ h => XS.iadd X6.here hx rfl (hb hby at_49) rfl h) ?_
  show Go p e below _ T6 (mkF m 50 #[.val (.int p1), .val (.int p2), .val (.int p3), .val (.int p4), .val (.int p5), .val (.int p6), .val (.ref o1), .val (.ref o3), .val (.ref r1), .unset, .unset, .unset] [(.int (p1 + p4)), (.int (p1 + p4))])
  refine Go.st (fun _ h => XS.icmpNo X6.here hx rfl (hb hby at_50) rfl ((teq (rfl : (p1 + p4) = (p1 + p4))).2) h) ?_
  show Go p e below _ T6 (mkF m 53 #[.val (.int p1), .val (.int p2), .val (.int p3), .val (.int p4), .val (.int p5), .val (.int p6), .val (.ref o1), .val (.ref o3), .val (.ref r1), .unset, .unset, .unset] [])
  refine Go.st (fun _ h => XT.iconstV X6.here hx rfl (1 : Int32) (hb hby at_53) (by decide) h) ?_
  show Go p e below _ T6 (mkF m 54 #[.val (.int p1), .val (.int p2), .val (.int p3), .val (.int p4), .val (.int p5), .val (.int p6), .val (.ref o1), .val (.ref o3), .val (.ref r1), .unset, .unset, .unset] [(.int (1 : Int32))])
  refine Go.st (fun _ h => XS.goto X6.here hx rfl (pc0 := 54) (pc' := 58) rfl (hb hby at_54) (by decide) (by decide) h) ?_
  show Go p e below _ T6 (mkF m 58 #[.val (.int p1), .val (.int p2), .val (.int p3), .val (.int p4), .val (.int p5), .val (.int p6), .val (.ref o1), .val (.ref o3), .val (.ref r1), .unset, .unset, .unset] [(.int (1 : Int32))])
  refine Go.st (fun _ h => XS.istore X6.here hx rfl (hb hby at_58) rfl (l' := #[.val (.int p1), .val (.int p2), .val (.int p3), .val (.int p4), .val (.int p5), .val (.int p6), .val (.ref o1), .val (.ref o3), .val (.ref r1), .val (.int (1 : Int32)), .unset, .unset]) rfl h) ?_
  show Go p e below _ T6 (mkF m 60 #[.val (.int p1), .val (.int p2), .val (.int p3), .val (.int p4), .val (.int p5), .val (.int p6), .val (.ref o1), .val (.ref o3), .val (.ref r1), .val (.int (1 : Int32)), .unset, .unset] [])
  refine Go.st (fun _ h => XS.aload X6.here hx rfl (hb hby at_60) rfl rfl h) ?_
  show Go p e below _ T6 (mkF m 62 #[.val (.int p1), .val (.int p2), .val (.int p3), .val (.int p4), .val (.int p5), .val (.int p6), .val (.ref o1), .val (.ref o3), .val (.ref r1), .val (.int (1 : Int32)), .unset, .unset] [(.ref r1)])
  obtain ⟨T7, X7, e7, st7⟩ := own_still rfl rfl (Does.virtual (y := (⟨"com/example/unanimo/unanimo/coordinator/RecoveryResult", "rolledBack", "()I"⟩ : MethodName)) (g := (mkF m 62 #[.val (.int p1), .val (.int p2), .val (.int p3), .val (.int p4), .val (.int p5), .val (.int p6), .val (.ref o1), .val (.ref o3), .val (.ref r1), .val (.int (1 : Int32)), .unset, .unset] [(.ref r1)])) (a := r1) (rmGet1 l Z a0 hw r1 (p2 + p5) T5.heap Fc5_1) X6 hx hZ hown e6 Ec5 (hw _ (List.mem_of_getElem? (i := 32) rfl)) (hw _ (List.mem_of_getElem? (i := 33) rfl)) (hw _ (List.mem_of_getElem? (i := 35) rfl)) (hw _ (List.mem_of_getElem? (i := 34) rfl)) (hw _ (List.mem_of_getElem? (i := 2) rfl)) (hw _ (List.mem_of_getElem? (i := 36) rfl)) (by decide) rfl (by rw [hml]; rfl) (argsL := []) (rest := []) (lenOf pd_2829I rfl) rfl (hb hby at_62) (W := 0) (by show 2 * 0 + _ ≤ _; exact Nat.le_of_eq rfl) (by decide) (by decide) (by decide) (by decide))
  refine Go.st st7 ?_
  show Go p e below _ T7 (mkF m 65 #[.val (.int p1), .val (.int p2), .val (.int p3), .val (.int p4), .val (.int p5), .val (.int p6), .val (.ref o1), .val (.ref o3), .val (.ref r1), .val (.int (1 : Int32)), .unset, .unset] [(.int (p2 + p5))])
  refine Go.st (fun _ h => XS.iloadN X7.here hx rfl (hb hby at_65) rfl h) ?_
  show Go p e below _ T7 (mkF m 66 #[.val (.int p1), .val (.int p2), .val (.int p3), .val (.int p4), .val (.int p5), .val (.int p6), .val (.ref o1), .val (.ref o3), .val (.ref r1), .val (.int (1 : Int32)), .unset, .unset] [(.int p2), (.int (p2 + p5))])
  refine Go.st (fun _ h => XS.iload X7.here hx rfl (hb hby at_66) rfl h) ?_
  show Go p e below _ T7 (mkF m 68 #[.val (.int p1), .val (.int p2), .val (.int p3), .val (.int p4), .val (.int p5), .val (.int p6), .val (.ref o1), .val (.ref o3), .val (.ref r1), .val (.int (1 : Int32)), .unset, .unset] [(.int p5), (.int p2), (.int (p2 + p5))])
  refine Go.st (fun _ h => XS.iadd X7.here hx rfl (hb hby at_68) rfl h) ?_
  show Go p e below _ T7 (mkF m 69 #[.val (.int p1), .val (.int p2), .val (.int p3), .val (.int p4), .val (.int p5), .val (.int p6), .val (.ref o1), .val (.ref o3), .val (.ref r1), .val (.int (1 : Int32)), .unset, .unset] [(.int (p2 + p5)), (.int (p2 + p5))])
  refine Go.st (fun _ h => XS.icmpNo X7.here hx rfl (hb hby at_69) rfl ((teq (rfl : (p2 + p5) = (p2 + p5))).2) h) ?_
  show Go p e below _ T7 (mkF m 72 #[.val (.int p1), .val (.int p2), .val (.int p3), .val (.int p4), .val (.int p5), .val (.int p6), .val (.ref o1), .val (.ref o3), .val (.ref r1), .val (.int (1 : Int32)), .unset, .unset] [])
  refine Go.st (fun _ h => XT.iconstV X7.here hx rfl (1 : Int32) (hb hby at_72) (by decide) h) ?_
  show Go p e below _ T7 (mkF m 73 #[.val (.int p1), .val (.int p2), .val (.int p3), .val (.int p4), .val (.int p5), .val (.int p6), .val (.ref o1), .val (.ref o3), .val (.ref r1), .val (.int (1 : Int32)), .unset, .unset] [(.int (1 : Int32))])
  refine Go.st (fun _ h => XS.goto X7.here hx rfl (pc0 := 73) (pc' := 77) rfl (hb hby at_73) (by decide) (by decide) h) ?_
  show Go p e below _ T7 (mkF m 77 #[.val (.int p1), .val (.int p2), .val (.int p3), .val (.int p4), .val (.int p5), .val (.int p6), .val (.ref o1), .val (.ref o3), .val (.ref r1), .val (.int (1 : Int32)), .unset, .unset] [(.int (1 : Int32))])
  refine Go.st (fun _ h => XS.istore X7.here hx rfl (hb hby at_77) rfl (l' := #[.val (.int p1), .val (.int p2), .val (.int p3), .val (.int p4), .val (.int p5), .val (.int p6), .val (.ref o1), .val (.ref o3), .val (.ref r1), .val (.int (1 : Int32)), .val (.int (1 : Int32)), .unset]) rfl h) ?_
  show Go p e below _ T7 (mkF m 79 #[.val (.int p1), .val (.int p2), .val (.int p3), .val (.int p4), .val (.int p5), .val (.int p6), .val (.ref o1), .val (.ref o3), .val (.ref r1), .val (.int (1 : Int32)), .val (.int (1 : Int32)), .unset] [])
  refine Go.st (fun _ h => XS.aload X7.here hx rfl (hb hby at_79) rfl rfl h) ?_
  show Go p e below _ T7 (mkF m 81 #[.val (.int p1), .val (.int p2), .val (.int p3), .val (.int p4), .val (.int p5), .val (.int p6), .val (.ref o1), .val (.ref o3), .val (.ref r1), .val (.int (1 : Int32)), .val (.int (1 : Int32)), .unset] [(.ref r1)])
  obtain ⟨T8, X8, e8, st8⟩ := own_still rfl rfl (Does.virtual (y := (⟨"com/example/unanimo/unanimo/coordinator/RecoveryResult", "failures", "()I"⟩ : MethodName)) (g := (mkF m 81 #[.val (.int p1), .val (.int p2), .val (.int p3), .val (.int p4), .val (.int p5), .val (.int p6), .val (.ref o1), .val (.ref o3), .val (.ref r1), .val (.int (1 : Int32)), .val (.int (1 : Int32)), .unset] [(.ref r1)])) (a := r1) (rmGet2 l Z a0 hw r1 (p3 + p6) T5.heap Fc5_2) X7 hx hZ hown e7 Ec5 (hw _ (List.mem_of_getElem? (i := 37) rfl)) (hw _ (List.mem_of_getElem? (i := 38) rfl)) (hw _ (List.mem_of_getElem? (i := 40) rfl)) (hw _ (List.mem_of_getElem? (i := 39) rfl)) (hw _ (List.mem_of_getElem? (i := 2) rfl)) (hw _ (List.mem_of_getElem? (i := 41) rfl)) (by decide) rfl (by rw [hml]; rfl) (argsL := []) (rest := []) (lenOf pd_2829I rfl) rfl (hb hby at_81) (W := 0) (by show 2 * 0 + _ ≤ _; exact Nat.le_of_eq rfl) (by decide) (by decide) (by decide) (by decide))
  refine Go.st st8 ?_
  show Go p e below _ T8 (mkF m 84 #[.val (.int p1), .val (.int p2), .val (.int p3), .val (.int p4), .val (.int p5), .val (.int p6), .val (.ref o1), .val (.ref o3), .val (.ref r1), .val (.int (1 : Int32)), .val (.int (1 : Int32)), .unset] [(.int (p3 + p6))])
  refine Go.st (fun _ h => XS.iloadN X8.here hx rfl (hb hby at_84) rfl h) ?_
  show Go p e below _ T8 (mkF m 85 #[.val (.int p1), .val (.int p2), .val (.int p3), .val (.int p4), .val (.int p5), .val (.int p6), .val (.ref o1), .val (.ref o3), .val (.ref r1), .val (.int (1 : Int32)), .val (.int (1 : Int32)), .unset] [(.int p3), (.int (p3 + p6))])
  refine Go.st (fun _ h => XS.iload X8.here hx rfl (hb hby at_85) rfl h) ?_
  show Go p e below _ T8 (mkF m 87 #[.val (.int p1), .val (.int p2), .val (.int p3), .val (.int p4), .val (.int p5), .val (.int p6), .val (.ref o1), .val (.ref o3), .val (.ref r1), .val (.int (1 : Int32)), .val (.int (1 : Int32)), .unset] [(.int p6), (.int p3), (.int (p3 + p6))])
  refine Go.st (fun _ h => XS.iadd X8.here hx rfl (hb hby at_87) rfl h) ?_
  show Go p e below _ T8 (mkF m 88 #[.val (.int p1), .val (.int p2), .val (.int p3), .val (.int p4), .val (.int p5), .val (.int p6), .val (.ref o1), .val (.ref o3), .val (.ref r1), .val (.int (1 : Int32)), .val (.int (1 : Int32)), .unset] [(.int (p3 + p6)), (.int (p3 + p6))])
  refine Go.st (fun _ h => XS.icmpNo X8.here hx rfl (hb hby at_88) rfl ((teq (rfl : (p3 + p6) = (p3 + p6))).2) h) ?_
  show Go p e below _ T8 (mkF m 91 #[.val (.int p1), .val (.int p2), .val (.int p3), .val (.int p4), .val (.int p5), .val (.int p6), .val (.ref o1), .val (.ref o3), .val (.ref r1), .val (.int (1 : Int32)), .val (.int (1 : Int32)), .unset] [])
  refine Go.st (fun _ h => XT.iconstV X8.here hx rfl (1 : Int32) (hb hby at_91) (by decide) h) ?_
  show Go p e below _ T8 (mkF m 92 #[.val (.int p1), .val (.int p2), .val (.int p3), .val (.int p4), .val (.int p5), .val (.int p6), .val (.ref o1), .val (.ref o3), .val (.ref r1), .val (.int (1 : Int32)), .val (.int (1 : Int32)), .unset] [(.int (1 : Int32))])
  refine Go.st (fun _ h => XS.goto X8.here hx rfl (pc0 := 92) (pc' := 96) rfl (hb hby at_92) (by decide) (by decide) h) ?_
  show Go p e below _ T8 (mkF m 96 #[.val (.int p1), .val (.int p2), .val (.int p3), .val (.int p4), .val (.int p5), .val (.int p6), .val (.ref o1), .val (.ref o3), .val (.ref r1), .val (.int (1 : Int32)), .val (.int (1 : Int32)), .unset] [(.int (1 : Int32))])
  refine Go.st (fun _ h => XS.istore X8.here hx rfl (hb hby at_96) rfl (l' := #[.val (.int p1), .val (.int p2), .val (.int p3), .val (.int p4), .val (.int p5), .val (.int p6), .val (.ref o1), .val (.ref o3), .val (.ref r1), .val (.int (1 : Int32)), .val (.int (1 : Int32)), .val (.int (1 : Int32))]) rfl h) ?_
  show Go p e below _ T8 (mkF m 98 #[.val (.int p1), .val (.int p2), .val (.int p3), .val (.int p4), .val (.int p5), .val (.int p6), .val (.ref o1), .val (.ref o3), .val (.ref r1), .val (.int (1 : Int32)), .val (.int (1 : Int32)), .val (.int (1 : Int32))] [])
  refine Go.st (fun _ h => XS.iload X8.here hx rfl (hb hby at_98) rfl h) ?_
  show Go p e below _ T8 (mkF m 100 #[.val (.int p1), .val (.int p2), .val (.int p3), .val (.int p4), .val (.int p5), .val (.int p6), .val (.ref o1), .val (.ref o3), .val (.ref r1), .val (.int (1 : Int32)), .val (.int (1 : Int32)), .val (.int (1 : Int32))] [(.int (1 : Int32))])
  refine Go.st (fun _ h => XS.ifNo X8.here hx rfl (hb hby at_100) rfl (by decide) h) ?_
  show Go p e below _ T8 (mkF m 103 #[.val (.int p1), .val (.int p2), .val (.int p3), .val (.int p4), .val (.int p5), .val (.int p6), .val (.ref o1), .val (.ref o3), .val (.ref r1), .val (.int (1 : Int32)), .val (.int (1 : Int32)), .val (.int (1 : Int32))] [])
  refine Go.st (fun _ h => XS.iload X8.here hx rfl (hb hby at_103) rfl h) ?_
  show Go p e below _ T8 (mkF m 105 #[.val (.int p1), .val (.int p2), .val (.int p3), .val (.int p4), .val (.int p5), .val (.int p6), .val (.ref o1), .val (.ref o3), .val (.ref r1), .val (.int (1 : Int32)), .val (.int (1 : Int32)), .val (.int (1 : Int32))] [(.int (1 : Int32))])
  refine Go.st (fun _ h => XS.ifNo X8.here hx rfl (hb hby at_105) rfl (by decide) h) ?_
  show Go p e below _ T8 (mkF m 108 #[.val (.int p1), .val (.int p2), .val (.int p3), .val (.int p4), .val (.int p5), .val (.int p6), .val (.ref o1), .val (.ref o3), .val (.ref r1), .val (.int (1 : Int32)), .val (.int (1 : Int32)), .val (.int (1 : Int32))] [])
  refine Go.st (fun _ h => XS.iload X8.here hx rfl (hb hby at_108) rfl h) ?_
  show Go p e below _ T8 (mkF m 110 #[.val (.int p1), .val (.int p2), .val (.int p3), .val (.int p4), .val (.int p5), .val (.int p6), .val (.ref o1), .val (.ref o3), .val (.ref r1), .val (.int (1 : Int32)), .val (.int (1 : Int32)), .val (.int (1 : Int32))] [(.int (1 : Int32))])
  refine Go.st (fun _ h => XS.ifNo X8.here hx rfl (hb hby at_110) rfl (by decide) h) ?_
  show Go p e below _ T8 (mkF m 113 #[.val (.int p1), .val (.int p2), .val (.int p3), .val (.int p4), .val (.int p5), .val (.int p6), .val (.ref o1), .val (.ref o3), .val (.ref r1), .val (.int (1 : Int32)), .val (.int (1 : Int32)), .val (.int (1 : Int32))] [])
  refine Go.st (fun _ h => XT.iconstV X8.here hx rfl (1 : Int32) (hb hby at_113) (by decide) h) ?_
  show Go p e below _ T8 (mkF m 114 #[.val (.int p1), .val (.int p2), .val (.int p3), .val (.int p4), .val (.int p5), .val (.int p6), .val (.ref o1), .val (.ref o3), .val (.ref r1), .val (.int (1 : Int32)), .val (.int (1 : Int32)), .val (.int (1 : Int32))] [(.int (1 : Int32))])
  refine Go.st (fun _ h => XS.goto X8.here hx rfl (pc0 := 114) (pc' := 118) rfl (hb hby at_114) (by decide) (by decide) h) ?_
  show Go p e below _ T8 (mkF m 118 #[.val (.int p1), .val (.int p2), .val (.int p3), .val (.int p4), .val (.int p5), .val (.int p6), .val (.ref o1), .val (.ref o3), .val (.ref r1), .val (.int (1 : Int32)), .val (.int (1 : Int32)), .val (.int (1 : Int32))] [(.int (1 : Int32))])
  refine Go.retZ X8 hx hlk hret rfl (hb hby at_118) (by decide) (by decide) ?_
  exact ⟨rfl, N5⟩
set_option maxRecDepth 65536 in
set_option maxHeartbeats 40000000 in
theorem comes_1 {Post : Tables → Env → Array Value → State → Outcome → State → Prop} (hpost : ∀ tb e args s v u, (limb_1_1.after args s (.returned v) u = true ∧ limb_1_2.after args s (.returned v) u = true ∧ True) → FrameEnd s (.returned v) u (Jvm.fieldLocs frame_1_writes args s ++ Jvm.arrayLocs frame_1_arrays args s ++ Jvm.staticLocs frame_1_statics s) 16 128 → Post tb e args s (.returned v) u) :
    ArmFor flags0 classFile x code maxLocals ret World_1 tables_1 room_1 Calls_1 rest_1 Pre_1 Post := by
  intro l hfl _ _ p e ha hc hk s m args below hf hA hF happ hP
  obtain ⟨hcalls, hrest, hpre⟩ := hP
  obtain ⟨-, -, -, hnamed, -, -, -, hat⟩ := (Spec.applies_iff hf).mp happ
  obtain ⟨hg, hn⟩ := and_e (Cond.before_iff.mp (show (Jvm.Cond.and given_1 narrow_1).before args s = true from hpre))
  obtain ⟨g0, hg⟩ := and_e hg
  obtain ⟨g1, hg⟩ := and_e hg
  obtain ⟨g2, hg⟩ := and_e hg
  obtain ⟨g3, hg⟩ := and_e hg
  obtain ⟨g4, hg⟩ := and_e hg
  obtain ⟨g5, hg⟩ := and_e hg
  obtain ⟨w0, w1, w2, w3, w4, w5, rfl⟩ : ∃ w0 w1 w2 w3 w4 w5 : Value, args = #[w0, w1, w2, w3, w4, w5] := by
    have hs : args.size = 6 := by simpa [Cond.value, given_1] using g0
    obtain ⟨L⟩ := args
    match L, hs with
    | [w0, w1, w2, w3, w4, w5], _ => exact ⟨w0, w1, w2, w3, w4, w5, rfl⟩
  have hw := fun d (hd : d ∈ tables_1) => atoms_spec (ws := Jvm.Cond.code x code maxLocals ret :: tables_1) hat d (List.mem_cons_of_mem _ hd)
  have hfit : Fit s := fun {y c} hc i hi => by
    obtain ⟨ha, rfl⟩ := Array.getElem?_eq_some_iff.mp hc
    have q := List.all_eq_true.mp ((Array.all_eq_true_iff_forall_mem.mp hF) _ (Array.getElem_mem ha)) i (List.mem_range.mpr hi)
    simpa [Array.getElem?_eq_getElem hi] using q
  obtain ⟨i0, q0⟩ := is_v g1
  obtain rfl : w0 = (.int i0) := Option.some.inj q0
  obtain ⟨i1, q1⟩ := is_v g2
  obtain rfl : w1 = (.int i1) := Option.some.inj q1
  obtain ⟨i2, q2⟩ := is_v g3
  obtain rfl : w2 = (.int i2) := Option.some.inj q2
  obtain ⟨i3, q3⟩ := is_v g4
  obtain rfl : w3 = (.int i3) := Option.some.inj q3
  obtain ⟨i4, q4⟩ := is_v g5
  obtain rfl : w4 = (.int i4) := Option.some.inj q4
  obtain ⟨i5, q5⟩ := is_v hg
  obtain rfl : w5 = (.int i5) := Option.some.inj q5
  obtain ⟨n, o, h1, h2, h3, v, L, rfl, hP, hq⟩ := rmLaw l s _ hw i0 i1 i2 i3 i4 i5 s.heap s.heap.size (Nat.le_refl _) p e ha hc hk s m _ below hf ((Spec.applies_iff_loose hf).mp happ).1 ⟨rfl, State.Warmed39.refl s, rfl⟩ trivial
  obtain ⟨rfl, N⟩ := hP
  refine ⟨n, _, h1, h2, h3, hpost _ _ _ _ _ _ ⟨Cond.after_iff.mpr rfl, Cond.after_iff.mpr (eq_i res_at (Term.int_eval (1)) rfl), trivial⟩ ⟨hq.1, hq.2.1, (hq.2.2.sift fun y hy => Or.inr (N y hy)).mono (by decide) (by decide)⟩⟩
theorem main_1_1 : Claimed_1_1 := comes_1 fun _ _ _ _ _ _ h hF => ⟨h.1, hF⟩
theorem main_1_2 : Claimed_1_2 := comes_1 fun _ _ _ _ _ _ h hF => ⟨h.2.1, hF⟩
end Jvm.Pilot.@@N@@
namespace Jvm.Pilot.@@N@@
open Jvm Jvm.ClassFile Sem Op Lib Jvm.Free Jvm.Stand Jvm.Pilot.@@N@@.Jvm.D
/-! MADE BY PROGRAM (witnessworld.py) out of the Statement's table words and the real class files: 10 classes; the members and pool entries that the words name. The judged class is class 1, her method 1. -/
namespace start1
open Jvm.ClassFile
def u (s : String) : CpInfo := .utf8 (stringToUtf16 s)
/-- a pool by its gaps: so many unusable entries, then the entry; so many at the end -/
def gap : Nat → List CpInfo → List CpInfo
  | 0, r => r
  | n + 1, r => .unusable :: gap n r
def poolList (es : List (Nat × CpInfo)) (last : Nat) : List CpInfo := es.foldr (fun e r => gap e.1 (e.2 :: r)) (gap last [])
def pool (es : List (Nat × CpInfo)) (last : Nat) : Array CpInfo := ⟨poolList es last⟩
def fileOf (pool : Array CpInfo) (this : Nat) (attrs : Array Attribute := #[]) (ms : Array MethodInfo := #[]) (fl : Nat := 33) (sup : Nat := 0) (ifs : Array Nat := #[]) (fds : Array FieldInfo := #[]) : ClassFile where
  minorVersion := 0
  majorVersion := 65
  constantPool := pool
  accessFlags := fl
  thisClass := this
  superClass := sup
  interfaces := ifs
  fields := fds
  methods := ms
  attributes := attrs
def plain (name : String) (sup : Option ClassId) : Class where
  name := name
  kind := .ordinary
  loader := none
  accessFlags := 33
  super := sup
  interfaces := #[]
  cf := none
  fields := #[]
  methods := #[]
  instanceTypes := #[]
  staticTypes := #[]
  resolved := #[]
  callSites := []
  init := .initialized
  statics := none
  mirror := none

def pool0 : Array CpInfo := pool [(5, u "<init>"), (0, u "()V"), (1, .class_ 10), (1, u "java/lang/Object")] 113

def k0c0 : Code := { maxStack := 0, maxLocals := 1, code := object_method_1_code, exceptionTable := #[], attributes := #[] }
def k0m0 : Method := { name := "<init>", desc := "()V", sig := { parameters := [], returnType := none }, accessFlags := 1, code := some k0c0 }
/-- java/lang/Object -/
def k0 : Class := { plain "java/lang/Object" none with
  accessFlags := 33
  interfaces := #[]
  cf := some (fileOf pool0 8 #[] #[{ accessFlags := 1, nameIndex := 5, descriptorIndex := 6, attributes := #[] }] 33 0 #[] #[])
  fields := #[]
  methods := #[k0m0]
  instanceTypes := #[]
  staticTypes := #[]
  resolved := Array.replicate 124 none
  statics := none }

def pool1 : Array CpInfo := pool [(2, .class_ 4), (1, u "java/lang/Object"), (0, u "<init>"), (0, u "()V"), (0, .class_ 8), (0, u "com/example/unanimo/unanimo/coordinator/RecoveryResult"), (0, .methodref 7 10), (0, .nameAndType 5 11), (0, u "(III)V"), (0, .methodref 7 13), (0, .nameAndType 14 15), (0, u "plus"), (0, u "(Lcom/example/unanimo/unanimo/coordinator/RecoveryResult;)Lcom/example/unanimo/unanimo/coordinator/RecoveryResult;"), (0, .methodref 7 17), (0, .nameAndType 18 19), (0, u "committed"), (0, u "()I"), (0, .methodref 7 21), (0, .nameAndType 22 19), (0, u "rolledBack"), (0, .methodref 7 24), (0, .nameAndType 25 19), (0, u "failures"), (0, .class_ 27), (0, u "com/example/unanimo/unanimo/coordinator/RecoveryResultPlusPinLaw"), (2, u "law"), (0, u "(IIIIII)Z")] 3

def k1m0 : Method := { name := "<init>", desc := "()V", sig := { parameters := [], returnType := none }, accessFlags := 1, code := none }
def k1c1 : Code := { maxStack := 5, maxLocals := 12, code := code, exceptionTable := #[], attributes := #[] }
def k1m1 : Method := { name := "law", desc := "(IIIIII)Z", sig := { parameters := [.int, .int, .int, .int, .int, .int], returnType := some .boolean }, accessFlags := 9, code := some k1c1 }
/-- com/example/unanimo/unanimo/coordinator/RecoveryResultPlusPinLaw -/
def k1 : Class := { plain "com/example/unanimo/unanimo/coordinator/RecoveryResultPlusPinLaw" (some 0) with
  accessFlags := 49
  interfaces := #[]
  cf := some (fileOf pool1 26 #[] #[{ accessFlags := 1, nameIndex := 5, descriptorIndex := 6, attributes := #[] }, { accessFlags := 9, nameIndex := 30, descriptorIndex := 31, attributes := #[] }] 49 2 #[] #[])
  fields := #[]
  methods := #[k1m0, k1m1]
  instanceTypes := #[]
  staticTypes := #[]
  resolved := Array.replicate 35 none
  statics := none }

def pool2 : Array CpInfo := pool [(1, .methodref 2 3), (0, .class_ 4), (0, .nameAndType 5 6), (0, u "java/lang/Object"), (0, u "<init>"), (0, u "()V"), (0, .class_ 8), (0, u "java/lang/Record")] 13

def k2c0 : Code := { maxStack := 1, maxLocals := 1, code := jdk_30_method_1_code, exceptionTable := #[], attributes := #[] }
def k2m0 : Method := { name := "<init>", desc := "()V", sig := { parameters := [], returnType := none }, accessFlags := 4, code := some k2c0 }
/-- java/lang/Record -/
def k2 : Class := { plain "java/lang/Record" (some 0) with
  accessFlags := 1057
  interfaces := #[]
  cf := some (fileOf pool2 7 #[] #[{ accessFlags := 4, nameIndex := 5, descriptorIndex := 6, attributes := #[] }] 1057 2 #[] #[])
  fields := #[]
  methods := #[k2m0]
  instanceTypes := #[]
  staticTypes := #[]
  resolved := Array.replicate 22 none
  statics := none }

def pool3 : Array CpInfo := pool [(1, .methodref 2 3), (0, .class_ 4), (0, .nameAndType 5 6), (0, u "java/lang/Record"), (0, u "<init>"), (0, u "()V"), (0, .fieldref 8 9), (0, .class_ 10), (0, .nameAndType 11 12), (0, u "com/example/unanimo/unanimo/coordinator/RecoveryResult"), (0, u "committed"), (0, u "I"), (0, .fieldref 8 14), (0, .nameAndType 15 12), (0, u "rolledBack"), (0, .fieldref 8 17), (0, .nameAndType 18 12), (0, u "failures"), (0, .methodref 8 20), (0, .nameAndType 5 21), (0, u "(III)V"), (14, u "NONE"), (0, u "Lcom/example/unanimo/unanimo/coordinator/RecoveryResult;"), (3, u "plus"), (0, u "(Lcom/example/unanimo/unanimo/coordinator/RecoveryResult;)Lcom/example/unanimo/unanimo/coordinator/RecoveryResult;"), (2, u "()I")] 32

def k3c0 : Code := { maxStack := 2, maxLocals := 4, code := prog_8_method_1_code, exceptionTable := #[], attributes := #[] }
def k3m0 : Method := { name := "<init>", desc := "(III)V", sig := { parameters := [.int, .int, .int], returnType := none }, accessFlags := 1, code := some k3c0 }
def k3c1 : Code := { maxStack := 6, maxLocals := 2, code := prog_8_method_2_code, exceptionTable := #[], attributes := #[] }
def k3m1 : Method := { name := "plus", desc := "(Lcom/example/unanimo/unanimo/coordinator/RecoveryResult;)Lcom/example/unanimo/unanimo/coordinator/RecoveryResult;", sig := { parameters := [(.object "com/example/unanimo/unanimo/coordinator/RecoveryResult")], returnType := some (.object "com/example/unanimo/unanimo/coordinator/RecoveryResult") }, accessFlags := 1, code := some k3c1 }
def k3c2 : Code := { maxStack := 1, maxLocals := 1, code := prog_8_method_6_code, exceptionTable := #[], attributes := #[] }
def k3m2 : Method := { name := "committed", desc := "()I", sig := { parameters := [], returnType := some .int }, accessFlags := 1, code := some k3c2 }
def k3c3 : Code := { maxStack := 1, maxLocals := 1, code := prog_8_method_7_code, exceptionTable := #[], attributes := #[] }
def k3m3 : Method := { name := "rolledBack", desc := "()I", sig := { parameters := [], returnType := some .int }, accessFlags := 1, code := some k3c3 }
def k3c4 : Code := { maxStack := 1, maxLocals := 1, code := prog_8_method_8_code, exceptionTable := #[], attributes := #[] }
def k3m4 : Method := { name := "failures", desc := "()I", sig := { parameters := [], returnType := some .int }, accessFlags := 1, code := some k3c4 }
/-- com/example/unanimo/unanimo/coordinator/RecoveryResult -/
def k3 : Class := { plain "com/example/unanimo/unanimo/coordinator/RecoveryResult" (some 2) with
  accessFlags := 49
  interfaces := #[]
  cf := some (fileOf pool3 8 #[] #[{ accessFlags := 1, nameIndex := 5, descriptorIndex := 21, attributes := #[] }, { accessFlags := 1, nameIndex := 41, descriptorIndex := 42, attributes := #[] }, { accessFlags := 1, nameIndex := 11, descriptorIndex := 45, attributes := #[] }, { accessFlags := 1, nameIndex := 15, descriptorIndex := 45, attributes := #[] }, { accessFlags := 1, nameIndex := 18, descriptorIndex := 45, attributes := #[] }] 49 2 #[] #[{ accessFlags := 18, nameIndex := 11, descriptorIndex := 12, attributes := #[] }, { accessFlags := 18, nameIndex := 15, descriptorIndex := 12, attributes := #[] }, { accessFlags := 18, nameIndex := 18, descriptorIndex := 12, attributes := #[] }, { accessFlags := 25, nameIndex := 36, descriptorIndex := 37, attributes := #[] }])
  fields := #[{ name := "committed", type := .int, accessFlags := 18, slot := 0, constantValue := 0 }, { name := "rolledBack", type := .int, accessFlags := 18, slot := 1, constantValue := 0 }, { name := "failures", type := .int, accessFlags := 18, slot := 2, constantValue := 0 }, { name := "NONE", type := (.object "com/example/unanimo/unanimo/coordinator/RecoveryResult"), accessFlags := 25, slot := 0, constantValue := 0 }]
  methods := #[k3m0, k3m1, k3m2, k3m3, k3m4]
  instanceTypes := #[.int, .int, .int]
  staticTypes := #[(.object "com/example/unanimo/unanimo/coordinator/RecoveryResult")]
  resolved := Array.replicate 78 none
  statics := none }

def pool4 : Array CpInfo := pool [(1, u "java/lang/Cloneable"), (0, .class_ 1), (0, u "java/lang/Object"), (0, .class_ 3)] 3

/-- java/lang/Cloneable -/
def k4 : Class := { plain "java/lang/Cloneable" (some 0) with
  accessFlags := 1537
  interfaces := #[]
  cf := some (fileOf pool4 2 #[] #[] 1537 4 #[] #[])
  fields := #[]
  methods := #[]
  instanceTypes := #[]
  staticTypes := #[]
  resolved := Array.replicate 8 none
  statics := none }

def pool5 : Array CpInfo := pool [(1, u "java/io/Serializable"), (0, .class_ 1), (0, u "java/lang/Object"), (0, .class_ 3)] 3

/-- java/io/Serializable -/
def k5 : Class := { plain "java/io/Serializable" (some 0) with
  accessFlags := 1537
  interfaces := #[]
  cf := some (fileOf pool5 2 #[] #[] 1537 4 #[] #[])
  fields := #[]
  methods := #[]
  instanceTypes := #[]
  staticTypes := #[]
  resolved := Array.replicate 8 none
  statics := none }

/-- the primitive byte -/
def k6 : Class := { plain "byte" none with kind := .primitive 'B', accessFlags := 0x411 }
/-- [B -/
def k7 : Class := { plain "[B" (some 0) with kind := .array 6 .byte, interfaces := #[4, 5], accessFlags := 1041 }

/-- the primitive int -/
def k8 : Class := { plain "int" none with kind := .primitive 'I', accessFlags := 0x411 }
/-- [I -/
def k9 : Class := { plain "[I" (some 0) with kind := .array 8 .int, interfaces := #[4, 5], accessFlags := 1041 }

def heap : Heap := #[]
def classes : Array Class := #[k0, k1, k2, k3, k4, k5, k6, k7, k8, k9]
def interned : List (Array UInt16 × Addr) := []
def slotsUsed : Nat := 0
def theMethod : MethodId := ⟨1, 1⟩
def args0 : Array Value := #[.int 0, .int 1, .int 2, .int 3, .int 4, .int 5]
def aboutOver (below : List Frame) : State where
  vm := { classes := classes, interned := interned.toArray }
  heap := heap
  slotsUsed := slotsUsed
  threads := #[{ frames := .invoking theMethod args0 :: below }]
def below0 : List Frame := [.native { method := ⟨0, 0⟩, args := #[] }]
def about1 : State := aboutOver below0
def p0 : Program := .bare "" "" ""
def e0 : Env := launch0.env 0 0 0
theorem w_frames : about1.frames = Frame.invoking theMethod args0 :: below0 := rfl
set_option maxRecDepth 65536 in
theorem w_args : argsFit about1.vm theMethod args0 = true := by decide +kernel
set_option maxRecDepth 65536 in
theorem w_heap : heapFits about1 = true := by decide +kernel
set_option maxRecDepth 65536 in
theorem w_runnable : about1.curStatus? = some .runnable := by decide +kernel
set_option maxRecDepth 65536 in
theorem w_alone : about1.alone = true := by decide +kernel
set_option maxRecDepth 65536 in
theorem w_named : about1.methodNamed? x = some theMethod := by decide +kernel
set_option maxRecDepth 65536 in
theorem w_hears : about1.hears theMethod below0 = true := by decide +kernel
set_option maxRecDepth 65536 in
theorem w_ripe : about1.ripe theMethod args0 below0 = true := by decide +kernel
theorem w_running : about1.status = .running := rfl
set_option maxRecDepth 65536 in
theorem w_room : about1.hasRoom e0.platform room_1 = true :=
  launch0.hasRoom_least _ room_1 (by decide +kernel) (by decide +kernel) (by decide +kernel) (by decide +kernel) (by decide +kernel) (by decide +kernel)
theorem allAtoms_all (ts : List Jvm.Cond) (a : Array Jvm.Value) (st : Jvm.State) : (allAtoms ts).before a st = ts.all (fun c => c.before a st) := by
  induction ts with
  | nil => rfl
  | cons c t ih =>
    show (Jvm.Cond.and c (allAtoms t)).before a st = _
    rw [Jvm.Cond.before_and, ih, List.all_cons]
def words1 : List Jvm.Cond := Jvm.Cond.code x code maxLocals ret :: tables_1
/-- a 'code' word, met by the world's own term for the bytes: nothing is compared byte by byte -/
theorem code_word {y : MethodName} {bytes : ByteArray} {mx : Nat} {rt : Option FieldType} {a : Array Value} {s : State} {m : MethodId} {meth : Method} {c : Code} (h1 : s.methodNamed? y = some m) (h2 : s.vm.method? m = some meth) (h3 : meth.code = some c) (h4 : c.code = bytes)
    (h5 : (c.maxLocals == mx && c.exceptionTable.isEmpty && decide (c.maxStack ≤ mostOperands) && decide (meth.sig.returnType = rt) && !meth.locks && decide (parseMethodDescriptor y.desc = some meth.sig)) = true) : (Jvm.Cond.code y bytes mx rt).before a s = true := by
  simp only [Bool.and_eq_true, beq_iff_eq, Bool.not_eq_true', decide_eq_true_eq] at h5
  obtain ⟨⟨⟨⟨⟨g1, g2⟩, g3⟩, g4⟩, g5⟩, g6⟩ := h5
  simp [Cond.before, Cond.holds, Cond.value, h1, h2, h3, h4, g1, g2, g3, g4, g5, g6]
def isCode : Jvm.Cond → Bool
  | .code _ _ _ _ => true
  | _ => false
theorem all_split {L : List Jvm.Cond} {P : Jvm.Cond → Bool} (h1 : L.all (fun c => isCode c || P c) = true) (h2 : ∀ c ∈ L.filter isCode, P c = true) : L.all P = true := by
  refine List.all_eq_true.mpr fun c hc => ?_
  have h := List.all_eq_true.mp h1 c hc
  rcases Bool.eq_false_or_eq_true (isCode c) with hi | hi
  · exact h2 c (List.mem_filter.mpr ⟨hc, hi⟩)
  · simpa [hi] using h
set_option maxRecDepth 65536 in
theorem w_c0 : (Jvm.Cond.code x code maxLocals ret).before args0 about1 = true := code_word (m := ⟨1, 1⟩) (meth := k1m1) (c := k1c1) (by decide +kernel) rfl rfl rfl (by decide +kernel)
set_option maxRecDepth 65536 in
theorem w_c1 : (Jvm.Cond.code ({ cls := "com/example/unanimo/unanimo/coordinator/RecoveryResult", name := "<init>", desc := "(III)V" } : Jvm.MethodName) prog_8_method_1_code (4 : Nat) (Option.none : Option Jvm.ClassFile.FieldType)).before args0 about1 = true := code_word (m := ⟨3, 0⟩) (meth := k3m0) (c := k3c0) (by decide +kernel) rfl rfl rfl (by decide +kernel)
set_option maxRecDepth 65536 in
theorem w_c2 : (Jvm.Cond.code ({ cls := "java/lang/Record", name := "<init>", desc := "()V" } : Jvm.MethodName) jdk_30_method_1_code (1 : Nat) (Option.none : Option Jvm.ClassFile.FieldType)).before args0 about1 = true := code_word (m := ⟨2, 0⟩) (meth := k2m0) (c := k2c0) (by decide +kernel) rfl rfl rfl (by decide +kernel)
set_option maxRecDepth 65536 in
theorem w_c3 : (Jvm.Cond.code ({ cls := "java/lang/Object", name := "<init>", desc := "()V" } : Jvm.MethodName) object_method_1_code (1 : Nat) (Option.none : Option Jvm.ClassFile.FieldType)).before args0 about1 = true := code_word (m := ⟨0, 0⟩) (meth := k0m0) (c := k0c0) (by decide +kernel) rfl rfl rfl (by decide +kernel)
set_option maxRecDepth 65536 in
theorem w_c4 : (Jvm.Cond.code ({ cls := "com/example/unanimo/unanimo/coordinator/RecoveryResult", name := "plus", desc := "(Lcom/example/unanimo/unanimo/coordinator/RecoveryResult;)Lcom/example/unanimo/unanimo/coordinator/RecoveryResult;" } : Jvm.MethodName) prog_8_method_2_code (2 : Nat) (Option.some (Jvm.ClassFile.FieldType.object "com/example/unanimo/unanimo/coordinator/RecoveryResult"))).before args0 about1 = true := code_word (m := ⟨3, 1⟩) (meth := k3m1) (c := k3c1) (by decide +kernel) rfl rfl rfl (by decide +kernel)
set_option maxRecDepth 65536 in
theorem w_c5 : (Jvm.Cond.code ({ cls := "com/example/unanimo/unanimo/coordinator/RecoveryResult", name := "committed", desc := "()I" } : Jvm.MethodName) prog_8_method_6_code (1 : Nat) (Option.some Jvm.ClassFile.FieldType.int)).before args0 about1 = true := code_word (m := ⟨3, 2⟩) (meth := k3m2) (c := k3c2) (by decide +kernel) rfl rfl rfl (by decide +kernel)
set_option maxRecDepth 65536 in
theorem w_c6 : (Jvm.Cond.code ({ cls := "com/example/unanimo/unanimo/coordinator/RecoveryResult", name := "rolledBack", desc := "()I" } : Jvm.MethodName) prog_8_method_7_code (1 : Nat) (Option.some Jvm.ClassFile.FieldType.int)).before args0 about1 = true := code_word (m := ⟨3, 3⟩) (meth := k3m3) (c := k3c3) (by decide +kernel) rfl rfl rfl (by decide +kernel)
set_option maxRecDepth 65536 in
theorem w_c7 : (Jvm.Cond.code ({ cls := "com/example/unanimo/unanimo/coordinator/RecoveryResult", name := "failures", desc := "()I" } : Jvm.MethodName) prog_8_method_8_code (1 : Nat) (Option.some Jvm.ClassFile.FieldType.int)).before args0 about1 = true := code_word (m := ⟨3, 4⟩) (meth := k3m4) (c := k3c4) (by decide +kernel) rfl rfl rfl (by decide +kernel)
def codes1 : List Jvm.Cond := [Jvm.Cond.code x code maxLocals ret, Jvm.Cond.code ({ cls := "com/example/unanimo/unanimo/coordinator/RecoveryResult", name := "<init>", desc := "(III)V" } : Jvm.MethodName) prog_8_method_1_code (4 : Nat) (Option.none : Option Jvm.ClassFile.FieldType), Jvm.Cond.code ({ cls := "java/lang/Record", name := "<init>", desc := "()V" } : Jvm.MethodName) jdk_30_method_1_code (1 : Nat) (Option.none : Option Jvm.ClassFile.FieldType), Jvm.Cond.code ({ cls := "java/lang/Object", name := "<init>", desc := "()V" } : Jvm.MethodName) object_method_1_code (1 : Nat) (Option.none : Option Jvm.ClassFile.FieldType), Jvm.Cond.code ({ cls := "com/example/unanimo/unanimo/coordinator/RecoveryResult", name := "plus", desc := "(Lcom/example/unanimo/unanimo/coordinator/RecoveryResult;)Lcom/example/unanimo/unanimo/coordinator/RecoveryResult;" } : Jvm.MethodName) prog_8_method_2_code (2 : Nat) (Option.some (Jvm.ClassFile.FieldType.object "com/example/unanimo/unanimo/coordinator/RecoveryResult")), Jvm.Cond.code ({ cls := "com/example/unanimo/unanimo/coordinator/RecoveryResult", name := "committed", desc := "()I" } : Jvm.MethodName) prog_8_method_6_code (1 : Nat) (Option.some Jvm.ClassFile.FieldType.int), Jvm.Cond.code ({ cls := "com/example/unanimo/unanimo/coordinator/RecoveryResult", name := "rolledBack", desc := "()I" } : Jvm.MethodName) prog_8_method_7_code (1 : Nat) (Option.some Jvm.ClassFile.FieldType.int), Jvm.Cond.code ({ cls := "com/example/unanimo/unanimo/coordinator/RecoveryResult", name := "failures", desc := "()I" } : Jvm.MethodName) prog_8_method_8_code (1 : Nat) (Option.some Jvm.ClassFile.FieldType.int)]
set_option maxRecDepth 65536 in
theorem codes_eq : words1.filter isCode = codes1 := rfl
theorem w_codes : ∀ c ∈ words1.filter isCode, c.before args0 about1 = true := by
  rw [codes_eq]
  intro c hc
  simp only [codes1, List.mem_cons, List.not_mem_nil, or_false] at hc
  rcases hc with rfl | rfl | rfl | rfl | rfl | rfl | rfl | rfl
  · exact w_c0
  · exact w_c1
  · exact w_c2
  · exact w_c3
  · exact w_c4
  · exact w_c5
  · exact w_c6
  · exact w_c7
set_option maxRecDepth 65536 in
theorem w_t1 : (words1.take 24).all (fun c => isCode c || c.before args0 about1) = true := by decide +kernel
set_option maxRecDepth 65536 in
theorem w_t2 : (words1.drop 24).all (fun c => isCode c || c.before args0 about1) = true := by decide +kernel
theorem w_tables : (allAtoms (Jvm.Cond.code x code maxLocals ret :: tables_1)).before args0 about1 = true := by
  rw [allAtoms_all]
  show words1.all (fun c => c.before args0 about1) = true
  refine all_split ?_ w_codes
  rw [← List.take_append_drop 24 words1, List.all_append, w_t1, w_t2]
  rfl
set_option maxRecDepth 65536 in
theorem w_case : (Jvm.Cond.and given_1 narrow_1).before args0 about1 = true := by decide +kernel
theorem w_applies : (headSpec (Jvm.Cond.code x code maxLocals ret :: tables_1) room_1).applies x e0.platform about1 = true :=
  (Spec.applies_iff w_frames).mpr ⟨w_running, w_runnable, w_alone, w_named, w_hears, w_ripe, w_room, w_tables⟩
theorem atStart : AtStart classFile x code maxLocals ret World_1 tables_1 room_1 Calls_1 rest_1 Pre_1 launch0 p0 e0 about1 theMethod args0 below0 :=
  ⟨lists_1, trivial, launch0.admits_env _ _ _, launch0.least_env, fairChoices_fair.cas, fairChoices_fair.clock, w_frames, w_args, w_heap, w_applies, trivial, trivial, w_case⟩
end start1
theorem witness_1 : WitnessClaimed_1 := ⟨start1.p0, start1.e0, start1.about1, start1.theMethod, start1.args0, start1.below0, start1.atStart⟩
end Jvm.Pilot.@@N@@
