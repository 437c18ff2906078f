import JvmDerived
import JvmDerived.Pilot.@@N@@Statement
import JvmDerived.Pilot.@@N@@Code
set_option linter.unusedVariables false
set_option linter.unusedSimpArgs false
namespace Jvm.Pilot.@@N@@
open Jvm Jvm.ClassFile Sem Op Lib Jvm.Free Jvm.Stand Jvm.LawKit Jvm.RoadKit Bundle Jvm.Pilot.@@N@@.Jvm.D
/-! GoKit: a walk told forwards. Go: from this frame on the method comes to its end as Q says; Does: what a call of a method does (over the library's MetFree). -/
section GoKit
variable {p : Program} {l : Launch} {e : Env} {R : Room} {s : State} {m : MethodId} {args : Array Value} {below : List Frame} {meth : Method} {c : Code} {T T' : State} {locs : List Loc} {cells slots : Nat} {Z : State} {a0 : Array Value} {h : Heap} {g g' : JFrame} {Q : Outcome → State → Prop}
def Go (p : Program) (e : Env) (below : List Frame) (Q : Outcome → State → Prop) (T : State) (g : JFrame) : Prop :=
  ∃ s₂ o, Steps p.tables e below (T.setTop g) s₂ ∧ s₂.status = .running ∧ Ended s₂ below o ∧ Q o s₂
theorem Go.st (k : ∀ target, Steps p.tables e below (T'.setTop g') target → Steps p.tables e below (T.setTop g) target) (H : Go p e below Q T' g') : Go p e below Q T g := by
  obtain ⟨s₂, o, h1, r⟩ := H; exact ⟨s₂, o, k _ h1, r⟩
theorem Go.eq (q : g = g') (H : Go p e below Q T g') : Go p e below Q T g := q ▸ H
def Ends (s : State) (k n : Nat) (P : Option Value → Heap → List Loc → Prop) : Outcome → State → Prop :=
  fun o U' => ∃ v L, o = .returned v ∧ P v U'.heap L ∧ FrameEnd s o U' L k n
theorem Go.ret (X : Stand p l e R s m args below meth c T locs cells slots) (hx : p.tables.exec = Jvm.exec) (hlk : meth.locks = false) {pc : Nat} {Ls : Array Slot} {w : Value} {t : FieldType} {i : Instr} {rest : List Value} {P : Option Value → Heap → List Loc → Prop} {k n : Nat}
    (hret : meth.sig.returnType = some t) (hn : narrow t w = w)
    (hi : (i = .ireturn ∧ (t = .int ∨ t = .boolean ∨ t = .byte ∨ t = .char ∨ t = .short) ∧ ∃ z, w = .int z) ∨ (i = .lreturn ∧ t = .long ∧ ∃ z, w = .long z) ∨ (i = .dreturn ∧ t = .double ∧ ∃ z, w = .double z) ∨ (i = .freturn ∧ t = .float ∧ ∃ z, w = .float z) ∨ (i = .areturn ∧ t.isReference = true ∧ w.isRef = true))
    (hd : decode c.code pc = .ok (i, 1)) (hk : cells ≤ k) (hs : slots ≤ n) (hP : P (some w) T.heap locs) : Go p e below (Ends s k n P) T (mkF m pc Ls (w :: rest)) := by
  obtain ⟨fs, hr, hrun, hended, hW, hsame⟩ := X.leave (v := some w) (fun h => by rw [hret] at h; cases h) hlk
  exact ⟨_, _, retOut X hx hret hn hi hd hr, hrun, hended, _, _, rfl, hP, ⟨_, rfl⟩, hW, hsame.mono hk hs⟩
theorem Go.retV (X : Stand p l e R s m args below meth c T locs cells slots) (hx : p.tables.exec = Jvm.exec) (hlk : meth.locks = false) {pc : Nat} {Ls : Array Slot} {P : Option Value → Heap → List Loc → Prop} {k n : Nat}
    (hret : meth.sig.returnType = none) (hd : decode c.code pc = .ok (.return_, 1)) (hk : cells ≤ k) (hs : slots ≤ n) (hP : P none T.heap locs) : Go p e below (Ends s k n P) T (mkF m pc Ls []) := by
  obtain ⟨fs, hr, hrun, hended, hW, hsame⟩ := X.leave (v := none) (fun _ => rfl) hlk
  exact ⟨_, _, X.returnOut hx hret hd hr, hrun, hended, _, _, rfl, hP, ⟨_, rfl⟩, hW, hsame.mono hk hs⟩
theorem Go.retZ (X : Stand p l e R s m args below meth c T locs cells slots) (hx : p.tables.exec = Jvm.exec) (hlk : meth.locks = false) {pc : Nat} {Ls : Array Slot} {z : Int32} {rest : List Value} {P : Option Value → Heap → List Loc → Prop} {k n : Nat}
    (hret : meth.sig.returnType = some .boolean) (hn : narrow .boolean (.int z) = .int z) (hd : decode c.code pc = .ok (.ireturn, 1)) (hk : cells ≤ k) (hs : slots ≤ n) (hP : P (some (.int z)) T.heap locs) : Go p e below (Ends s k n P) T (mkF m pc Ls (.int z :: rest)) :=
  Go.ret X hx hlk hret hn (Or.inl ⟨rfl, Or.inr (Or.inl rfl), z, rfl⟩) hd hk hs hP
theorem Go.retC (X : Stand p l e R s m args below meth c T locs cells slots) (hx : p.tables.exec = Jvm.exec) (hlk : meth.locks = false) {pc : Nat} {Ls : Array Slot} {z : Int32} {rest : List Value} {P : Option Value → Heap → List Loc → Prop} {k n : Nat}
    (hret : meth.sig.returnType = some .char) (hn : narrow .char (.int z) = .int z) (hd : decode c.code pc = .ok (.ireturn, 1)) (hk : cells ≤ k) (hs : slots ≤ n) (hP : P (some (.int z)) T.heap locs) : Go p e below (Ends s k n P) T (mkF m pc Ls (.int z :: rest)) :=
  Go.ret X hx hlk hret hn (Or.inl ⟨rfl, Or.inr (Or.inr (Or.inr (Or.inl rfl))), z, rfl⟩) hd hk hs hP
theorem Go.retI (X : Stand p l e R s m args below meth c T locs cells slots) (hx : p.tables.exec = Jvm.exec) (hlk : meth.locks = false) {pc : Nat} {Ls : Array Slot} {z : Int32} {rest : List Value} {P : Option Value → Heap → List Loc → Prop} {k n : Nat}
    (hret : meth.sig.returnType = some .int) (hd : decode c.code pc = .ok (.ireturn, 1)) (hk : cells ≤ k) (hs : slots ≤ n) (hP : P (some (.int z)) T.heap locs) : Go p e below (Ends s k n P) T (mkF m pc Ls (.int z :: rest)) :=
  Go.ret X hx hlk hret rfl (Or.inl ⟨rfl, Or.inl rfl, z, rfl⟩) hd hk hs hP
theorem Go.retJ (X : Stand p l e R s m args below meth c T locs cells slots) (hx : p.tables.exec = Jvm.exec) (hlk : meth.locks = false) {pc : Nat} {Ls : Array Slot} {z : Int64} {rest : List Value} {P : Option Value → Heap → List Loc → Prop} {k n : Nat}
    (hret : meth.sig.returnType = some .long) (hd : decode c.code pc = .ok (.lreturn, 1)) (hk : cells ≤ k) (hs : slots ≤ n) (hP : P (some (.long z)) T.heap locs) : Go p e below (Ends s k n P) T (mkF m pc Ls (.long z :: rest)) :=
  Go.ret X hx hlk hret rfl (Or.inr (Or.inl ⟨rfl, rfl, z, rfl⟩)) hd hk hs hP
theorem Go.retA (X : Stand p l e R s m args below meth c T locs cells slots) (hx : p.tables.exec = Jvm.exec) (hlk : meth.locks = false) {pc : Nat} {Ls : Array Slot} {w : Value} {t : FieldType} {rest : List Value} {P : Option Value → Heap → List Loc → Prop} {k n : Nat}
    (hret : meth.sig.returnType = some t) (ht : t.isReference = true) (hw : w.isRef = true) (hn : narrow t w = w) (hd : decode c.code pc = .ok (.areturn, 1)) (hk : cells ≤ k) (hs : slots ≤ n) (hP : P (some w) T.heap locs) : Go p e below (Ends s k n P) T (mkF m pc Ls (w :: rest)) :=
  Go.ret X hx hlk hret hn (Or.inr (Or.inr (Or.inr (Or.inr ⟨rfl, ht, hw⟩)))) hd hk hs hP
/-- what a call does: the arguments, the heap before, and P: what it returns, the heap behind, the places written -/
def Does (l : Launch) (Z : State) (y : MethodName) (bytes : ByteArray) (maxL : Nat) (ret : Option FieldType) (ws : List Jvm.Cond) (rm : Room) (as' : Array Value) (h : Heap) (P : Option Value → Heap → List Loc → Prop) : Prop :=
  MetFree l y (head1 (Jvm.Cond.code y bytes maxL ret :: ws) rm) (fun a U => a = as' ∧ Z.Warmed39 U.vm ∧ U.heap = h) (fun _ _ _ _ _ => True) (fun _ U o U' => ∃ v L, o = .returned v ∧ P v U'.heap L ∧ FrameEnd U o U' L rm.cells rm.slots)
theorem Does.intro {y : MethodName} {bytes : ByteArray} {maxL : Nat} {ret : Option FieldType} {ws : List Jvm.Cond} {rm : Room} {as' : Array Value} {P : Option Value → Heap → List Loc → Prop} {Ls : Array Slot} (hpn : plainName y.cls = true) (hef : ∀ m, entryFrame m as' maxL = mkF m 0 Ls [])
    (body : ∀ (p : Program) (e : Env) (s : State) (m : MethodId) (below : List Frame) (meth : Method) (c : Code) (s₁ : State), p.tables.exec = Jvm.exec → c.code = bytes → c.maxLocals = maxL → s.vm.findClass y.cls = some m.cls → meth.name = y.name → meth.sig.returnType = ret → meth.locks = false →
      Z.Warmed39 s.vm → s₁.heap = h → Stand p l e rm s m as' below meth c s₁ [] 0 0 → Go p e below (Ends s rm.cells rm.slots P) s₁ (mkF m 0 Ls [])) : Does l Z y bytes maxL ret ws rm as' h P := by
  refine MetFree.of_bodySF (plainFor_of_name hpn) hisR ?_
  intro p e s m args below meth c s₁ Bd hml0 hP hK
  obtain ⟨rfl, hZ, hh⟩ := hP
  have := body p e s m below meth c s₁ Bd.exec Bd.bytes hml0 (findClass_of_methodNamed Bd.named) (name_of_methodNamed Bd.named Bd.method).1 Bd.returns Bd.notSynchronized hZ (by rw [← hh, Bd.state]; rfl) (Stand.of_body Bd)
  obtain ⟨s₂, o, h1, h2, h3, h4⟩ := this
  exact ⟨s₂, o, castTop (hef m) h1, h2, h3, h4⟩
theorem Does.mono {y : MethodName} {bytes : ByteArray} {maxL : Nat} {ret : Option FieldType} {ws : List Jvm.Cond} {rm : Room} {as' : Array Value} {P P' : Option Value → Heap → List Loc → Prop} (D : Does l Z y bytes maxL ret ws rm as' h P) (q : ∀ v h' L, P v h' L → P' v h' L) : Does l Z y bytes maxL ret ws rm as' h P' := by
  intro p e ha hc hk s m args below hf happ hP hK
  obtain ⟨n, o, h1, h2, h3, v, L, h4, h5, h6⟩ := D p e ha hc hk s m args below hf happ hP hK
  exact ⟨n, o, h1, h2, h3, v, L, h4, q _ _ _ h5, h6⟩
theorem Does.static {y : MethodName} {bytes : ByteArray} {maxL : Nat} {ret : Option FieldType} {rm : Room} {P : Option Value → Heap → List Loc → Prop} {own : String} {index : Nat} {argsL rest : List Value} (D : Does l Z y bytes maxL ret [] rm argsL.toArray h P)
    (X : Stand p l e R s m args below meth c T locs cells slots) (hx : p.tables.exec = Jvm.exec) (hZ : Z.Warmed39 s.vm) (hown : s.vm.findClass own = some m.cls) (eT : T.heap = h) (w1 : (Cond.methodLink own index y).before a0 Z = true) (w2 : (Cond.static y).before a0 Z = true) (w3 : (Cond.initialized y.cls).before a0 Z = true) (w4 : (Cond.code y bytes maxL ret).before a0 Z = true)
    (hy : y.cls ≠ "java/lang/invoke/MethodHandle" ∧ y.cls ≠ "java/lang/invoke/VarHandle") (hg : g.method = m) (hsize : g.locals.size = c.maxLocals) (hlen : ∀ sig, parseMethodDescriptor y.desc = some sig → argsL.length = sig.parameters.length)
    (hstack : g.stack = argsL.reverse ++ rest) (hd : decode c.code g.pc = .ok (.invokestatic index, 3)) {W : Nat} (hW : 2 * g.monitorRoom + (rest.map fun v => v.category).sum ≤ W) (hf : rm.frames + 1 ≤ R.frames) (hl : W + (maxL + 11) + rm.locals ≤ R.locals) (hc : cells + rm.cells ≤ R.cells) (hs : slots + rm.slots ≤ R.slots) :
    ∃ v T' L, Stand p l e R s m args below meth c T' (locs ++ L) (cells + rm.cells) (slots + rm.slots) ∧ P v T'.heap L ∧ ∀ target, Steps p.tables e below (T'.setTop { g with pc := g.pc + 3, stack := v.toList ++ rest }) target → Steps p.tables e below (T.setTop g) target := by
  obtain ⟨v, vm₁, ⟨T', L', k', n'⟩, -, X', ⟨L, hQ, q1, q2, q3⟩, st⟩ := Jvm.LawKit.callS X hx (y := y) hown (mvT hZ w1) (mvT hZ w2) (mvT hZ w3) (mvT hZ w4) hy (backOf (W := W) D hZ w4 w3 hf hl) hg hsize (argsL := argsL) (rest := rest) hlen hstack hW hd (fun _ _ => ⟨rfl, eT, hc, hs⟩)
  dsimp only [Pt.U, Pt.locs, Pt.cells, Pt.slots] at X' q1 q2 q3 st hQ
  subst q1 q2 q3
  exact ⟨v, T', L, X', hQ, st⟩
theorem Does.special {y : MethodName} {bytes : ByteArray} {maxL : Nat} {rm : Room} {P : Option Value → Heap → List Loc → Prop} {own : String} {index : Nat} {a : Addr} {argsL rest : List Value} (D : Does l Z y bytes maxL none [] rm (.ref a :: argsL).toArray h P)
    (X : Stand p l e R s m args below meth c T locs cells slots) (hx : p.tables.exec = Jvm.exec) (hZ : Z.Warmed39 s.vm) (hown : s.vm.findClass own = some m.cls) (eT : T.heap = h) (hnm : y.name = "<init>") (w1 : (Cond.methodLink own index y).before a0 Z = true) (w2 : (Cond.instanceMethod y).before a0 Z = true) (w3 : (Cond.initialized y.cls).before a0 Z = true) (w4 : (Cond.code y bytes maxL none).before a0 Z = true)
    (hy : y.cls ≠ "java/lang/invoke/MethodHandle" ∧ y.cls ≠ "java/lang/invoke/VarHandle") (hg : g.method = m) (hsize : g.locals.size = c.maxLocals) (hlen : ∀ sig, parseMethodDescriptor y.desc = some sig → argsL.length = sig.parameters.length)
    (hstack : g.stack = argsL.reverse ++ .ref a :: rest) (hd : decode c.code g.pc = .ok (.invokespecial index, 3)) {W : Nat} (hW : 2 * g.monitorRoom + (rest.map fun v => v.category).sum ≤ W) (hf : rm.frames + 1 ≤ R.frames) (hl : W + (maxL + 11) + rm.locals ≤ R.locals) (hc : cells + rm.cells ≤ R.cells) (hs : slots + rm.slots ≤ R.slots) :
    ∃ v T' L, Stand p l e R s m args below meth c T' (locs ++ L) (cells + rm.cells) (slots + rm.slots) ∧ P v T'.heap L ∧ ∀ target, Steps p.tables e below (T'.setTop { g with pc := g.pc + 3, stack := v.toList ++ rest }) target → Steps p.tables e below (T.setTop g) target := by
  obtain ⟨v, vm₁, ⟨T', L', k', n'⟩, -, X', ⟨L, hQ, q1, q2, q3⟩, st⟩ := X.specialBack hx (y := y) hnm hown (mvT hZ w1) (mvT hZ w2) (mvT hZ w4) hy (backOf (W := W) D hZ w4 w3 hf hl) hg hsize (Steps.refl _) (a := a) (argsL := argsL) (rest := rest) hlen hstack hW hd (fun _ _ => ⟨rfl, eT, hc, hs⟩)
  dsimp only [Pt.U, Pt.locs, Pt.cells, Pt.slots] at X' q1 q2 q3 st hQ
  subst q1 q2 q3
  exact ⟨v, T', L, X', hQ, fun _ k => st.trans k⟩
theorem Does.virtual {y : MethodName} {bytes : ByteArray} {maxL : Nat} {ret : Option FieldType} {rm : Room} {P : Option Value → Heap → List Loc → Prop} {own C : String} {index : Nat} {a : Addr} {argsL rest : List Value} (D : Does l Z y bytes maxL ret [] rm (.ref a :: argsL).toArray h P)
    (X : Stand p l e R s m args below meth c T locs cells slots) (hx : p.tables.exec = Jvm.exec) (hZ : Z.Warmed39 s.vm) (hown : s.vm.findClass own = some m.cls) (eT : T.heap = h) (E : Exa Z h a C) (w1 : (Cond.methodLink own index y).before a0 Z = true) (w2 : (Cond.declares y).before a0 Z = true) (w2' : (Cond.selects C y y).before a0 Z = true) (w2'' : (Cond.instanceMethod y).before a0 Z = true) (w3 : (Cond.initialized y.cls).before a0 Z = true) (w4 : (Cond.code y bytes maxL ret).before a0 Z = true)
    (hy : y.cls ≠ "java/lang/invoke/MethodHandle" ∧ y.cls ≠ "java/lang/invoke/VarHandle") (hg : g.method = m) (hsize : g.locals.size = c.maxLocals) (hlen : ∀ sig, parseMethodDescriptor y.desc = some sig → argsL.length = sig.parameters.length)
    (hstack : g.stack = argsL.reverse ++ .ref a :: rest) (hd : decode c.code g.pc = .ok (.invokevirtual index, 3)) {W : Nat} (hW : 2 * g.monitorRoom + (rest.map fun v => v.category).sum ≤ W) (hf : rm.frames + 1 ≤ R.frames) (hl : W + (maxL + 11) + rm.locals ≤ R.locals) (hc : cells + rm.cells ≤ R.cells) (hs : slots + rm.slots ≤ R.slots) :
    ∃ v T' L, Stand p l e R s m args below meth c T' (locs ++ L) (cells + rm.cells) (slots + rm.slots) ∧ P v T'.heap L ∧ ∀ target, Steps p.tables e below (T'.setTop { g with pc := g.pc + 3, stack := v.toList ++ rest }) target → Steps p.tables e below (T.setTop g) target := by
  obtain ⟨cB, kB, q1, -, q3⟩ := isOf hZ eT E
  obtain ⟨v, vm₁, ⟨T', L', k', n'⟩, -, X', ⟨L, hQ, q1, q2, q3⟩, st⟩ := X.virtualBack hx (y := y) (z := y) hown (mvT hZ w1) (mvT hZ w2) (notFace_of_selects (args := #[]) (mvT hZ w2')) (mvT hZ w2') (mvT hZ w2'') hy (backOf (W := W) D hZ w4 w3 hf hl) q1 q3 hg hsize (Steps.refl _) (argsL := argsL) (rest := rest) hlen hstack hW hd (fun _ _ => ⟨rfl, eT, hc, hs⟩)
  dsimp only [Pt.U, Pt.locs, Pt.cells, Pt.slots] at X' q1 q2 q3 st hQ
  subst q1 q2 q3
  exact ⟨v, T', L, X', hQ, fun _ k => st.trans k⟩
theorem Does.virtualUp {x' z : MethodName} {owner : String} {bytes : ByteArray} {maxL : Nat} {ret : Option FieldType} {rm : Room} {P : Option Value → Heap → List Loc → Prop} {own C : String} {index : Nat} {a : Addr} {argsL rest : List Value} (D : Does l Z z bytes maxL ret [] rm (.ref a :: argsL).toArray h P)
    (X : Stand p l e R s m args below meth c T locs cells slots) (hx : p.tables.exec = Jvm.exec) (hZ : Z.Warmed39 s.vm) (hown : s.vm.findClass own = some m.cls) (eT : T.heap = h) (E : Exa Z h a C) (w1 : (Cond.methodLink own index x').before a0 Z = true) (w1' : (Cond.sameMethod x'.cls owner x'.name x'.desc).before a0 Z = true) (w2 : (Cond.declares ⟨owner, x'.name, x'.desc⟩).before a0 Z = true) (w2' : (Cond.selects C x' z).before a0 Z = true) (w2'' : (Cond.instanceMethod z).before a0 Z = true) (w3 : (Cond.initialized z.cls).before a0 Z = true) (w4 : (Cond.code z bytes maxL ret).before a0 Z = true)
    (hy : owner ≠ "java/lang/invoke/MethodHandle" ∧ owner ≠ "java/lang/invoke/VarHandle") (hg : g.method = m) (hsize : g.locals.size = c.maxLocals) (hlen : ∀ sig, parseMethodDescriptor x'.desc = some sig → argsL.length = sig.parameters.length)
    (hstack : g.stack = argsL.reverse ++ .ref a :: rest) (hd : decode c.code g.pc = .ok (.invokevirtual index, 3)) {W : Nat} (hW : 2 * g.monitorRoom + (rest.map fun v => v.category).sum ≤ W) (hf : rm.frames + 1 ≤ R.frames) (hl : W + (maxL + 11) + rm.locals ≤ R.locals) (hc : cells + rm.cells ≤ R.cells) (hs : slots + rm.slots ≤ R.slots) :
    ∃ v T' L, Stand p l e R s m args below meth c T' (locs ++ L) (cells + rm.cells) (slots + rm.slots) ∧ P v T'.heap L ∧ ∀ target, Steps p.tables e below (T'.setTop { g with pc := g.pc + 3, stack := v.toList ++ rest }) target → Steps p.tables e below (T.setTop g) target := by
  obtain ⟨cB, kB, q1, -, q3⟩ := isOf hZ eT E
  obtain ⟨v, vm₁, ⟨T', L', k', n'⟩, -, X', ⟨L, hQ, q1, q2, q3⟩, st⟩ := X.virtualBackUp hx (x := x') (y := z) hown (mvT hZ w1) (mvT hZ w1') (mvT hZ w2) hy (mvT hZ w2') (mvT hZ w2'') (backOf (W := W) D hZ w4 w3 hf hl) q1 q3 hg hsize (Steps.refl _) (argsL := argsL) (rest := rest) hlen hstack hW hd (fun _ _ => ⟨rfl, eT, hc, hs⟩)
  dsimp only [Pt.U, Pt.locs, Pt.cells, Pt.slots] at X' q1 q2 q3 st hQ
  subst q1 q2 q3
  exact ⟨v, T', L, X', hQ, fun _ k => st.trans k⟩
/-- a call that leaves the heap as it was and returns w -/
abbrev Val (w : Option Value) (h : Heap) : Option Value → Heap → List Loc → Prop := fun v h' L => v = w ∧ L = [] ∧ h' = h
theorem own_still {w : Option Value} {rm : Room} {rest : List Value} (hc : rm.cells = 0) (hs : rm.slots = 0)
    (H : ∃ v T' L, Stand p l e R s m args below meth c T' (locs ++ L) (cells + rm.cells) (slots + rm.slots) ∧ Val w h v T'.heap L ∧ ∀ target, Steps p.tables e below (T'.setTop { g with pc := g.pc + 3, stack := v.toList ++ rest }) target → Steps p.tables e below (T.setTop g) target) :
    ∃ T', Stand p l e R s m args below meth c T' locs cells slots ∧ T'.heap = h ∧ ∀ target, Steps p.tables e below (T'.setTop { g with pc := g.pc + 3, stack := w.toList ++ rest }) target → Steps p.tables e below (T.setTop g) target := by
  obtain ⟨v, T', L, X', ⟨rfl, rfl, e'⟩, st⟩ := H
  rw [hc, hs, List.append_nil] at X'
  exact ⟨T', X', e', st⟩
theorem own_Llt {x y : Int64} (h : x < y) : XT.cmpL x y < 0 := (lw_lt x y).mpr h
theorem own_Lnlt {x y : Int64} (h : ¬ x < y) : ¬ XT.cmpL x y < 0 := fun q => h ((lw_lt x y).mp q)
theorem own_Lgt {x y : Int64} (h : y < x) : 0 < XT.cmpL x y := (lw_gt x y).mpr h
theorem own_Lngt {x y : Int64} (h : ¬ y < x) : ¬ 0 < XT.cmpL x y := fun q => h ((lw_gt x y).mp q)
theorem own_Leq {x y : Int64} (h : x = y) : XT.cmpL x y = 0 := (lw_eq x y).mpr h
theorem own_Lneq {x y : Int64} (h : ¬ x = y) : ¬ XT.cmpL x y = 0 := fun q => h ((lw_eq x y).mp q)
theorem own_aeq {a b : Addr} (h : a = b) : XT.acmp .eq (.ref a) (.ref b) = true ∧ XT.acmp .ne (.ref a) (.ref b) = false := by subst h; exact ⟨decide_eq_true rfl, decide_eq_false (fun q => q rfl)⟩
theorem own_ane {a b : Addr} (h : ¬ a = b) : XT.acmp .eq (.ref a) (.ref b) = false ∧ XT.acmp .ne (.ref a) (.ref b) = true := ⟨decide_eq_false (fun q => h (by cases q; rfl)), decide_eq_true (fun q => h (by cases q; rfl))⟩
theorem own_ext {h0 h : Heap} (K : Keep h0 h []) : Ext h0 h := ⟨K.1, fun x c q => K.2.1 x c q nin0⟩
end GoKit
/-! ArrKit: arrays by Arv, one law a step -/
section ArrKit
variable {p : Program} {l : Launch} {e : Env} {R : Room} {s : State} {m : MethodId} {args : Array Value} {below : List Frame} {meth : Method} {c : Code} {T T' : State} {locs : List Loc} {cells slots : Nat} {Z : State} {a0 : Array Value} {h : Heap} {g g' : JFrame} {a : Addr} {k : ClassId} {z j : Int32} {vs : List Value} {dv : Value} {rest : List Value} {ty : FieldType}
theorem own_stI (X : Stand p l e R s m args below meth c T locs cells slots) (hx : p.tables.exec = Jvm.exec) (hZ : Z.Warmed39 s.vm) (eT : T.heap = h) (Vv : Arv Z h a k .int z vs dv) {x : Int32} (hj0 : ¬ j < 0) (hj1 : j < z) (i : Nat) (hi : j.toNatClampNeg = i) (hl : i < vs.length) (hg : g.method = m) (hs : g.stack = .int x :: .int j :: .ref a :: rest) (hd : decode c.code g.pc = .ok (.iastore, 1)) :
    ∃ T' h', Stand p l e R s m args below meth c T' (locs ++ [⟨a, j.toNatClampNeg⟩]) cells slots ∧ T'.heap = h' ∧ Wr h h' a j.toNatClampNeg (.int x) ∧ Arv Z h' a k .int z (vs.set i (.int x)) dv ∧ ∀ target, Steps p.tables e below (T'.setTop { g with pc := g.pc + 1, stack := rest }) target → Steps p.tables e below (T.setTop g) target := by
  obtain ⟨c', A, q1, S, q3, H, G⟩ := Vv
  obtain ⟨T', h', X', e', W, st⟩ := stI X hx hZ eT A (inb_of S ⟨hj0, hj1⟩) hg hs hd
  exact ⟨T', h', X', e', W, Arv.set A q1 S q3 H G rfl W i hi hl, st⟩
theorem own_stC (X : Stand p l e R s m args below meth c T locs cells slots) (hx : p.tables.exec = Jvm.exec) (hZ : Z.Warmed39 s.vm) (eT : T.heap = h) (Vv : Arv Z h a k .char z vs dv) {x : Int32} (hj0 : ¬ j < 0) (hj1 : j < z) (i : Nat) (hi : j.toNatClampNeg = i) (hl : i < vs.length) (hg : g.method = m) (hs : g.stack = .int x :: .int j :: .ref a :: rest) (hd : decode c.code g.pc = .ok (.castore, 1)) :
    ∃ T' h', Stand p l e R s m args below meth c T' (locs ++ [⟨a, j.toNatClampNeg⟩]) cells slots ∧ T'.heap = h' ∧ Wr h h' a j.toNatClampNeg (.int (nar .char x)) ∧ Arv Z h' a k .char z (vs.set i (.int (nar .char x))) dv ∧ ∀ target, Steps p.tables e below (T'.setTop { g with pc := g.pc + 1, stack := rest }) target → Steps p.tables e below (T.setTop g) target := by
  obtain ⟨c', A, q1, S, q3, H, G⟩ := Vv
  obtain ⟨T', h', X', e', W, st⟩ := stC X hx hZ eT A (inb_of S ⟨hj0, hj1⟩) hg hs hd
  exact ⟨T', h', X', e', W, Arv.set A q1 S q3 H G (fits_nar_char x) W i hi hl, st⟩
theorem own_stR (X : Stand p l e R s m args below meth c T locs cells slots) (hx : p.tables.exec = Jvm.exec) (hZ : Z.Warmed39 s.vm) (eT : T.heap = h) {C K : String} (Vv : Arv Z h a k (.object C) z vs dv) (O : Ovr Z k K) {y : Addr} (I : Ins Z h y K true) (hj0 : ¬ j < 0) (hj1 : j < z) (i : Nat) (hi : j.toNatClampNeg = i) (hl : i < vs.length) (hg : g.method = m) (hs : g.stack = .ref y :: .int j :: .ref a :: rest) (hd : decode c.code g.pc = .ok (.aastore, 1)) :
    ∃ T' h', Stand p l e R s m args below meth c T' (locs ++ [⟨a, j.toNatClampNeg⟩]) cells slots ∧ T'.heap = h' ∧ Wr h h' a j.toNatClampNeg (.ref y) ∧ Arv Z h' a k (.object C) z (vs.set i (.ref y)) dv ∧ ∀ target, Steps p.tables e below (T'.setTop { g with pc := g.pc + 1, stack := rest }) target → Steps p.tables e below (T.setTop g) target := by
  obtain ⟨c', A, q1, S, q3, H, G⟩ := Vv
  obtain ⟨T', h', X', e', W, st⟩ := stR X hx hZ eT A (inb_of S ⟨hj0, hj1⟩) rfl (Sto.ofV A q1 O I) hg hs hd
  exact ⟨T', h', X', e', W, Arv.set A q1 S q3 H G rfl W i hi hl, st⟩
theorem own_ldI (X : Stand p l e R s m args below meth c T locs cells slots) (hx : p.tables.exec = Jvm.exec) (hZ : Z.Warmed39 s.vm) (eT : T.heap = h) (Vv : Arv Z h a k .int z vs dv) {w : Int32} (hj0 : ¬ j < 0) (hj1 : j < z) (hv : vs.getD j.toNatClampNeg dv = .int w) (hg : g.method = m) (hs : g.stack = .int j :: .ref a :: rest) (hd : decode c.code g.pc = .ok (.iaload, 1)) :
    ∀ target, Steps p.tables e below (T.setTop { g with pc := g.pc + 1, stack := .int w :: rest }) target → Steps p.tables e below (T.setTop g) target := by
  obtain ⟨c', A, q1, S, q3, H, G⟩ := Vv
  have q := inb_of S ⟨hj0, hj1⟩
  exact fun t k => X.iaload hx (by rw [eT]; exact A.1) (State.isArrayOf_alike hZ.alike A.2.1) A.2.2 q (Has.at H q hv) hg hs hd t k
theorem own_ldC (X : Stand p l e R s m args below meth c T locs cells slots) (hx : p.tables.exec = Jvm.exec) (hZ : Z.Warmed39 s.vm) (eT : T.heap = h) (Vv : Arv Z h a k .char z vs dv) {w : Int32} (hj0 : ¬ j < 0) (hj1 : j < z) (hv : vs.getD j.toNatClampNeg dv = .int w) (hg : g.method = m) (hs : g.stack = .int j :: .ref a :: rest) (hd : decode c.code g.pc = .ok (.caload, 1)) :
    ∀ target, Steps p.tables e below (T.setTop { g with pc := g.pc + 1, stack := .int w :: rest }) target → Steps p.tables e below (T.setTop g) target := by
  obtain ⟨c', A, q1, S, q3, H, G⟩ := Vv
  have q := inb_of S ⟨hj0, hj1⟩
  exact fun t k => X.caload hx (by rw [eT]; exact A.1) (State.isArrayOf_alike hZ.alike A.2.1) A.2.2 q (Has.at H q hv) hg hs hd t k
theorem own_ldB (X : Stand p l e R s m args below meth c T locs cells slots) (hx : p.tables.exec = Jvm.exec) (hZ : Z.Warmed39 s.vm) (eT : T.heap = h) (Vv : Arv Z h a k .byte z vs dv) {w : Int32} (hj0 : ¬ j < 0) (hj1 : j < z) (hv : vs.getD j.toNatClampNeg dv = .int w) (hg : g.method = m) (hs : g.stack = .int j :: .ref a :: rest) (hd : decode c.code g.pc = .ok (.baload, 1)) :
    ∀ target, Steps p.tables e below (T.setTop { g with pc := g.pc + 1, stack := .int w :: rest }) target → Steps p.tables e below (T.setTop g) target := by
  obtain ⟨c', A, q1, S, q3, H, G⟩ := Vv
  have q := inb_of S ⟨hj0, hj1⟩
  exact fun t k => X.baloadBytes hx (by rw [eT]; exact A.1) (State.isArrayOf_alike hZ.alike A.2.1) A.2.2 q (Has.at H q hv) hg hs hd t k
theorem own_ldR (X : Stand p l e R s m args below meth c T locs cells slots) (hx : p.tables.exec = Jvm.exec) (hZ : Z.Warmed39 s.vm) (eT : T.heap = h) (Vv : Arv Z h a k ty z vs dv) (hty : ty.isReference = true) {w : Value} (hj0 : ¬ j < 0) (hj1 : j < z) (hv : vs.getD j.toNatClampNeg dv = w) (hg : g.method = m) (hs : g.stack = .int j :: .ref a :: rest) (hd : decode c.code g.pc = .ok (.aaload, 1)) :
    ∀ target, Steps p.tables e below (T.setTop { g with pc := g.pc + 1, stack := w :: rest }) target → Steps p.tables e below (T.setTop g) target := by
  obtain ⟨c', A, q1, S, q3, H, G⟩ := Vv
  have q := inb_of S ⟨hj0, hj1⟩
  exact fun t k => X.aaload hx (by rw [eT]; exact A.1) (State.isArrayOf_alike hZ.alike A.2.1) hty A.2.2 q (Has.at H q hv) hg hs hd t k
theorem own_len (X : Stand p l e R s m args below meth c T locs cells slots) (hx : p.tables.exec = Jvm.exec) (hZ : Z.Warmed39 s.vm) (eT : T.heap = h) (Vv : Arv Z h a k ty z vs dv) (hg : g.method = m) (hs : g.stack = .ref a :: rest) (hd : decode c.code g.pc = .ok (.arraylength, 1)) :
    ∀ target, Steps p.tables e below (T.setTop { g with pc := g.pc + 1, stack := .int z :: rest }) target → Steps p.tables e below (T.setTop g) target := by
  obtain ⟨c', A, q1, S, q3, H, G⟩ := Vv
  exact fun t k => X.arraylength hx (by rw [eT]; exact A.1) (State.isArrayOf_alike hZ.alike A.2.1) hg hs hd t (by rw [len_of S q3]; exact k)
end ArrKit
theorem own_sta {Z : State} {args : Array Value} {C f d K : String} (h : (Jvm.Cond.exactly (.static C f d) K).value args Z none Z [] = some true) (wi : (Jvm.Cond.initialized C).before args Z = true) (wl : (Jvm.Cond.laysStatic C f d).before args Z = true) :
    ∃ x, (Term.static C f d).eval args Z none [] Z = some (.ref x) ∧ Sta Z Z.heap C f d (.ref x) ∧ Exa Z Z.heap x K := by
  obtain ⟨x, ev⟩ := exa_v h
  exact ⟨x, ev, Sta.start ev (Or.inr ⟨wi, wl⟩), Exa.start ev h⟩
theorem own_fldI {Z : State} {args : Array Value} {t : Term} {O n d : String} {k : Int32} {x : Addr} (ev : t.eval args Z none [] Z = some (.ref x)) (h : (Jvm.Cond.eq (.field t O n d) (.int k)).value args Z none Z [] = some true) : Fld Z Z.heap x O n d (.int k) := by
  obtain ⟨u, v, e1, e2, k1, -⟩ := cmp_v (Or.inl h)
  have e3 : v = .int k := by simpa [Term.eval] using e2.symm
  subst e3
  obtain ⟨z, rfl⟩ : ∃ z, u = .int z := by cases u <;> simp [Kin, Value.isRef] at k1 ⊢
  have q : z = k := gotT (Cond.eq_ints e1 e2) h
  subst q
  exact Fld.start ((fld_at ev).symm.trans e1)
def own_xml (p : Int32) : Int32 := if p = 9 ∨ p = 10 ∨ p = 13 ∨ (¬ p < 32 ∧ ¬ 55295 < p) ∨ (¬ p < 57344 ∧ ¬ 65533 < p) ∨ (¬ p < 65536 ∧ ¬ 1114111 < p) then 1 else 0
def own_forb (p : Int32) : Int32 := if p < 0 then 1 else if 1114111 < p then 1 else if p < 32 then (if p = 9 then 0 else if p = 10 then 0 else if p = 13 then 0 else 1) else if ¬ p < 55296 ∧ ¬ 57343 < p then 1 else if p = 65534 then 1 else if p = 65535 then 1 else 0
theorem own_x (z : Int32) : (own_forb z = 0 ∧ own_xml z = 1) ∨ (own_forb z = 1 ∧ own_xml z = 0) := by
  simp only [own_xml, own_forb, Int32.lt_iff_toInt_lt, ← Int32.toInt_inj, Int32.reduceToInt]
  (repeat' split) <;> first | exact Or.inl ⟨rfl, rfl⟩ | exact Or.inr ⟨rfl, rfl⟩ | (exfalso; omega)
theorem own_x1 {z : Int32} (h : own_forb z = 0) : own_xml z = 1 := (own_x z).elim (fun q => q.2) (fun q => by rw [q.1] at h; exact absurd h (by decide))
theorem own_x0 {z : Int32} (h : ¬ own_forb z = 0) : own_xml z = 0 := (own_x z).elim (fun q => absurd q.1 h) (fun q => q.2)
theorem own_ushr3 (x : Int32) : 0 ≤ (XT.ushr x (3 : Int32)).toInt := by
  show 0 ≤ ((x.toUInt32 >>> 3).toInt32).toInt
  have h : (x.toUInt32 >>> 3).toNat < 2 ^ 31 := by
    rw [UInt32.toNat_shiftRight]
    have := x.toUInt32.toNat_lt
    simp only [UInt32.reduceToNat, Nat.reduceMod, Nat.shiftRight_eq_div_pow]
    omega
  show 0 ≤ (x.toUInt32 >>> 3).toBitVec.toInt
  have e : (x.toUInt32 >>> 3).toBitVec.toNat = (x.toUInt32 >>> 3).toNat := rfl
  rw [BitVec.toInt_eq_toNat_cond, e, if_pos (by omega)]
  omega
theorem own_mod8 (x : Int32) : 0 ≤ (XT.ushr x (3 : Int32) % (8 : Int32)).toInt ∧ (XT.ushr x (3 : Int32) % (8 : Int32)).toInt < 8 := by
  have h := own_ushr3 x
  rw [Int32.toInt_mod]
  generalize (XT.ushr x (3 : Int32)).toInt = u at *
  have q : (8 : Int32).toInt = 8 := by decide
  rw [q, Int.tmod_eq_emod_of_nonneg h]
  omega
theorem own_i0 {q : Int32} (h : 0 ≤ q.toInt) : ¬ q < 0 := by rw [Int32.lt_iff_toInt_lt]; show ¬ q.toInt < 0; omega
theorem own_i8 {q : Int32} (h : q.toInt < 8) : q < 8 := by rw [Int32.lt_iff_toInt_lt]; exact h
theorem own_getI {d : Int32} (i : Nat) : ∀ vs : List Value, (∀ v ∈ vs, ∃ w : Int32, v = .int w) → ∃ w : Int32, vs.getD i (.int d) = .int w := by
  intro vs h
  rw [List.getD_eq_getElem?_getD]
  cases q : vs[i]? with
  | none => exact ⟨d, rfl⟩
  | some v => obtain ⟨w, rfl⟩ := h v (List.mem_of_getElem? q); exact ⟨w, rfl⟩
theorem d_prog_49_method_23_code_0 : decode prog_49_method_23_code 0 = .ok (.iload_n 0, 1) := by decide +kernel
theorem d_prog_49_method_23_code_1 : decode prog_49_method_23_code 1 = .ok (.bipush 9, 2) := by decide +kernel
theorem d_prog_49_method_23_code_3 : decode prog_49_method_23_code 3 = .ok (.if_icmp .eq 56, 3) := by decide +kernel
theorem d_prog_49_method_23_code_59 : decode prog_49_method_23_code 59 = .ok (.iconst 1, 1) := by decide +kernel
theorem d_prog_49_method_23_code_60 : decode prog_49_method_23_code 60 = .ok (.goto 4, 3) := by decide +kernel
theorem d_prog_49_method_23_code_64 : decode prog_49_method_23_code 64 = .ok (.ireturn, 1) := by decide +kernel
theorem d_prog_49_method_23_code_6 : decode prog_49_method_23_code 6 = .ok (.iload_n 0, 1) := by decide +kernel
theorem d_prog_49_method_23_code_7 : decode prog_49_method_23_code 7 = .ok (.bipush 10, 2) := by decide +kernel
theorem d_prog_49_method_23_code_9 : decode prog_49_method_23_code 9 = .ok (.if_icmp .eq 50, 3) := by decide +kernel
theorem d_prog_49_method_23_code_12 : decode prog_49_method_23_code 12 = .ok (.iload_n 0, 1) := by decide +kernel
theorem d_prog_49_method_23_code_13 : decode prog_49_method_23_code 13 = .ok (.bipush 13, 2) := by decide +kernel
theorem d_prog_49_method_23_code_15 : decode prog_49_method_23_code 15 = .ok (.if_icmp .eq 44, 3) := by decide +kernel
theorem d_prog_49_method_23_code_18 : decode prog_49_method_23_code 18 = .ok (.iload_n 0, 1) := by decide +kernel
theorem d_prog_49_method_23_code_19 : decode prog_49_method_23_code 19 = .ok (.bipush 32, 2) := by decide +kernel
theorem d_prog_49_method_23_code_21 : decode prog_49_method_23_code 21 = .ok (.if_icmp .lt 10, 3) := by decide +kernel
theorem d_prog_49_method_23_code_31 : decode prog_49_method_23_code 31 = .ok (.iload_n 0, 1) := by decide +kernel
theorem d_prog_49_method_23_code_32 : decode prog_49_method_23_code 32 = .ok (.ldc_w 376, 3) := by decide +kernel
theorem d_prog_49_method_23_code_35 : decode prog_49_method_23_code 35 = .ok (.if_icmp .lt 10, 3) := by decide +kernel
theorem d_prog_49_method_23_code_45 : decode prog_49_method_23_code 45 = .ok (.iload_n 0, 1) := by decide +kernel
theorem d_prog_49_method_23_code_46 : decode prog_49_method_23_code 46 = .ok (.ldc_w 378, 3) := by decide +kernel
theorem d_prog_49_method_23_code_49 : decode prog_49_method_23_code 49 = .ok (.if_icmp .lt 14, 3) := by decide +kernel
theorem d_prog_49_method_23_code_63 : decode prog_49_method_23_code 63 = .ok (.iconst 0, 1) := by decide +kernel
theorem d_prog_49_method_23_code_52 : decode prog_49_method_23_code 52 = .ok (.iload_n 0, 1) := by decide +kernel
theorem d_prog_49_method_23_code_53 : decode prog_49_method_23_code 53 = .ok (.ldc_w 379, 3) := by decide +kernel
theorem d_prog_49_method_23_code_56 : decode prog_49_method_23_code 56 = .ok (.if_icmp .gt 7, 3) := by decide +kernel
theorem d_prog_49_method_23_code_38 : decode prog_49_method_23_code 38 = .ok (.iload_n 0, 1) := by decide +kernel
theorem d_prog_49_method_23_code_39 : decode prog_49_method_23_code 39 = .ok (.ldc_w 377, 3) := by decide +kernel
theorem d_prog_49_method_23_code_42 : decode prog_49_method_23_code 42 = .ok (.if_icmp .le 17, 3) := by decide +kernel
theorem d_prog_49_method_23_code_24 : decode prog_49_method_23_code 24 = .ok (.iload_n 0, 1) := by decide +kernel
theorem d_prog_49_method_23_code_25 : decode prog_49_method_23_code 25 = .ok (.ldc_w 375, 3) := by decide +kernel
theorem d_prog_49_method_23_code_28 : decode prog_49_method_23_code 28 = .ok (.if_icmp .le 31, 3) := by decide +kernel
theorem pn_com_example_tenon_tenon_core_LexicalForms : plainName "com/example/tenon/tenon/core/LexicalForms" = true := by first | (simp [plainName, overriddenIn]; done) | decide +kernel
theorem d_method_2_code_0 : decode method_2_code 0 = .ok (.iload_n 0, 1) := by decide +kernel
theorem d_method_2_code_1 : decode method_2_code 1 = .ok (.ifCond .lt 9, 3) := by decide +kernel
theorem d_method_2_code_10 : decode method_2_code 10 = .ok (.iconst 1, 1) := by decide +kernel
theorem d_method_2_code_11 : decode method_2_code 11 = .ok (.ireturn, 1) := by decide +kernel
theorem d_method_2_code_4 : decode method_2_code 4 = .ok (.iload_n 0, 1) := by decide +kernel
theorem d_method_2_code_5 : decode method_2_code 5 = .ok (.ldc 7, 2) := by decide +kernel
theorem d_method_2_code_7 : decode method_2_code 7 = .ok (.if_icmp .le 5, 3) := by decide +kernel
theorem d_method_2_code_12 : decode method_2_code 12 = .ok (.iload_n 0, 1) := by decide +kernel
theorem d_method_2_code_13 : decode method_2_code 13 = .ok (.bipush 32, 2) := by decide +kernel
theorem d_method_2_code_15 : decode method_2_code 15 = .ok (.if_icmp .ge 27, 3) := by decide +kernel
theorem d_method_2_code_18 : decode method_2_code 18 = .ok (.iload_n 0, 1) := by decide +kernel
theorem d_method_2_code_19 : decode method_2_code 19 = .ok (.bipush 9, 2) := by decide +kernel
theorem d_method_2_code_21 : decode method_2_code 21 = .ok (.if_icmp .eq 19, 3) := by decide +kernel
theorem d_method_2_code_40 : decode method_2_code 40 = .ok (.iconst 0, 1) := by decide +kernel
theorem d_method_2_code_41 : decode method_2_code 41 = .ok (.ireturn, 1) := by decide +kernel
theorem d_method_2_code_24 : decode method_2_code 24 = .ok (.iload_n 0, 1) := by decide +kernel
theorem d_method_2_code_25 : decode method_2_code 25 = .ok (.bipush 10, 2) := by decide +kernel
theorem d_method_2_code_27 : decode method_2_code 27 = .ok (.if_icmp .eq 13, 3) := by decide +kernel
theorem d_method_2_code_30 : decode method_2_code 30 = .ok (.iload_n 0, 1) := by decide +kernel
theorem d_method_2_code_31 : decode method_2_code 31 = .ok (.bipush 13, 2) := by decide +kernel
theorem d_method_2_code_33 : decode method_2_code 33 = .ok (.if_icmp .eq 7, 3) := by decide +kernel
theorem d_method_2_code_36 : decode method_2_code 36 = .ok (.iconst 1, 1) := by decide +kernel
theorem d_method_2_code_37 : decode method_2_code 37 = .ok (.goto 4, 3) := by decide +kernel
theorem d_method_2_code_42 : decode method_2_code 42 = .ok (.iload_n 0, 1) := by decide +kernel
theorem d_method_2_code_43 : decode method_2_code 43 = .ok (.ldc 8, 2) := by decide +kernel
theorem d_method_2_code_45 : decode method_2_code 45 = .ok (.if_icmp .lt 11, 3) := by decide +kernel
theorem d_method_2_code_56 : decode method_2_code 56 = .ok (.iload_n 0, 1) := by decide +kernel
theorem d_method_2_code_57 : decode method_2_code 57 = .ok (.ldc 10, 2) := by decide +kernel
theorem d_method_2_code_59 : decode method_2_code 59 = .ok (.if_icmp .eq 9, 3) := by decide +kernel
theorem d_method_2_code_68 : decode method_2_code 68 = .ok (.iconst 1, 1) := by decide +kernel
theorem d_method_2_code_69 : decode method_2_code 69 = .ok (.goto 4, 3) := by decide +kernel
theorem d_method_2_code_73 : decode method_2_code 73 = .ok (.ireturn, 1) := by decide +kernel
theorem d_method_2_code_62 : decode method_2_code 62 = .ok (.iload_n 0, 1) := by decide +kernel
theorem d_method_2_code_63 : decode method_2_code 63 = .ok (.ldc 11, 2) := by decide +kernel
theorem d_method_2_code_65 : decode method_2_code 65 = .ok (.if_icmp .ne 7, 3) := by decide +kernel
theorem d_method_2_code_72 : decode method_2_code 72 = .ok (.iconst 0, 1) := by decide +kernel
theorem d_method_2_code_48 : decode method_2_code 48 = .ok (.iload_n 0, 1) := by decide +kernel
theorem d_method_2_code_49 : decode method_2_code 49 = .ok (.ldc 9, 2) := by decide +kernel
theorem d_method_2_code_51 : decode method_2_code 51 = .ok (.if_icmp .gt 5, 3) := by decide +kernel
theorem d_method_2_code_54 : decode method_2_code 54 = .ok (.iconst 1, 1) := by decide +kernel
theorem d_method_2_code_55 : decode method_2_code 55 = .ok (.ireturn, 1) := by decide +kernel
theorem pn_com_example_tenon_tenon_core_LexicalFormsIsXmlCharacterPinLaw : plainName "com/example/tenon/tenon/core/LexicalFormsIsXmlCharacterPinLaw" = true := by first | (simp [plainName, overriddenIn]; done) | decide +kernel
theorem pd_28I29Z : parseMethodDescriptor "(I)Z" = some ⟨[.int], some .boolean⟩ := by decide +kernel
theorem ef_rmXml (x0 : Int32) (m : MethodId) : entryFrame m #[(.int x0)] 1 = mkF m 0 #[.val (.int x0)] [] := by first | (simp [entryFrame, mkF, argsToLocals, Value.category]; done) | rfl
set_option maxRecDepth 65536 in
set_option maxHeartbeats 40000000 in
theorem rmXml (l : Launch) (Z : State) (a0 : Array Value) (hw : ∀ d ∈ tables_1, d.before a0 Z = true) (p1 : Int32) (h0 : Heap) :
    Does l Z (⟨"com/example/tenon/tenon/core/LexicalForms", "isXmlCharacter", "(I)Z"⟩ : MethodName) prog_49_method_23_code 1 (some .boolean) [] ({ frames := 0, cells := 0, slots := 0, locals := 0 } : Room) #[(.int p1)] h0 (Val (some (.int (own_xml p1))) h0) := by
  refine Does.intro pn_com_example_tenon_tenon_core_LexicalForms (ef_rmXml p1) ?_
  intro p e s m below meth c s₁ hx hby hml hown hnm hret hlk hZ e0 X0
  show Go p e below _ s₁ (mkF m 0 #[.val (.int p1)] [])
  refine Go.st (fun _ h => XS.iloadN X0.here hx rfl (hb hby d_prog_49_method_23_code_0) rfl h) ?_
  show Go p e below _ s₁ (mkF m 1 #[.val (.int p1)] [(.int p1)])
  refine Go.st (fun _ h => XT.bipushV X0.here hx rfl (9 : Int32) (hb hby d_prog_49_method_23_code_1) (by decide) h) ?_
  show Go p e below _ s₁ (mkF m 3 #[.val (.int p1)] [(.int (9 : Int32)), (.int p1)])
  by_cases hc1 : p1 = (9 : Int32)
  · refine Go.st (fun _ h => XS.icmpYes X0.here hx rfl (pc0 := 3) (pc' := 59) rfl (hb hby d_prog_49_method_23_code_3) rfl ((teq hc1).1) (by decide) (by decide) h) ?_
    show Go p e below _ s₁ (mkF m 59 #[.val (.int p1)] [])
    refine Go.st (fun _ h => XT.iconstV X0.here hx rfl (1 : Int32) (hb hby d_prog_49_method_23_code_59) (by decide) h) ?_
    show Go p e below _ s₁ (mkF m 60 #[.val (.int p1)] [(.int (1 : Int32))])
    refine Go.st (fun _ h => XS.goto X0.here hx rfl (pc0 := 60) (pc' := 64) rfl (hb hby d_prog_49_method_23_code_60) (by decide) (by decide) h) ?_
    show Go p e below _ s₁ (mkF m 64 #[.val (.int p1)] [(.int (1 : Int32))])
    refine Go.retZ X0 hx hlk hret rfl (hb hby d_prog_49_method_23_code_64) (by decide) (by decide) ?_
    exact ⟨by simp [own_xml, hc1], rfl, e0⟩
  · refine Go.st (fun _ h => XS.icmpNo X0.here hx rfl (hb hby d_prog_49_method_23_code_3) rfl ((feq hc1).1) h) ?_
    show Go p e below _ s₁ (mkF m 6 #[.val (.int p1)] [])
    refine Go.st (fun _ h => XS.iloadN X0.here hx rfl (hb hby d_prog_49_method_23_code_6) rfl h) ?_
    show Go p e below _ s₁ (mkF m 7 #[.val (.int p1)] [(.int p1)])
    refine Go.st (fun _ h => XT.bipushV X0.here hx rfl (10 : Int32) (hb hby d_prog_49_method_23_code_7) (by decide) h) ?_
    show Go p e below _ s₁ (mkF m 9 #[.val (.int p1)] [(.int (10 : Int32)), (.int p1)])
    by_cases hc2 : p1 = (10 : Int32)
    · refine Go.st (fun _ h => XS.icmpYes X0.here hx rfl (pc0 := 9) (pc' := 59) rfl (hb hby d_prog_49_method_23_code_9) rfl ((teq hc2).1) (by decide) (by decide) h) ?_
      show Go p e below _ s₁ (mkF m 59 #[.val (.int p1)] [])
      refine Go.st (fun _ h => XT.iconstV X0.here hx rfl (1 : Int32) (hb hby d_prog_49_method_23_code_59) (by decide) h) ?_
      show Go p e below _ s₁ (mkF m 60 #[.val (.int p1)] [(.int (1 : Int32))])
      refine Go.st (fun _ h => XS.goto X0.here hx rfl (pc0 := 60) (pc' := 64) rfl (hb hby d_prog_49_method_23_code_60) (by decide) (by decide) h) ?_
      show Go p e below _ s₁ (mkF m 64 #[.val (.int p1)] [(.int (1 : Int32))])
      refine Go.retZ X0 hx hlk hret rfl (hb hby d_prog_49_method_23_code_64) (by decide) (by decide) ?_
      exact ⟨by simp [own_xml, hc1, hc2], rfl, e0⟩
    · refine Go.st (fun _ h => XS.icmpNo X0.here hx rfl (hb hby d_prog_49_method_23_code_9) rfl ((feq hc2).1) h) ?_
      show Go p e below _ s₁ (mkF m 12 #[.val (.int p1)] [])
      refine Go.st (fun _ h => XS.iloadN X0.here hx rfl (hb hby d_prog_49_method_23_code_12) rfl h) ?_
      show Go p e below _ s₁ (mkF m 13 #[.val (.int p1)] [(.int p1)])
      refine Go.st (fun _ h => XT.bipushV X0.here hx rfl (13 : Int32) (hb hby d_prog_49_method_23_code_13) (by decide) h) ?_
      show Go p e below _ s₁ (mkF m 15 #[.val (.int p1)] [(.int (13 : Int32)), (.int p1)])
      by_cases hc3 : p1 = (13 : Int32)
      · refine Go.st (fun _ h => XS.icmpYes X0.here hx rfl (pc0 := 15) (pc' := 59) rfl (hb hby d_prog_49_method_23_code_15) rfl ((teq hc3).1) (by decide) (by decide) h) ?_
        show Go p e below _ s₁ (mkF m 59 #[.val (.int p1)] [])
        refine Go.st (fun _ h => XT.iconstV X0.here hx rfl (1 : Int32) (hb hby d_prog_49_method_23_code_59) (by decide) h) ?_
        show Go p e below _ s₁ (mkF m 60 #[.val (.int p1)] [(.int (1 : Int32))])
        refine Go.st (fun _ h => XS.goto X0.here hx rfl (pc0 := 60) (pc' := 64) rfl (hb hby d_prog_49_method_23_code_60) (by decide) (by decide) h) ?_
        show Go p e below _ s₁ (mkF m 64 #[.val (.int p1)] [(.int (1 : Int32))])
        refine Go.retZ X0 hx hlk hret rfl (hb hby d_prog_49_method_23_code_64) (by decide) (by decide) ?_
        exact ⟨by simp [own_xml, hc1, hc2, hc3], rfl, e0⟩
      · refine Go.st (fun _ h => XS.icmpNo X0.here hx rfl (hb hby d_prog_49_method_23_code_15) rfl ((feq hc3).1) h) ?_
        show Go p e below _ s₁ (mkF m 18 #[.val (.int p1)] [])
        refine Go.st (fun _ h => XS.iloadN X0.here hx rfl (hb hby d_prog_49_method_23_code_18) rfl h) ?_
        show Go p e below _ s₁ (mkF m 19 #[.val (.int p1)] [(.int p1)])
        refine Go.st (fun _ h => XT.bipushV X0.here hx rfl (32 : Int32) (hb hby d_prog_49_method_23_code_19) (by decide) h) ?_
        show Go p e below _ s₁ (mkF m 21 #[.val (.int p1)] [(.int (32 : Int32)), (.int p1)])
        by_cases hc4 : p1 < (32 : Int32)
        · refine Go.st (fun _ h => XS.icmpYes X0.here hx rfl (pc0 := 21) (pc' := 31) rfl (hb hby d_prog_49_method_23_code_21) rfl ((tlt hc4).1) (by decide) (by decide) h) ?_
          show Go p e below _ s₁ (mkF m 31 #[.val (.int p1)] [])
          refine Go.st (fun _ h => XS.iloadN X0.here hx rfl (hb hby d_prog_49_method_23_code_31) rfl h) ?_
          show Go p e below _ s₁ (mkF m 32 #[.val (.int p1)] [(.int p1)])
          refine Go.st (fun _ h => X0.ldcWI hx hown (mvT hZ (hw _ (List.mem_of_getElem? (i := 10) rfl))) rfl (hb hby d_prog_49_method_23_code_32) h) ?_
          show Go p e below _ s₁ (mkF m 35 #[.val (.int p1)] [(.int (57344 : Int32)), (.int p1)])
          by_cases hc5 : p1 < (57344 : Int32)
          · refine Go.st (fun _ h => XS.icmpYes X0.here hx rfl (pc0 := 35) (pc' := 45) rfl (hb hby d_prog_49_method_23_code_35) rfl ((tlt hc5).1) (by decide) (by decide) h) ?_
            show Go p e below _ s₁ (mkF m 45 #[.val (.int p1)] [])
            refine Go.st (fun _ h => XS.iloadN X0.here hx rfl (hb hby d_prog_49_method_23_code_45) rfl h) ?_
            show Go p e below _ s₁ (mkF m 46 #[.val (.int p1)] [(.int p1)])
            refine Go.st (fun _ h => X0.ldcWI hx hown (mvT hZ (hw _ (List.mem_of_getElem? (i := 11) rfl))) rfl (hb hby d_prog_49_method_23_code_46) h) ?_
            show Go p e below _ s₁ (mkF m 49 #[.val (.int p1)] [(.int (65536 : Int32)), (.int p1)])
            by_cases hc6 : p1 < (65536 : Int32)
            · refine Go.st (fun _ h => XS.icmpYes X0.here hx rfl (pc0 := 49) (pc' := 63) rfl (hb hby d_prog_49_method_23_code_49) rfl ((tlt hc6).1) (by decide) (by decide) h) ?_
              show Go p e below _ s₁ (mkF m 63 #[.val (.int p1)] [])
              refine Go.st (fun _ h => XT.iconstV X0.here hx rfl (0 : Int32) (hb hby d_prog_49_method_23_code_63) (by decide) h) ?_
              show Go p e below _ s₁ (mkF m 64 #[.val (.int p1)] [(.int (0 : Int32))])
              refine Go.retZ X0 hx hlk hret rfl (hb hby d_prog_49_method_23_code_64) (by decide) (by decide) ?_
              exact ⟨by simp [own_xml, hc1, hc2, hc3, hc4, hc5, hc6], rfl, e0⟩
            · refine Go.st (fun _ h => XS.icmpNo X0.here hx rfl (hb hby d_prog_49_method_23_code_49) rfl ((flt hc6).1) h) ?_
              show Go p e below _ s₁ (mkF m 52 #[.val (.int p1)] [])
              refine Go.st (fun _ h => XS.iloadN X0.here hx rfl (hb hby d_prog_49_method_23_code_52) rfl h) ?_
              show Go p e below _ s₁ (mkF m 53 #[.val (.int p1)] [(.int p1)])
              refine Go.st (fun _ h => X0.ldcWI hx hown (mvT hZ (hw _ (List.mem_of_getElem? (i := 22) rfl))) rfl (hb hby d_prog_49_method_23_code_53) h) ?_
              show Go p e below _ s₁ (mkF m 56 #[.val (.int p1)] [(.int (1114111 : Int32)), (.int p1)])
              by_cases hc7 : (1114111 : Int32) < p1
              · refine Go.st (fun _ h => XS.icmpYes X0.here hx rfl (pc0 := 56) (pc' := 63) rfl (hb hby d_prog_49_method_23_code_56) rfl ((tlt hc7).2.2.1) (by decide) (by decide) h) ?_
                show Go p e below _ s₁ (mkF m 63 #[.val (.int p1)] [])
                refine Go.st (fun _ h => XT.iconstV X0.here hx rfl (0 : Int32) (hb hby d_prog_49_method_23_code_63) (by decide) h) ?_
                show Go p e below _ s₁ (mkF m 64 #[.val (.int p1)] [(.int (0 : Int32))])
                refine Go.retZ X0 hx hlk hret rfl (hb hby d_prog_49_method_23_code_64) (by decide) (by decide) ?_
                exact ⟨by simp [own_xml, hc1, hc2, hc3, hc4, hc5, hc6, hc7], rfl, e0⟩
              · refine Go.st (fun _ h => XS.icmpNo X0.here hx rfl (hb hby d_prog_49_method_23_code_56) rfl ((flt hc7).2.2.1) h) ?_
                show Go p e below _ s₁ (mkF m 59 #[.val (.int p1)] [])
                refine Go.st (fun _ h => XT.iconstV X0.here hx rfl (1 : Int32) (hb hby d_prog_49_method_23_code_59) (by decide) h) ?_
                show Go p e below _ s₁ (mkF m 60 #[.val (.int p1)] [(.int (1 : Int32))])
                refine Go.st (fun _ h => XS.goto X0.here hx rfl (pc0 := 60) (pc' := 64) rfl (hb hby d_prog_49_method_23_code_60) (by decide) (by decide) h) ?_
                show Go p e below _ s₁ (mkF m 64 #[.val (.int p1)] [(.int (1 : Int32))])
                refine Go.retZ X0 hx hlk hret rfl (hb hby d_prog_49_method_23_code_64) (by decide) (by decide) ?_
                exact ⟨by simp [own_xml, hc1, hc2, hc3, hc4, hc5, hc6, hc7], rfl, e0⟩
          · refine Go.st (fun _ h => XS.icmpNo X0.here hx rfl (hb hby d_prog_49_method_23_code_35) rfl ((flt hc5).1) h) ?_
            show Go p e below _ s₁ (mkF m 38 #[.val (.int p1)] [])
            refine Go.st (fun _ h => XS.iloadN X0.here hx rfl (hb hby d_prog_49_method_23_code_38) rfl h) ?_
            show Go p e below _ s₁ (mkF m 39 #[.val (.int p1)] [(.int p1)])
            refine Go.st (fun _ h => X0.ldcWI hx hown (mvT hZ (hw _ (List.mem_of_getElem? (i := 21) rfl))) rfl (hb hby d_prog_49_method_23_code_39) h) ?_
            show Go p e below _ s₁ (mkF m 42 #[.val (.int p1)] [(.int (65533 : Int32)), (.int p1)])
            by_cases hc8 : (65533 : Int32) < p1
            · refine Go.st (fun _ h => XS.icmpNo X0.here hx rfl (hb hby d_prog_49_method_23_code_42) rfl ((tlt hc8).2.2.2) h) ?_
              show Go p e below _ s₁ (mkF m 45 #[.val (.int p1)] [])
              refine Go.st (fun _ h => XS.iloadN X0.here hx rfl (hb hby d_prog_49_method_23_code_45) rfl h) ?_
              show Go p e below _ s₁ (mkF m 46 #[.val (.int p1)] [(.int p1)])
              refine Go.st (fun _ h => X0.ldcWI hx hown (mvT hZ (hw _ (List.mem_of_getElem? (i := 11) rfl))) rfl (hb hby d_prog_49_method_23_code_46) h) ?_
              show Go p e below _ s₁ (mkF m 49 #[.val (.int p1)] [(.int (65536 : Int32)), (.int p1)])
              by_cases hc9 : p1 < (65536 : Int32)
              · refine Go.st (fun _ h => XS.icmpYes X0.here hx rfl (pc0 := 49) (pc' := 63) rfl (hb hby d_prog_49_method_23_code_49) rfl ((tlt hc9).1) (by decide) (by decide) h) ?_
                show Go p e below _ s₁ (mkF m 63 #[.val (.int p1)] [])
                refine Go.st (fun _ h => XT.iconstV X0.here hx rfl (0 : Int32) (hb hby d_prog_49_method_23_code_63) (by decide) h) ?_
                show Go p e below _ s₁ (mkF m 64 #[.val (.int p1)] [(.int (0 : Int32))])
                refine Go.retZ X0 hx hlk hret rfl (hb hby d_prog_49_method_23_code_64) (by decide) (by decide) ?_
                exact ⟨by simp [own_xml, hc1, hc2, hc3, hc4, hc5, hc8, hc9], rfl, e0⟩
              · refine Go.st (fun _ h => XS.icmpNo X0.here hx rfl (hb hby d_prog_49_method_23_code_49) rfl ((flt hc9).1) h) ?_
                show Go p e below _ s₁ (mkF m 52 #[.val (.int p1)] [])
                refine Go.st (fun _ h => XS.iloadN X0.here hx rfl (hb hby d_prog_49_method_23_code_52) rfl h) ?_
                show Go p e below _ s₁ (mkF m 53 #[.val (.int p1)] [(.int p1)])
                refine Go.st (fun _ h => X0.ldcWI hx hown (mvT hZ (hw _ (List.mem_of_getElem? (i := 22) rfl))) rfl (hb hby d_prog_49_method_23_code_53) h) ?_
                show Go p e below _ s₁ (mkF m 56 #[.val (.int p1)] [(.int (1114111 : Int32)), (.int p1)])
                by_cases hc10 : (1114111 : Int32) < p1
                · refine Go.st (fun _ h => XS.icmpYes X0.here hx rfl (pc0 := 56) (pc' := 63) rfl (hb hby d_prog_49_method_23_code_56) rfl ((tlt hc10).2.2.1) (by decide) (by decide) h) ?_
                  show Go p e below _ s₁ (mkF m 63 #[.val (.int p1)] [])
                  refine Go.st (fun _ h => XT.iconstV X0.here hx rfl (0 : Int32) (hb hby d_prog_49_method_23_code_63) (by decide) h) ?_
                  show Go p e below _ s₁ (mkF m 64 #[.val (.int p1)] [(.int (0 : Int32))])
                  refine Go.retZ X0 hx hlk hret rfl (hb hby d_prog_49_method_23_code_64) (by decide) (by decide) ?_
                  exact ⟨by simp [own_xml, hc1, hc2, hc3, hc4, hc5, hc8, hc9, hc10], rfl, e0⟩
                · refine Go.st (fun _ h => XS.icmpNo X0.here hx rfl (hb hby d_prog_49_method_23_code_56) rfl ((flt hc10).2.2.1) h) ?_
                  show Go p e below _ s₁ (mkF m 59 #[.val (.int p1)] [])
                  refine Go.st (fun _ h => XT.iconstV X0.here hx rfl (1 : Int32) (hb hby d_prog_49_method_23_code_59) (by decide) h) ?_
                  show Go p e below _ s₁ (mkF m 60 #[.val (.int p1)] [(.int (1 : Int32))])
                  refine Go.st (fun _ h => XS.goto X0.here hx rfl (pc0 := 60) (pc' := 64) rfl (hb hby d_prog_49_method_23_code_60) (by decide) (by decide) h) ?_
                  show Go p e below _ s₁ (mkF m 64 #[.val (.int p1)] [(.int (1 : Int32))])
                  refine Go.retZ X0 hx hlk hret rfl (hb hby d_prog_49_method_23_code_64) (by decide) (by decide) ?_
                  exact ⟨by simp [own_xml, hc1, hc2, hc3, hc4, hc5, hc8, hc9, hc10], rfl, e0⟩
            · refine Go.st (fun _ h => XS.icmpYes X0.here hx rfl (pc0 := 42) (pc' := 59) rfl (hb hby d_prog_49_method_23_code_42) rfl ((flt hc8).2.2.2) (by decide) (by decide) h) ?_
              show Go p e below _ s₁ (mkF m 59 #[.val (.int p1)] [])
              refine Go.st (fun _ h => XT.iconstV X0.here hx rfl (1 : Int32) (hb hby d_prog_49_method_23_code_59) (by decide) h) ?_
              show Go p e below _ s₁ (mkF m 60 #[.val (.int p1)] [(.int (1 : Int32))])
              refine Go.st (fun _ h => XS.goto X0.here hx rfl (pc0 := 60) (pc' := 64) rfl (hb hby d_prog_49_method_23_code_60) (by decide) (by decide) h) ?_
              show Go p e below _ s₁ (mkF m 64 #[.val (.int p1)] [(.int (1 : Int32))])
              refine Go.retZ X0 hx hlk hret rfl (hb hby d_prog_49_method_23_code_64) (by decide) (by decide) ?_
              exact ⟨by simp [own_xml, hc1, hc2, hc3, hc4, hc5, hc8], rfl, e0⟩
        · refine Go.st (fun _ h => XS.icmpNo X0.here hx rfl (hb hby d_prog_49_method_23_code_21) rfl ((flt hc4).1) h) ?_
          show Go p e below _ s₁ (mkF m 24 #[.val (.int p1)] [])
          refine Go.st (fun _ h => XS.iloadN X0.here hx rfl (hb hby d_prog_49_method_23_code_24) rfl h) ?_
          show Go p e below _ s₁ (mkF m 25 #[.val (.int p1)] [(.int p1)])
          refine Go.st (fun _ h => X0.ldcWI hx hown (mvT hZ (hw _ (List.mem_of_getElem? (i := 18) rfl))) rfl (hb hby d_prog_49_method_23_code_25) h) ?_
          show Go p e below _ s₁ (mkF m 28 #[.val (.int p1)] [(.int (55295 : Int32)), (.int p1)])
          by_cases hc11 : (55295 : Int32) < p1
          · refine Go.st (fun _ h => XS.icmpNo X0.here hx rfl (hb hby d_prog_49_method_23_code_28) rfl ((tlt hc11).2.2.2) h) ?_
            show Go p e below _ s₁ (mkF m 31 #[.val (.int p1)] [])
            refine Go.st (fun _ h => XS.iloadN X0.here hx rfl (hb hby d_prog_49_method_23_code_31) rfl h) ?_
            show Go p e below _ s₁ (mkF m 32 #[.val (.int p1)] [(.int p1)])
            refine Go.st (fun _ h => X0.ldcWI hx hown (mvT hZ (hw _ (List.mem_of_getElem? (i := 10) rfl))) rfl (hb hby d_prog_49_method_23_code_32) h) ?_
            show Go p e below _ s₁ (mkF m 35 #[.val (.int p1)] [(.int (57344 : Int32)), (.int p1)])
            by_cases hc12 : p1 < (57344 : Int32)
            · refine Go.st (fun _ h => XS.icmpYes X0.here hx rfl (pc0 := 35) (pc' := 45) rfl (hb hby d_prog_49_method_23_code_35) rfl ((tlt hc12).1) (by decide) (by decide) h) ?_
              show Go p e below _ s₁ (mkF m 45 #[.val (.int p1)] [])
              refine Go.st (fun _ h => XS.iloadN X0.here hx rfl (hb hby d_prog_49_method_23_code_45) rfl h) ?_
              show Go p e below _ s₁ (mkF m 46 #[.val (.int p1)] [(.int p1)])
              refine Go.st (fun _ h => X0.ldcWI hx hown (mvT hZ (hw _ (List.mem_of_getElem? (i := 11) rfl))) rfl (hb hby d_prog_49_method_23_code_46) h) ?_
              show Go p e below _ s₁ (mkF m 49 #[.val (.int p1)] [(.int (65536 : Int32)), (.int p1)])
              by_cases hc13 : p1 < (65536 : Int32)
              · refine Go.st (fun _ h => XS.icmpYes X0.here hx rfl (pc0 := 49) (pc' := 63) rfl (hb hby d_prog_49_method_23_code_49) rfl ((tlt hc13).1) (by decide) (by decide) h) ?_
                show Go p e below _ s₁ (mkF m 63 #[.val (.int p1)] [])
                refine Go.st (fun _ h => XT.iconstV X0.here hx rfl (0 : Int32) (hb hby d_prog_49_method_23_code_63) (by decide) h) ?_
                show Go p e below _ s₁ (mkF m 64 #[.val (.int p1)] [(.int (0 : Int32))])
                refine Go.retZ X0 hx hlk hret rfl (hb hby d_prog_49_method_23_code_64) (by decide) (by decide) ?_
                exact ⟨by simp [own_xml, hc1, hc2, hc3, hc4, hc11, hc12, hc13], rfl, e0⟩
              · refine Go.st (fun _ h => XS.icmpNo X0.here hx rfl (hb hby d_prog_49_method_23_code_49) rfl ((flt hc13).1) h) ?_
                show Go p e below _ s₁ (mkF m 52 #[.val (.int p1)] [])
                refine Go.st (fun _ h => XS.iloadN X0.here hx rfl (hb hby d_prog_49_method_23_code_52) rfl h) ?_
                show Go p e below _ s₁ (mkF m 53 #[.val (.int p1)] [(.int p1)])
                refine Go.st (fun _ h => X0.ldcWI hx hown (mvT hZ (hw _ (List.mem_of_getElem? (i := 22) rfl))) rfl (hb hby d_prog_49_method_23_code_53) h) ?_
                show Go p e below _ s₁ (mkF m 56 #[.val (.int p1)] [(.int (1114111 : Int32)), (.int p1)])
                by_cases hc14 : (1114111 : Int32) < p1
                · refine Go.st (fun _ h => XS.icmpYes X0.here hx rfl (pc0 := 56) (pc' := 63) rfl (hb hby d_prog_49_method_23_code_56) rfl ((tlt hc14).2.2.1) (by decide) (by decide) h) ?_
                  show Go p e below _ s₁ (mkF m 63 #[.val (.int p1)] [])
                  refine Go.st (fun _ h => XT.iconstV X0.here hx rfl (0 : Int32) (hb hby d_prog_49_method_23_code_63) (by decide) h) ?_
                  show Go p e below _ s₁ (mkF m 64 #[.val (.int p1)] [(.int (0 : Int32))])
                  refine Go.retZ X0 hx hlk hret rfl (hb hby d_prog_49_method_23_code_64) (by decide) (by decide) ?_
                  exact ⟨by simp [own_xml, hc1, hc2, hc3, hc4, hc11, hc12, hc13, hc14], rfl, e0⟩
                · refine Go.st (fun _ h => XS.icmpNo X0.here hx rfl (hb hby d_prog_49_method_23_code_56) rfl ((flt hc14).2.2.1) h) ?_
                  show Go p e below _ s₁ (mkF m 59 #[.val (.int p1)] [])
                  refine Go.st (fun _ h => XT.iconstV X0.here hx rfl (1 : Int32) (hb hby d_prog_49_method_23_code_59) (by decide) h) ?_
                  show Go p e below _ s₁ (mkF m 60 #[.val (.int p1)] [(.int (1 : Int32))])
                  refine Go.st (fun _ h => XS.goto X0.here hx rfl (pc0 := 60) (pc' := 64) rfl (hb hby d_prog_49_method_23_code_60) (by decide) (by decide) h) ?_
                  show Go p e below _ s₁ (mkF m 64 #[.val (.int p1)] [(.int (1 : Int32))])
                  refine Go.retZ X0 hx hlk hret rfl (hb hby d_prog_49_method_23_code_64) (by decide) (by decide) ?_
                  exact ⟨by simp [own_xml, hc1, hc2, hc3, hc4, hc11, hc12, hc13, hc14], rfl, e0⟩
            · refine Go.st (fun _ h => XS.icmpNo X0.here hx rfl (hb hby d_prog_49_method_23_code_35) rfl ((flt hc12).1) h) ?_
              show Go p e below _ s₁ (mkF m 38 #[.val (.int p1)] [])
              refine Go.st (fun _ h => XS.iloadN X0.here hx rfl (hb hby d_prog_49_method_23_code_38) rfl h) ?_
              show Go p e below _ s₁ (mkF m 39 #[.val (.int p1)] [(.int p1)])
              refine Go.st (fun _ h => X0.ldcWI hx hown (mvT hZ (hw _ (List.mem_of_getElem? (i := 21) rfl))) rfl (hb hby d_prog_49_method_23_code_39) h) ?_
              show Go p e below _ s₁ (mkF m 42 #[.val (.int p1)] [(.int (65533 : Int32)), (.int p1)])
              by_cases hc15 : (65533 : Int32) < p1
              · refine Go.st (fun _ h => XS.icmpNo X0.here hx rfl (hb hby d_prog_49_method_23_code_42) rfl ((tlt hc15).2.2.2) h) ?_
                show Go p e below _ s₁ (mkF m 45 #[.val (.int p1)] [])
                refine Go.st (fun _ h => XS.iloadN X0.here hx rfl (hb hby d_prog_49_method_23_code_45) rfl h) ?_
                show Go p e below _ s₁ (mkF m 46 #[.val (.int p1)] [(.int p1)])
                refine Go.st (fun _ h => X0.ldcWI hx hown (mvT hZ (hw _ (List.mem_of_getElem? (i := 11) rfl))) rfl (hb hby d_prog_49_method_23_code_46) h) ?_
                show Go p e below _ s₁ (mkF m 49 #[.val (.int p1)] [(.int (65536 : Int32)), (.int p1)])
                by_cases hc16 : p1 < (65536 : Int32)
                · refine Go.st (fun _ h => XS.icmpYes X0.here hx rfl (pc0 := 49) (pc' := 63) rfl (hb hby d_prog_49_method_23_code_49) rfl ((tlt hc16).1) (by decide) (by decide) h) ?_
                  show Go p e below _ s₁ (mkF m 63 #[.val (.int p1)] [])
                  refine Go.st (fun _ h => XT.iconstV X0.here hx rfl (0 : Int32) (hb hby d_prog_49_method_23_code_63) (by decide) h) ?_
                  show Go p e below _ s₁ (mkF m 64 #[.val (.int p1)] [(.int (0 : Int32))])
                  refine Go.retZ X0 hx hlk hret rfl (hb hby d_prog_49_method_23_code_64) (by decide) (by decide) ?_
                  exact ⟨by simp [own_xml, hc1, hc2, hc3, hc4, hc11, hc12, hc15, hc16], rfl, e0⟩
                · refine Go.st (fun _ h => XS.icmpNo X0.here hx rfl (hb hby d_prog_49_method_23_code_49) rfl ((flt hc16).1) h) ?_
                  show Go p e below _ s₁ (mkF m 52 #[.val (.int p1)] [])
                  refine Go.st (fun _ h => XS.iloadN X0.here hx rfl (hb hby d_prog_49_method_23_code_52) rfl h) ?_
                  show Go p e below _ s₁ (mkF m 53 #[.val (.int p1)] [(.int p1)])
                  refine Go.st (fun _ h => X0.ldcWI hx hown (mvT hZ (hw _ (List.mem_of_getElem? (i := 22) rfl))) rfl (hb hby d_prog_49_method_23_code_53) h) ?_
                  show Go p e below _ s₁ (mkF m 56 #[.val (.int p1)] [(.int (1114111 : Int32)), (.int p1)])
                  by_cases hc17 : (1114111 : Int32) < p1
                  · refine Go.st (fun _ h => XS.icmpYes X0.here hx rfl (pc0 := 56) (pc' := 63) rfl (hb hby d_prog_49_method_23_code_56) rfl ((tlt hc17).2.2.1) (by decide) (by decide) h) ?_
                    show Go p e below _ s₁ (mkF m 63 #[.val (.int p1)] [])
                    refine Go.st (fun _ h => XT.iconstV X0.here hx rfl (0 : Int32) (hb hby d_prog_49_method_23_code_63) (by decide) h) ?_
                    show Go p e below _ s₁ (mkF m 64 #[.val (.int p1)] [(.int (0 : Int32))])
                    refine Go.retZ X0 hx hlk hret rfl (hb hby d_prog_49_method_23_code_64) (by decide) (by decide) ?_
                    exact ⟨by simp [own_xml, hc1, hc2, hc3, hc4, hc11, hc12, hc15, hc16, hc17], rfl, e0⟩
                  · refine Go.st (fun _ h => XS.icmpNo X0.here hx rfl (hb hby d_prog_49_method_23_code_56) rfl ((flt hc17).2.2.1) h) ?_
                    show Go p e below _ s₁ (mkF m 59 #[.val (.int p1)] [])
                    refine Go.st (fun _ h => XT.iconstV X0.here hx rfl (1 : Int32) (hb hby d_prog_49_method_23_code_59) (by decide) h) ?_
                    show Go p e below _ s₁ (mkF m 60 #[.val (.int p1)] [(.int (1 : Int32))])
                    refine Go.st (fun _ h => XS.goto X0.here hx rfl (pc0 := 60) (pc' := 64) rfl (hb hby d_prog_49_method_23_code_60) (by decide) (by decide) h) ?_
                    show Go p e below _ s₁ (mkF m 64 #[.val (.int p1)] [(.int (1 : Int32))])
                    refine Go.retZ X0 hx hlk hret rfl (hb hby d_prog_49_method_23_code_64) (by decide) (by decide) ?_
                    exact ⟨by simp [own_xml, hc1, hc2, hc3, hc4, hc11, hc12, hc15, hc16, hc17], rfl, e0⟩
              · refine Go.st (fun _ h => XS.icmpYes X0.here hx rfl (pc0 := 42) (pc' := 59) rfl (hb hby d_prog_49_method_23_code_42) rfl ((flt hc15).2.2.2) (by decide) (by decide) h) ?_
                show Go p e below _ s₁ (mkF m 59 #[.val (.int p1)] [])
                refine Go.st (fun _ h => XT.iconstV X0.here hx rfl (1 : Int32) (hb hby d_prog_49_method_23_code_59) (by decide) h) ?_
                show Go p e below _ s₁ (mkF m 60 #[.val (.int p1)] [(.int (1 : Int32))])
                refine Go.st (fun _ h => XS.goto X0.here hx rfl (pc0 := 60) (pc' := 64) rfl (hb hby d_prog_49_method_23_code_60) (by decide) (by decide) h) ?_
                show Go p e below _ s₁ (mkF m 64 #[.val (.int p1)] [(.int (1 : Int32))])
                refine Go.retZ X0 hx hlk hret rfl (hb hby d_prog_49_method_23_code_64) (by decide) (by decide) ?_
                exact ⟨by simp [own_xml, hc1, hc2, hc3, hc4, hc11, hc12, hc15], rfl, e0⟩
          · refine Go.st (fun _ h => XS.icmpYes X0.here hx rfl (pc0 := 28) (pc' := 59) rfl (hb hby d_prog_49_method_23_code_28) rfl ((flt hc11).2.2.2) (by decide) (by decide) h) ?_
            show Go p e below _ s₁ (mkF m 59 #[.val (.int p1)] [])
            refine Go.st (fun _ h => XT.iconstV X0.here hx rfl (1 : Int32) (hb hby d_prog_49_method_23_code_59) (by decide) h) ?_
            show Go p e below _ s₁ (mkF m 60 #[.val (.int p1)] [(.int (1 : Int32))])
            refine Go.st (fun _ h => XS.goto X0.here hx rfl (pc0 := 60) (pc' := 64) rfl (hb hby d_prog_49_method_23_code_60) (by decide) (by decide) h) ?_
            show Go p e below _ s₁ (mkF m 64 #[.val (.int p1)] [(.int (1 : Int32))])
            refine Go.retZ X0 hx hlk hret rfl (hb hby d_prog_49_method_23_code_64) (by decide) (by decide) ?_
            exact ⟨by simp [own_xml, hc1, hc2, hc3, hc4, hc11], rfl, e0⟩
theorem ef_rmForb (x0 : Int32) (m : MethodId) : entryFrame m #[(.int x0)] 1 = mkF m 0 #[.val (.int x0)] [] := by first | (simp [entryFrame, mkF, argsToLocals, Value.category]; done) | rfl
set_option maxRecDepth 65536 in
set_option maxHeartbeats 40000000 in
theorem rmForb (l : Launch) (Z : State) (a0 : Array Value) (hw : ∀ d ∈ tables_1, d.before a0 Z = true) (p1 : Int32) (h0 : Heap) :
    Does l Z (⟨"com/example/tenon/tenon/core/LexicalFormsIsXmlCharacterPinLaw", "forbidden", "(I)Z"⟩ : MethodName) method_2_code 1 (some .boolean) [] ({ frames := 0, cells := 0, slots := 0, locals := 0 } : Room) #[(.int p1)] h0 (Val (some (.int (own_forb p1))) h0) := by
  refine Does.intro pn_com_example_tenon_tenon_core_LexicalFormsIsXmlCharacterPinLaw (ef_rmForb p1) ?_
  intro p e s m below meth c s₁ hx hby hml hown hnm hret hlk hZ e0 X0
  show Go p e below _ s₁ (mkF m 0 #[.val (.int p1)] [])
  refine Go.st (fun _ h => XS.iloadN X0.here hx rfl (hb hby d_method_2_code_0) rfl h) ?_
  show Go p e below _ s₁ (mkF m 1 #[.val (.int p1)] [(.int p1)])
  by_cases hc1 : p1 < (0 : Int32)
  · refine Go.st (fun _ h => XS.ifYes X0.here hx rfl (pc0 := 1) (pc' := 10) rfl (hb hby d_method_2_code_1) rfl ((if0 _ _).trans (tlt hc1).1) (by decide) (by decide) h) ?_
    show Go p e below _ s₁ (mkF m 10 #[.val (.int p1)] [])
    refine Go.st (fun _ h => XT.iconstV X0.here hx rfl (1 : Int32) (hb hby d_method_2_code_10) (by decide) h) ?_
    show Go p e below _ s₁ (mkF m 11 #[.val (.int p1)] [(.int (1 : Int32))])
    refine Go.retZ X0 hx hlk hret rfl (hb hby d_method_2_code_11) (by decide) (by decide) ?_
    exact ⟨by simp [own_forb, hc1], rfl, e0⟩
  · refine Go.st (fun _ h => XS.ifNo X0.here hx rfl (hb hby d_method_2_code_1) rfl ((if0 _ _).trans (flt hc1).1) h) ?_
    show Go p e below _ s₁ (mkF m 4 #[.val (.int p1)] [])
    refine Go.st (fun _ h => XS.iloadN X0.here hx rfl (hb hby d_method_2_code_4) rfl h) ?_
    show Go p e below _ s₁ (mkF m 5 #[.val (.int p1)] [(.int p1)])
    refine Go.st (fun _ h => X0.ldcI hx hown (mvT hZ (hw _ (List.mem_of_getElem? (i := 16) rfl))) rfl (hb hby d_method_2_code_5) h) ?_
    show Go p e below _ s₁ (mkF m 7 #[.val (.int p1)] [(.int (1114111 : Int32)), (.int p1)])
    by_cases hc2 : (1114111 : Int32) < p1
    · refine Go.st (fun _ h => XS.icmpNo X0.here hx rfl (hb hby d_method_2_code_7) rfl ((tlt hc2).2.2.2) h) ?_
      show Go p e below _ s₁ (mkF m 10 #[.val (.int p1)] [])
      refine Go.st (fun _ h => XT.iconstV X0.here hx rfl (1 : Int32) (hb hby d_method_2_code_10) (by decide) h) ?_
      show Go p e below _ s₁ (mkF m 11 #[.val (.int p1)] [(.int (1 : Int32))])
      refine Go.retZ X0 hx hlk hret rfl (hb hby d_method_2_code_11) (by decide) (by decide) ?_
      exact ⟨by simp [own_forb, hc1, hc2], rfl, e0⟩
    · refine Go.st (fun _ h => XS.icmpYes X0.here hx rfl (pc0 := 7) (pc' := 12) rfl (hb hby d_method_2_code_7) rfl ((flt hc2).2.2.2) (by decide) (by decide) h) ?_
      show Go p e below _ s₁ (mkF m 12 #[.val (.int p1)] [])
      refine Go.st (fun _ h => XS.iloadN X0.here hx rfl (hb hby d_method_2_code_12) rfl h) ?_
      show Go p e below _ s₁ (mkF m 13 #[.val (.int p1)] [(.int p1)])
      refine Go.st (fun _ h => XT.bipushV X0.here hx rfl (32 : Int32) (hb hby d_method_2_code_13) (by decide) h) ?_
      show Go p e below _ s₁ (mkF m 15 #[.val (.int p1)] [(.int (32 : Int32)), (.int p1)])
      by_cases hc3 : p1 < (32 : Int32)
      · refine Go.st (fun _ h => XS.icmpNo X0.here hx rfl (hb hby d_method_2_code_15) rfl ((tlt hc3).2.1) h) ?_
        show Go p e below _ s₁ (mkF m 18 #[.val (.int p1)] [])
        refine Go.st (fun _ h => XS.iloadN X0.here hx rfl (hb hby d_method_2_code_18) rfl h) ?_
        show Go p e below _ s₁ (mkF m 19 #[.val (.int p1)] [(.int p1)])
        refine Go.st (fun _ h => XT.bipushV X0.here hx rfl (9 : Int32) (hb hby d_method_2_code_19) (by decide) h) ?_
        show Go p e below _ s₁ (mkF m 21 #[.val (.int p1)] [(.int (9 : Int32)), (.int p1)])
        by_cases hc4 : p1 = (9 : Int32)
        · refine Go.st (fun _ h => XS.icmpYes X0.here hx rfl (pc0 := 21) (pc' := 40) rfl (hb hby d_method_2_code_21) rfl ((teq hc4).1) (by decide) (by decide) h) ?_
          show Go p e below _ s₁ (mkF m 40 #[.val (.int p1)] [])
          refine Go.st (fun _ h => XT.iconstV X0.here hx rfl (0 : Int32) (hb hby d_method_2_code_40) (by decide) h) ?_
          show Go p e below _ s₁ (mkF m 41 #[.val (.int p1)] [(.int (0 : Int32))])
          refine Go.retZ X0 hx hlk hret rfl (hb hby d_method_2_code_41) (by decide) (by decide) ?_
          exact ⟨by simp [own_forb, hc1, hc2, hc3, hc4], rfl, e0⟩
        · refine Go.st (fun _ h => XS.icmpNo X0.here hx rfl (hb hby d_method_2_code_21) rfl ((feq hc4).1) h) ?_
          show Go p e below _ s₁ (mkF m 24 #[.val (.int p1)] [])
          refine Go.st (fun _ h => XS.iloadN X0.here hx rfl (hb hby d_method_2_code_24) rfl h) ?_
          show Go p e below _ s₁ (mkF m 25 #[.val (.int p1)] [(.int p1)])
          refine Go.st (fun _ h => XT.bipushV X0.here hx rfl (10 : Int32) (hb hby d_method_2_code_25) (by decide) h) ?_
          show Go p e below _ s₁ (mkF m 27 #[.val (.int p1)] [(.int (10 : Int32)), (.int p1)])
          by_cases hc5 : p1 = (10 : Int32)
          · refine Go.st (fun _ h => XS.icmpYes X0.here hx rfl (pc0 := 27) (pc' := 40) rfl (hb hby d_method_2_code_27) rfl ((teq hc5).1) (by decide) (by decide) h) ?_
            show Go p e below _ s₁ (mkF m 40 #[.val (.int p1)] [])
            refine Go.st (fun _ h => XT.iconstV X0.here hx rfl (0 : Int32) (hb hby d_method_2_code_40) (by decide) h) ?_
            show Go p e below _ s₁ (mkF m 41 #[.val (.int p1)] [(.int (0 : Int32))])
            refine Go.retZ X0 hx hlk hret rfl (hb hby d_method_2_code_41) (by decide) (by decide) ?_
            exact ⟨by simp [own_forb, hc1, hc2, hc3, hc4, hc5], rfl, e0⟩
          · refine Go.st (fun _ h => XS.icmpNo X0.here hx rfl (hb hby d_method_2_code_27) rfl ((feq hc5).1) h) ?_
            show Go p e below _ s₁ (mkF m 30 #[.val (.int p1)] [])
            refine Go.st (fun _ h => XS.iloadN X0.here hx rfl (hb hby d_method_2_code_30) rfl h) ?_
            show Go p e below _ s₁ (mkF m 31 #[.val (.int p1)] [(.int p1)])
            refine Go.st (fun _ h => XT.bipushV X0.here hx rfl (13 : Int32) (hb hby d_method_2_code_31) (by decide) h) ?_
            show Go p e below _ s₁ (mkF m 33 #[.val (.int p1)] [(.int (13 : Int32)), (.int p1)])
            by_cases hc6 : p1 = (13 : Int32)
            · refine Go.st (fun _ h => XS.icmpYes X0.here hx rfl (pc0 := 33) (pc' := 40) rfl (hb hby d_method_2_code_33) rfl ((teq hc6).1) (by decide) (by decide) h) ?_
              show Go p e below _ s₁ (mkF m 40 #[.val (.int p1)] [])
              refine Go.st (fun _ h => XT.iconstV X0.here hx rfl (0 : Int32) (hb hby d_method_2_code_40) (by decide) h) ?_
              show Go p e below _ s₁ (mkF m 41 #[.val (.int p1)] [(.int (0 : Int32))])
              refine Go.retZ X0 hx hlk hret rfl (hb hby d_method_2_code_41) (by decide) (by decide) ?_
              exact ⟨by simp [own_forb, hc1, hc2, hc3, hc4, hc5, hc6], rfl, e0⟩
            · refine Go.st (fun _ h => XS.icmpNo X0.here hx rfl (hb hby d_method_2_code_33) rfl ((feq hc6).1) h) ?_
              show Go p e below _ s₁ (mkF m 36 #[.val (.int p1)] [])
              refine Go.st (fun _ h => XT.iconstV X0.here hx rfl (1 : Int32) (hb hby d_method_2_code_36) (by decide) h) ?_
              show Go p e below _ s₁ (mkF m 37 #[.val (.int p1)] [(.int (1 : Int32))])
              refine Go.st (fun _ h => XS.goto X0.here hx rfl (pc0 := 37) (pc' := 41) rfl (hb hby d_method_2_code_37) (by decide) (by decide) h) ?_
              show Go p e below _ s₁ (mkF m 41 #[.val (.int p1)] [(.int (1 : Int32))])
              refine Go.retZ X0 hx hlk hret rfl (hb hby d_method_2_code_41) (by decide) (by decide) ?_
              exact ⟨by simp [own_forb, hc1, hc2, hc3, hc4, hc5, hc6], rfl, e0⟩
      · refine Go.st (fun _ h => XS.icmpYes X0.here hx rfl (pc0 := 15) (pc' := 42) rfl (hb hby d_method_2_code_15) rfl ((flt hc3).2.1) (by decide) (by decide) h) ?_
        show Go p e below _ s₁ (mkF m 42 #[.val (.int p1)] [])
        refine Go.st (fun _ h => XS.iloadN X0.here hx rfl (hb hby d_method_2_code_42) rfl h) ?_
        show Go p e below _ s₁ (mkF m 43 #[.val (.int p1)] [(.int p1)])
        refine Go.st (fun _ h => X0.ldcI hx hown (mvT hZ (hw _ (List.mem_of_getElem? (i := 1) rfl))) rfl (hb hby d_method_2_code_43) h) ?_
        show Go p e below _ s₁ (mkF m 45 #[.val (.int p1)] [(.int (55296 : Int32)), (.int p1)])
        by_cases hc7 : p1 < (55296 : Int32)
        · refine Go.st (fun _ h => XS.icmpYes X0.here hx rfl (pc0 := 45) (pc' := 56) rfl (hb hby d_method_2_code_45) rfl ((tlt hc7).1) (by decide) (by decide) h) ?_
          show Go p e below _ s₁ (mkF m 56 #[.val (.int p1)] [])
          refine Go.st (fun _ h => XS.iloadN X0.here hx rfl (hb hby d_method_2_code_56) rfl h) ?_
          show Go p e below _ s₁ (mkF m 57 #[.val (.int p1)] [(.int p1)])
          refine Go.st (fun _ h => X0.ldcI hx hown (mvT hZ (hw _ (List.mem_of_getElem? (i := 19) rfl))) rfl (hb hby d_method_2_code_57) h) ?_
          show Go p e below _ s₁ (mkF m 59 #[.val (.int p1)] [(.int (65534 : Int32)), (.int p1)])
          by_cases hc8 : p1 = (65534 : Int32)
          · refine Go.st (fun _ h => XS.icmpYes X0.here hx rfl (pc0 := 59) (pc' := 68) rfl (hb hby d_method_2_code_59) rfl ((teq hc8).1) (by decide) (by decide) h) ?_
            show Go p e below _ s₁ (mkF m 68 #[.val (.int p1)] [])
            refine Go.st (fun _ h => XT.iconstV X0.here hx rfl (1 : Int32) (hb hby d_method_2_code_68) (by decide) h) ?_
            show Go p e below _ s₁ (mkF m 69 #[.val (.int p1)] [(.int (1 : Int32))])
            refine Go.st (fun _ h => XS.goto X0.here hx rfl (pc0 := 69) (pc' := 73) rfl (hb hby d_method_2_code_69) (by decide) (by decide) h) ?_
            show Go p e below _ s₁ (mkF m 73 #[.val (.int p1)] [(.int (1 : Int32))])
            refine Go.retZ X0 hx hlk hret rfl (hb hby d_method_2_code_73) (by decide) (by decide) ?_
            exact ⟨by simp [own_forb, hc1, hc2, hc3, hc7, hc8], rfl, e0⟩
          · refine Go.st (fun _ h => XS.icmpNo X0.here hx rfl (hb hby d_method_2_code_59) rfl ((feq hc8).1) h) ?_
            show Go p e below _ s₁ (mkF m 62 #[.val (.int p1)] [])
            refine Go.st (fun _ h => XS.iloadN X0.here hx rfl (hb hby d_method_2_code_62) rfl h) ?_
            show Go p e below _ s₁ (mkF m 63 #[.val (.int p1)] [(.int p1)])
            refine Go.st (fun _ h => X0.ldcI hx hown (mvT hZ (hw _ (List.mem_of_getElem? (i := 20) rfl))) rfl (hb hby d_method_2_code_63) h) ?_
            show Go p e below _ s₁ (mkF m 65 #[.val (.int p1)] [(.int (65535 : Int32)), (.int p1)])
            by_cases hc9 : p1 = (65535 : Int32)
            · refine Go.st (fun _ h => XS.icmpNo X0.here hx rfl (hb hby d_method_2_code_65) rfl ((teq hc9).2) h) ?_
              show Go p e below _ s₁ (mkF m 68 #[.val (.int p1)] [])
              refine Go.st (fun _ h => XT.iconstV X0.here hx rfl (1 : Int32) (hb hby d_method_2_code_68) (by decide) h) ?_
              show Go p e below _ s₁ (mkF m 69 #[.val (.int p1)] [(.int (1 : Int32))])
              refine Go.st (fun _ h => XS.goto X0.here hx rfl (pc0 := 69) (pc' := 73) rfl (hb hby d_method_2_code_69) (by decide) (by decide) h) ?_
              show Go p e below _ s₁ (mkF m 73 #[.val (.int p1)] [(.int (1 : Int32))])
              refine Go.retZ X0 hx hlk hret rfl (hb hby d_method_2_code_73) (by decide) (by decide) ?_
              exact ⟨by simp [own_forb, hc1, hc2, hc3, hc7, hc8, hc9], rfl, e0⟩
            · refine Go.st (fun _ h => XS.icmpYes X0.here hx rfl (pc0 := 65) (pc' := 72) rfl (hb hby d_method_2_code_65) rfl ((feq hc9).2) (by decide) (by decide) h) ?_
              show Go p e below _ s₁ (mkF m 72 #[.val (.int p1)] [])
              refine Go.st (fun _ h => XT.iconstV X0.here hx rfl (0 : Int32) (hb hby d_method_2_code_72) (by decide) h) ?_
              show Go p e below _ s₁ (mkF m 73 #[.val (.int p1)] [(.int (0 : Int32))])
              refine Go.retZ X0 hx hlk hret rfl (hb hby d_method_2_code_73) (by decide) (by decide) ?_
              exact ⟨by simp [own_forb, hc1, hc2, hc3, hc7, hc8, hc9], rfl, e0⟩
        · refine Go.st (fun _ h => XS.icmpNo X0.here hx rfl (hb hby d_method_2_code_45) rfl ((flt hc7).1) h) ?_
          show Go p e below _ s₁ (mkF m 48 #[.val (.int p1)] [])
          refine Go.st (fun _ h => XS.iloadN X0.here hx rfl (hb hby d_method_2_code_48) rfl h) ?_
          show Go p e below _ s₁ (mkF m 49 #[.val (.int p1)] [(.int p1)])
          refine Go.st (fun _ h => X0.ldcI hx hown (mvT hZ (hw _ (List.mem_of_getElem? (i := 23) rfl))) rfl (hb hby d_method_2_code_49) h) ?_
          show Go p e below _ s₁ (mkF m 51 #[.val (.int p1)] [(.int (57343 : Int32)), (.int p1)])
          by_cases hc10 : (57343 : Int32) < p1
          · refine Go.st (fun _ h => XS.icmpYes X0.here hx rfl (pc0 := 51) (pc' := 56) rfl (hb hby d_method_2_code_51) rfl ((tlt hc10).2.2.1) (by decide) (by decide) h) ?_
            show Go p e below _ s₁ (mkF m 56 #[.val (.int p1)] [])
            refine Go.st (fun _ h => XS.iloadN X0.here hx rfl (hb hby d_method_2_code_56) rfl h) ?_
            show Go p e below _ s₁ (mkF m 57 #[.val (.int p1)] [(.int p1)])
            refine Go.st (fun _ h => X0.ldcI hx hown (mvT hZ (hw _ (List.mem_of_getElem? (i := 19) rfl))) rfl (hb hby d_method_2_code_57) h) ?_
            show Go p e below _ s₁ (mkF m 59 #[.val (.int p1)] [(.int (65534 : Int32)), (.int p1)])
            by_cases hc11 : p1 = (65534 : Int32)
            · refine Go.st (fun _ h => XS.icmpYes X0.here hx rfl (pc0 := 59) (pc' := 68) rfl (hb hby d_method_2_code_59) rfl ((teq hc11).1) (by decide) (by decide) h) ?_
              show Go p e below _ s₁ (mkF m 68 #[.val (.int p1)] [])
              refine Go.st (fun _ h => XT.iconstV X0.here hx rfl (1 : Int32) (hb hby d_method_2_code_68) (by decide) h) ?_
              show Go p e below _ s₁ (mkF m 69 #[.val (.int p1)] [(.int (1 : Int32))])
              refine Go.st (fun _ h => XS.goto X0.here hx rfl (pc0 := 69) (pc' := 73) rfl (hb hby d_method_2_code_69) (by decide) (by decide) h) ?_
              show Go p e below _ s₁ (mkF m 73 #[.val (.int p1)] [(.int (1 : Int32))])
              refine Go.retZ X0 hx hlk hret rfl (hb hby d_method_2_code_73) (by decide) (by decide) ?_
              exact ⟨by simp [own_forb, hc1, hc2, hc3, hc7, hc10, hc11], rfl, e0⟩
            · refine Go.st (fun _ h => XS.icmpNo X0.here hx rfl (hb hby d_method_2_code_59) rfl ((feq hc11).1) h) ?_
              show Go p e below _ s₁ (mkF m 62 #[.val (.int p1)] [])
              refine Go.st (fun _ h => XS.iloadN X0.here hx rfl (hb hby d_method_2_code_62) rfl h) ?_
              show Go p e below _ s₁ (mkF m 63 #[.val (.int p1)] [(.int p1)])
              refine Go.st (fun _ h => X0.ldcI hx hown (mvT hZ (hw _ (List.mem_of_getElem? (i := 20) rfl))) rfl (hb hby d_method_2_code_63) h) ?_
              show Go p e below _ s₁ (mkF m 65 #[.val (.int p1)] [(.int (65535 : Int32)), (.int p1)])
              by_cases hc12 : p1 = (65535 : Int32)
              · refine Go.st (fun _ h => XS.icmpNo X0.here hx rfl (hb hby d_method_2_code_65) rfl ((teq hc12).2) h) ?_
                show Go p e below _ s₁ (mkF m 68 #[.val (.int p1)] [])
                refine Go.st (fun _ h => XT.iconstV X0.here hx rfl (1 : Int32) (hb hby d_method_2_code_68) (by decide) h) ?_
                show Go p e below _ s₁ (mkF m 69 #[.val (.int p1)] [(.int (1 : Int32))])
                refine Go.st (fun _ h => XS.goto X0.here hx rfl (pc0 := 69) (pc' := 73) rfl (hb hby d_method_2_code_69) (by decide) (by decide) h) ?_
                show Go p e below _ s₁ (mkF m 73 #[.val (.int p1)] [(.int (1 : Int32))])
                refine Go.retZ X0 hx hlk hret rfl (hb hby d_method_2_code_73) (by decide) (by decide) ?_
                exact ⟨by simp [own_forb, hc1, hc2, hc3, hc7, hc10, hc11, hc12], rfl, e0⟩
              · refine Go.st (fun _ h => XS.icmpYes X0.here hx rfl (pc0 := 65) (pc' := 72) rfl (hb hby d_method_2_code_65) rfl ((feq hc12).2) (by decide) (by decide) h) ?_
                show Go p e below _ s₁ (mkF m 72 #[.val (.int p1)] [])
                refine Go.st (fun _ h => XT.iconstV X0.here hx rfl (0 : Int32) (hb hby d_method_2_code_72) (by decide) h) ?_
                show Go p e below _ s₁ (mkF m 73 #[.val (.int p1)] [(.int (0 : Int32))])
                refine Go.retZ X0 hx hlk hret rfl (hb hby d_method_2_code_73) (by decide) (by decide) ?_
                exact ⟨by simp [own_forb, hc1, hc2, hc3, hc7, hc10, hc11, hc12], rfl, e0⟩
          · refine Go.st (fun _ h => XS.icmpNo X0.here hx rfl (hb hby d_method_2_code_51) rfl ((flt hc10).2.2.1) h) ?_
            show Go p e below _ s₁ (mkF m 54 #[.val (.int p1)] [])
            refine Go.st (fun _ h => XT.iconstV X0.here hx rfl (1 : Int32) (hb hby d_method_2_code_54) (by decide) h) ?_
            show Go p e below _ s₁ (mkF m 55 #[.val (.int p1)] [(.int (1 : Int32))])
            refine Go.retZ X0 hx hlk hret rfl (hb hby d_method_2_code_55) (by decide) (by decide) ?_
            exact ⟨by simp [own_forb, hc1, hc2, hc3, hc7, hc10], rfl, e0⟩
theorem ef_rmLaw (x0 : Int32) (x1 : Int32) (m : MethodId) : entryFrame m #[(.int x0), (.int x1)] maxLocals = mkF m 0 #[.val (.int x0), .val (.int x1), .unset, .unset, .unset, .unset] [] := by first | (simp [entryFrame, mkF, argsToLocals, Value.category, maxLocals]; done) | rfl
set_option maxRecDepth 65536 in
set_option maxHeartbeats 40000000 in
theorem rmLaw (l : Launch) (Z : State) (a0 : Array Value) (hw : ∀ d ∈ tables_1, d.before a0 Z = true) (p1 p2 : Int32) (h0 : Heap) (n0 : Nat) (Z0 : n0 ≤ h0.size) :
    Does l Z x code maxLocals ret tables_1 room_1 #[(.int p1), (.int p2)] h0 (fun v h L => v = some (.int 1) ∧ Fr n0 L) := by
  refine Does.intro pn_com_example_tenon_tenon_core_LexicalFormsIsXmlCharacterPinLaw (ef_rmLaw p1 p2) ?_
  intro p e s m below meth c s₁ hx hby hml hown hnm hret hlk hZ e0 X0
  show Go p e below _ s₁ (mkF m 0 #[.val (.int p1), .val (.int p2), .unset, .unset, .unset, .unset] [])
  have N0 := Fr.nil n0
  refine Go.st (fun _ h => XT.bipushV X0.here hx rfl (8 : Int32) (hb hby at_0) (by decide) h) ?_
  show Go p e below _ s₁ (mkF m 2 #[.val (.int p1), .val (.int p2), .unset, .unset, .unset, .unset] [(.int (8 : Int32))])
  obtain ⟨T1, h1, k1, X1, e1, E1, A1, st1⟩ := newP X0 hx hZ (hw _ (List.mem_of_getElem? (i := 0) rfl)) e0 (g := (mkF m 2 #[.val (.int p1), .val (.int p2), .unset, .unset, .unset, .unset] [(.int (8 : Int32))])) rfl (hb hby at_2) rfl (by decide) (cap := 8) (by decide) (by decide) (by decide) (by decide)
  obtain ⟨o1, g1⟩ : ∃ z, z = h0.size := ⟨_, rfl⟩
  rw [← g1] at A1 st1
  have le_o1 : h0.size ≤ o1 := by rw [g1]; exact (Keep.refl _ []).1
  have K1 := (Keep.refl _ []).ext E1
  have V1 : Arv Z h1 o1 k1 .int (8 : Int32) [(.int (0 : Int32)), (.int (0 : Int32)), (.int (0 : Int32)), (.int (0 : Int32)), (.int (0 : Int32)), (.int (0 : Int32)), (.int (0 : Int32)), (.int (0 : Int32))] (.int (0 : Int32)) := (Arv.new A1 (by decide)).pad (pad_rep [] (.int (0 : Int32)) 8)
  refine Go.st st1 ?_
  show Go p e below _ T1 (mkF m 4 #[.val (.int p1), .val (.int p2), .unset, .unset, .unset, .unset] [(.ref o1)])
  refine Go.st (fun _ h => XS.dup X1.here hx rfl (hb hby at_4) rfl rfl h) ?_
  show Go p e below _ T1 (mkF m 5 #[.val (.int p1), .val (.int p2), .unset, .unset, .unset, .unset] [(.ref o1), (.ref o1)])
  refine Go.st (fun _ h => XT.iconstV X1.here hx rfl (0 : Int32) (hb hby at_5) (by decide) h) ?_
  show Go p e below _ T1 (mkF m 6 #[.val (.int p1), .val (.int p2), .unset, .unset, .unset, .unset] [(.int (0 : Int32)), (.ref o1), (.ref o1)])
  refine Go.st (fun _ h => XT.iconstV X1.here hx rfl (0 : Int32) (hb hby at_6) (by decide) h) ?_
  show Go p e below _ T1 (mkF m 7 #[.val (.int p1), .val (.int p2), .unset, .unset, .unset, .unset] [(.int (0 : Int32)), (.int (0 : Int32)), (.ref o1), (.ref o1)])
  obtain ⟨T2, h2, X2, e2, W2, V2, st2⟩ := own_stI X1 hx hZ e1 (j := (0 : Int32)) V1 (by decide) (by decide) 0 (by decide) (by decide) (g := (mkF m 7 #[.val (.int p1), .val (.int p2), .unset, .unset, .unset, .unset] [(.int (0 : Int32)), (.int (0 : Int32)), (.ref o1), (.ref o1)])) rfl rfl (hb hby at_7)
  have N2 := Fr.snoc X2 N0 (Nat.le_trans Z0 le_o1)
  have K2 := K1.wr W2 (Or.inr le_o1)
  have V2' : Arv Z h2 o1 k1 .int (8 : Int32) [(.int (0 : Int32)), (.int (0 : Int32)), (.int (0 : Int32)), (.int (0 : Int32)), (.int (0 : Int32)), (.int (0 : Int32)), (.int (0 : Int32)), (.int (0 : Int32))] (.int (0 : Int32)) := V2
  refine Go.st st2 ?_
  show Go p e below _ T2 (mkF m 8 #[.val (.int p1), .val (.int p2), .unset, .unset, .unset, .unset] [(.ref o1)])
  refine Go.st (fun _ h => XS.dup X2.here hx rfl (hb hby at_8) rfl rfl h) ?_
  show Go p e below _ T2 (mkF m 9 #[.val (.int p1), .val (.int p2), .unset, .unset, .unset, .unset] [(.ref o1), (.ref o1)])
  refine Go.st (fun _ h => XT.iconstV X2.here hx rfl (1 : Int32) (hb hby at_9) (by decide) h) ?_
  show Go p e below _ T2 (mkF m 10 #[.val (.int p1), .val (.int p2), .unset, .unset, .unset, .unset] [(.int (1 : Int32)), (.ref o1), (.ref o1)])
  refine Go.st (fun _ h => XT.bipushV X2.here hx rfl (10 : Int32) (hb hby at_10) (by decide) h) ?_
  show Go p e below _ T2 (mkF m 12 #[.val (.int p1), .val (.int p2), .unset, .unset, .unset, .unset] [(.int (10 : Int32)), (.int (1 : Int32)), (.ref o1), (.ref o1)])
  obtain ⟨T3, h3, X3, e3, W3, V3, st3⟩ := own_stI X2 hx hZ e2 (j := (1 : Int32)) V2' (by decide) (by decide) 1 (by decide) (by decide) (g := (mkF m 12 #[.val (.int p1), .val (.int p2), .unset, .unset, .unset, .unset] [(.int (10 : Int32)), (.int (1 : Int32)), (.ref o1), (.ref o1)])) rfl rfl (hb hby at_12)
  have N3 := Fr.snoc X3 N2 (Nat.le_trans Z0 le_o1)
  have K3 := K2.wr W3 (Or.inr le_o1)
  have V3' : Arv Z h3 o1 k1 .int (8 : Int32) [(.int (0 : Int32)), (.int (10 : Int32)), (.int (0 : Int32)), (.int (0 : Int32)), (.int (0 : Int32)), (.int (0 : Int32)), (.int (0 : Int32)), (.int (0 : Int32))] (.int (0 : Int32)) := V3
  refine Go.st st3 ?_
  show Go p e below _ T3 (mkF m 13 #[.val (.int p1), .val (.int p2), .unset, .unset, .unset, .unset] [(.ref o1)])
  refine Go.st (fun _ h => XS.dup X3.here hx rfl (hb hby at_13) rfl rfl h) ?_
  show Go p e below _ T3 (mkF m 14 #[.val (.int p1), .val (.int p2), .unset, .unset, .unset, .unset] [(.ref o1), (.ref o1)])
  refine Go.st (fun _ h => XT.iconstV X3.here hx rfl (2 : Int32) (hb hby at_14) (by decide) h) ?_
  show Go p e below _ T3 (mkF m 15 #[.val (.int p1), .val (.int p2), .unset, .unset, .unset, .unset] [(.int (2 : Int32)), (.ref o1), (.ref o1)])
  refine Go.st (fun _ h => XT.bipushV X3.here hx rfl (32 : Int32) (hb hby at_15) (by decide) h) ?_
  show Go p e below _ T3 (mkF m 17 #[.val (.int p1), .val (.int p2), .unset, .unset, .unset, .unset] [(.int (32 : Int32)), (.int (2 : Int32)), (.ref o1), (.ref o1)])
  obtain ⟨T4, h4, X4, e4, W4, V4, st4⟩ := own_stI X3 hx hZ e3 (j := (2 : Int32)) V3' (by decide) (by decide) 2 (by decide) (by decide) (g := (mkF m 17 #[.val (.int p1), .val (.int p2), .unset, .unset, .unset, .unset] [(.int (32 : Int32)), (.int (2 : Int32)), (.ref o1), (.ref o1)])) rfl rfl (hb hby at_17)
  have N4 := Fr.snoc X4 N3 (Nat.le_trans Z0 le_o1)
  have K4 := K3.wr W4 (Or.inr le_o1)
  have V4' : Arv Z h4 o1 k1 .int (8 : Int32) [(.int (0 : Int32)), (.int (10 : Int32)), (.int (32 : Int32)), (.int (0 : Int32)), (.int (0 : Int32)), (.int (0 : Int32)), (.int (0 : Int32)), (.int (0 : Int32))] (.int (0 : Int32)) := V4
  refine Go.st st4 ?_
  show Go p e below _ T4 (mkF m 18 #[.val (.int p1), .val (.int p2), .unset, .unset, .unset, .unset] [(.ref o1)])
  refine Go.st (fun _ h => XS.dup X4.here hx rfl (hb hby at_18) rfl rfl h) ?_
  show Go p e below _ T4 (mkF m 19 #[.val (.int p1), .val (.int p2), .unset, .unset, .unset, .unset] [(.ref o1), (.ref o1)])
  refine Go.st (fun _ h => XT.iconstV X4.here hx rfl (3 : Int32) (hb hby at_19) (by decide) h) ?_
  show Go p e below _ T4 (mkF m 20 #[.val (.int p1), .val (.int p2), .unset, .unset, .unset, .unset] [(.int (3 : Int32)), (.ref o1), (.ref o1)])
  refine Go.st (fun _ h => X4.ldcI hx hown (mvT hZ (hw _ (List.mem_of_getElem? (i := 1) rfl))) rfl (hb hby at_20) h) ?_
  show Go p e below _ T4 (mkF m 22 #[.val (.int p1), .val (.int p2), .unset, .unset, .unset, .unset] [(.int (55296 : Int32)), (.int (3 : Int32)), (.ref o1), (.ref o1)])
  obtain ⟨T5, h5, X5, e5, W5, V5, st5⟩ := own_stI X4 hx hZ e4 (j := (3 : Int32)) V4' (by decide) (by decide) 3 (by decide) (by decide) (g := (mkF m 22 #[.val (.int p1), .val (.int p2), .unset, .unset, .unset, .unset] [(.int (55296 : Int32)), (.int (3 : Int32)), (.ref o1), (.ref o1)])) rfl rfl (hb hby at_22)
  have N5 := Fr.snoc X5 N4 (Nat.le_trans Z0 le_o1)
  have K5 := K4.wr W5 (Or.inr le_o1)
  have V5' : Arv Z h5 o1 k1 .int (8 : Int32) [(.int (0 : Int32)), (.int (10 : Int32)), (.int (32 : Int32)), (.int (55296 : Int32)), (.int (0 : Int32)), (.int (0 : Int32)), (.int (0 : Int32)), (.int (0 : Int32))] (.int (0 : Int32)) := V5
  refine Go.st st5 ?_
  show Go p e below _ T5 (mkF m 23 #[.val (.int p1), .val (.int p2), .unset, .unset, .unset, .unset] [(.ref o1)])
  refine Go.st (fun _ h => XS.dup X5.here hx rfl (hb hby at_23) rfl rfl h) ?_
  show Go p e below _ T5 (mkF m 24 #[.val (.int p1), .val (.int p2), .unset, .unset, .unset, .unset] [(.ref o1), (.ref o1)])
  refine Go.st (fun _ h => XT.iconstV X5.here hx rfl (4 : Int32) (hb hby at_24) (by decide) h) ?_
  show Go p e below _ T5 (mkF m 25 #[.val (.int p1), .val (.int p2), .unset, .unset, .unset, .unset] [(.int (4 : Int32)), (.ref o1), (.ref o1)])
  refine Go.st (fun _ h => X5.ldcI hx hown (mvT hZ (hw _ (List.mem_of_getElem? (i := 2) rfl))) rfl (hb hby at_25) h) ?_
  show Go p e below _ T5 (mkF m 27 #[.val (.int p1), .val (.int p2), .unset, .unset, .unset, .unset] [(.int (57344 : Int32)), (.int (4 : Int32)), (.ref o1), (.ref o1)])
  obtain ⟨T6, h6, X6, e6, W6, V6, st6⟩ := own_stI X5 hx hZ e5 (j := (4 : Int32)) V5' (by decide) (by decide) 4 (by decide) (by decide) (g := (mkF m 27 #[.val (.int p1), .val (.int p2), .unset, .unset, .unset, .unset] [(.int (57344 : Int32)), (.int (4 : Int32)), (.ref o1), (.ref o1)])) rfl rfl (hb hby at_27)
  have N6 := Fr.snoc X6 N5 (Nat.le_trans Z0 le_o1)
  have K6 := K5.wr W6 (Or.inr le_o1)
  have V6' : Arv Z h6 o1 k1 .int (8 : Int32) [(.int (0 : Int32)), (.int (10 : Int32)), (.int (32 : Int32)), (.int (55296 : Int32)), (.int (57344 : Int32)), (.int (0 : Int32)), (.int (0 : Int32)), (.int (0 : Int32))] (.int (0 : Int32)) := V6
  refine Go.st st6 ?_
  show Go p e below _ T6 (mkF m 28 #[.val (.int p1), .val (.int p2), .unset, .unset, .unset, .unset] [(.ref o1)])
  refine Go.st (fun _ h => XS.dup X6.here hx rfl (hb hby at_28) rfl rfl h) ?_
  show Go p e below _ T6 (mkF m 29 #[.val (.int p1), .val (.int p2), .unset, .unset, .unset, .unset] [(.ref o1), (.ref o1)])
  refine Go.st (fun _ h => XT.iconstV X6.here hx rfl (5 : Int32) (hb hby at_29) (by decide) h) ?_
  show Go p e below _ T6 (mkF m 30 #[.val (.int p1), .val (.int p2), .unset, .unset, .unset, .unset] [(.int (5 : Int32)), (.ref o1), (.ref o1)])
  refine Go.st (fun _ h => X6.ldcI hx hown (mvT hZ (hw _ (List.mem_of_getElem? (i := 3) rfl))) rfl (hb hby at_30) h) ?_
  show Go p e below _ T6 (mkF m 32 #[.val (.int p1), .val (.int p2), .unset, .unset, .unset, .unset] [(.int (65536 : Int32)), (.int (5 : Int32)), (.ref o1), (.ref o1)])
  obtain ⟨T7, h7, X7, e7, W7, V7, st7⟩ := own_stI X6 hx hZ e6 (j := (5 : Int32)) V6' (by decide) (by decide) 5 (by decide) (by decide) (g := (mkF m 32 #[.val (.int p1), .val (.int p2), .unset, .unset, .unset, .unset] [(.int (65536 : Int32)), (.int (5 : Int32)), (.ref o1), (.ref o1)])) rfl rfl (hb hby at_32)
  have N7 := Fr.snoc X7 N6 (Nat.le_trans Z0 le_o1)
  have K7 := K6.wr W7 (Or.inr le_o1)
  have V7' : Arv Z h7 o1 k1 .int (8 : Int32) [(.int (0 : Int32)), (.int (10 : Int32)), (.int (32 : Int32)), (.int (55296 : Int32)), (.int (57344 : Int32)), (.int (65536 : Int32)), (.int (0 : Int32)), (.int (0 : Int32))] (.int (0 : Int32)) := V7
  refine Go.st st7 ?_
  show Go p e below _ T7 (mkF m 33 #[.val (.int p1), .val (.int p2), .unset, .unset, .unset, .unset] [(.ref o1)])
  refine Go.st (fun _ h => XS.dup X7.here hx rfl (hb hby at_33) rfl rfl h) ?_
  show Go p e below _ T7 (mkF m 34 #[.val (.int p1), .val (.int p2), .unset, .unset, .unset, .unset] [(.ref o1), (.ref o1)])
  refine Go.st (fun _ h => XT.bipushV X7.here hx rfl (6 : Int32) (hb hby at_34) (by decide) h) ?_
  show Go p e below _ T7 (mkF m 36 #[.val (.int p1), .val (.int p2), .unset, .unset, .unset, .unset] [(.int (6 : Int32)), (.ref o1), (.ref o1)])
  refine Go.st (fun _ h => X7.ldcI hx hown (mvT hZ (hw _ (List.mem_of_getElem? (i := 4) rfl))) rfl (hb hby at_36) h) ?_
  show Go p e below _ T7 (mkF m 38 #[.val (.int p1), .val (.int p2), .unset, .unset, .unset, .unset] [(.int (1114112 : Int32)), (.int (6 : Int32)), (.ref o1), (.ref o1)])
  obtain ⟨T8, h8, X8, e8, W8, V8, st8⟩ := own_stI X7 hx hZ e7 (j := (6 : Int32)) V7' (by decide) (by decide) 6 (by decide) (by decide) (g := (mkF m 38 #[.val (.int p1), .val (.int p2), .unset, .unset, .unset, .unset] [(.int (1114112 : Int32)), (.int (6 : Int32)), (.ref o1), (.ref o1)])) rfl rfl (hb hby at_38)
  have N8 := Fr.snoc X8 N7 (Nat.le_trans Z0 le_o1)
  have K8 := K7.wr W8 (Or.inr le_o1)
  have V8' : Arv Z h8 o1 k1 .int (8 : Int32) [(.int (0 : Int32)), (.int (10 : Int32)), (.int (32 : Int32)), (.int (55296 : Int32)), (.int (57344 : Int32)), (.int (65536 : Int32)), (.int (1114112 : Int32)), (.int (0 : Int32))] (.int (0 : Int32)) := V8
  refine Go.st st8 ?_
  show Go p e below _ T8 (mkF m 39 #[.val (.int p1), .val (.int p2), .unset, .unset, .unset, .unset] [(.ref o1)])
  refine Go.st (fun _ h => XS.dup X8.here hx rfl (hb hby at_39) rfl rfl h) ?_
  show Go p e below _ T8 (mkF m 40 #[.val (.int p1), .val (.int p2), .unset, .unset, .unset, .unset] [(.ref o1), (.ref o1)])
  refine Go.st (fun _ h => XT.bipushV X8.here hx rfl (7 : Int32) (hb hby at_40) (by decide) h) ?_
  show Go p e below _ T8 (mkF m 42 #[.val (.int p1), .val (.int p2), .unset, .unset, .unset, .unset] [(.int (7 : Int32)), (.ref o1), (.ref o1)])
  refine Go.st (fun _ h => X8.ldcI hx hown (mvT hZ (hw _ (List.mem_of_getElem? (i := 5) rfl))) rfl (hb hby at_42) h) ?_
  show Go p e below _ T8 (mkF m 44 #[.val (.int p1), .val (.int p2), .unset, .unset, .unset, .unset] [(.int (2147483640 : Int32)), (.int (7 : Int32)), (.ref o1), (.ref o1)])
  obtain ⟨T9, h9, X9, e9, W9, V9, st9⟩ := own_stI X8 hx hZ e8 (j := (7 : Int32)) V8' (by decide) (by decide) 7 (by decide) (by decide) (g := (mkF m 44 #[.val (.int p1), .val (.int p2), .unset, .unset, .unset, .unset] [(.int (2147483640 : Int32)), (.int (7 : Int32)), (.ref o1), (.ref o1)])) rfl rfl (hb hby at_44)
  have N9 := Fr.snoc X9 N8 (Nat.le_trans Z0 le_o1)
  have K9 := K8.wr W9 (Or.inr le_o1)
  have V9' : Arv Z h9 o1 k1 .int (8 : Int32) [(.int (0 : Int32)), (.int (10 : Int32)), (.int (32 : Int32)), (.int (55296 : Int32)), (.int (57344 : Int32)), (.int (65536 : Int32)), (.int (1114112 : Int32)), (.int (2147483640 : Int32))] (.int (0 : Int32)) := V9
  refine Go.st st9 ?_
  show Go p e below _ T9 (mkF m 45 #[.val (.int p1), .val (.int p2), .unset, .unset, .unset, .unset] [(.ref o1)])
  refine Go.st (fun _ h => XS.astoreN X9.here hx rfl (hb hby at_45) rfl rfl (l' := #[.val (.int p1), .val (.int p2), .val (.ref o1), .unset, .unset, .unset]) rfl h) ?_
  show Go p e below _ T9 (mkF m 46 #[.val (.int p1), .val (.int p2), .val (.ref o1), .unset, .unset, .unset] [])
  refine Go.st (fun _ h => XS.iloadN X9.here hx rfl (hb hby at_46) rfl h) ?_
  show Go p e below _ T9 (mkF m 47 #[.val (.int p1), .val (.int p2), .val (.ref o1), .unset, .unset, .unset] [(.int p2)])
  refine Go.st (fun _ h => XT.bipushV X9.here hx rfl (7 : Int32) (hb hby at_47) (by decide) h) ?_
  show Go p e below _ T9 (mkF m 49 #[.val (.int p1), .val (.int p2), .val (.ref o1), .unset, .unset, .unset] [(.int (7 : Int32)), (.int p2)])
  refine Go.st (fun _ h => XS.iand X9.here hx rfl (hb hby at_49) rfl h) ?_
  show Go p e below _ T9 (mkF m 50 #[.val (.int p1), .val (.int p2), .val (.ref o1), .unset, .unset, .unset] [(.int (p2 &&& (7 : Int32)))])
  refine Go.st (fun _ h => XS.istoreN X9.here hx rfl (hb hby at_50) rfl (l' := #[.val (.int p1), .val (.int p2), .val (.ref o1), .val (.int (p2 &&& (7 : Int32))), .unset, .unset]) rfl h) ?_
  show Go p e below _ T9 (mkF m 51 #[.val (.int p1), .val (.int p2), .val (.ref o1), .val (.int (p2 &&& (7 : Int32))), .unset, .unset] [])
  have KK : ∀ (z : Int32) (sl : Slot), Go p e below (Ends s room_1.cells room_1.slots (fun v h L => v = some (.int 1) ∧ Fr n0 L)) T9 (mkF m 125 #[.val (.int p1), .val (.int p2), .val (.ref o1), .val (.int (p2 &&& (7 : Int32))), .val (.int z), sl] []) := by
    intro z sl
    refine Go.st (fun _ h => XS.iload X9.here hx rfl (hb hby at_125) rfl h) ?_
    show Go p e below _ T9 (mkF m 127 #[.val (.int p1), .val (.int p2), .val (.ref o1), .val (.int (p2 &&& (7 : Int32))), .val (.int z), sl] [(.int z)])
    obtain ⟨T10, X10, e10, st10⟩ := own_still rfl rfl (Does.static (y := (⟨"com/example/tenon/tenon/core/LexicalForms", "isXmlCharacter", "(I)Z"⟩ : MethodName)) (g := (mkF m 127 #[.val (.int p1), .val (.int p2), .val (.ref o1), .val (.int (p2 &&& (7 : Int32))), .val (.int z), sl] [(.int z)])) (rmXml l Z a0 hw z h9) X9 hx hZ hown e9 (hw _ (List.mem_of_getElem? (i := 6) rfl)) (hw _ (List.mem_of_getElem? (i := 7) rfl)) (hw _ (List.mem_of_getElem? (i := 8) rfl)) (hw _ (List.mem_of_getElem? (i := 9) rfl)) (by decide) rfl (by rw [hml]; rfl) (argsL := [(.int z)]) (rest := []) (lenOf pd_28I29Z rfl) rfl (hb hby at_127) (W := 0) (by show 2 * 0 + _ ≤ _; exact Nat.le_of_eq rfl) (by decide) (by decide) (by decide) (by decide))
    refine Go.st st10 ?_
    show Go p e below _ T10 (mkF m 130 #[.val (.int p1), .val (.int p2), .val (.ref o1), .val (.int (p2 &&& (7 : Int32))), .val (.int z), sl] [(.int (own_xml z))])
    refine Go.st (fun _ h => XS.iload X10.here hx rfl (hb hby at_130) rfl h) ?_
    show Go p e below _ T10 (mkF m 132 #[.val (.int p1), .val (.int p2), .val (.ref o1), .val (.int (p2 &&& (7 : Int32))), .val (.int z), sl] [(.int z), (.int (own_xml z))])
    obtain ⟨T11, X11, e11, st11⟩ := own_still rfl rfl (Does.static (y := (⟨"com/example/tenon/tenon/core/LexicalFormsIsXmlCharacterPinLaw", "forbidden", "(I)Z"⟩ : MethodName)) (g := (mkF m 132 #[.val (.int p1), .val (.int p2), .val (.ref o1), .val (.int (p2 &&& (7 : Int32))), .val (.int z), sl] [(.int z), (.int (own_xml z))])) (rmForb l Z a0 hw z h9) X10 hx hZ hown e10 (hw _ (List.mem_of_getElem? (i := 12) rfl)) (hw _ (List.mem_of_getElem? (i := 13) rfl)) (hw _ (List.mem_of_getElem? (i := 14) rfl)) (hw _ (List.mem_of_getElem? (i := 15) rfl)) (by decide) rfl (by rw [hml]; rfl) (argsL := [(.int z)]) (rest := [(.int (own_xml z))]) (lenOf pd_28I29Z rfl) rfl (hb hby at_132) (W := 1) (by show 2 * 0 + _ ≤ _; exact Nat.le_of_eq rfl) (by decide) (by decide) (by decide) (by decide))
    refine Go.st st11 ?_
    show Go p e below _ T11 (mkF m 135 #[.val (.int p1), .val (.int p2), .val (.ref o1), .val (.int (p2 &&& (7 : Int32))), .val (.int z), sl] [(.int (own_forb z)), (.int (own_xml z))])
    by_cases hc12 : (own_forb z) = (0 : Int32)
    · refine Go.st (fun _ h => XS.ifNo X11.here hx rfl (hb hby at_135) rfl ((if0 _ _).trans (teq hc12).2) h) ?_
      show Go p e below _ T11 (mkF m 138 #[.val (.int p1), .val (.int p2), .val (.ref o1), .val (.int (p2 &&& (7 : Int32))), .val (.int z), sl] [(.int (own_xml z))])
      refine Go.st (fun _ h => XT.iconstV X11.here hx rfl (1 : Int32) (hb hby at_138) (by decide) h) ?_
      show Go p e below _ T11 (mkF m 139 #[.val (.int p1), .val (.int p2), .val (.ref o1), .val (.int (p2 &&& (7 : Int32))), .val (.int z), sl] [(.int (1 : Int32)), (.int (own_xml z))])
      refine Go.st (fun _ h => XS.goto X11.here hx rfl (pc0 := 139) (pc' := 143) rfl (hb hby at_139) (by decide) (by decide) h) ?_
      show Go p e below _ T11 (mkF m 143 #[.val (.int p1), .val (.int p2), .val (.ref o1), .val (.int (p2 &&& (7 : Int32))), .val (.int z), sl] [(.int (1 : Int32)), (.int (own_xml z))])
      refine Go.st (fun _ h => XS.icmpNo X11.here hx rfl (hb hby at_143) rfl ((teq (own_x1 hc12 : (own_xml z) = (1 : Int32))).2) h) ?_
      show Go p e below _ T11 (mkF m 146 #[.val (.int p1), .val (.int p2), .val (.ref o1), .val (.int (p2 &&& (7 : Int32))), .val (.int z), sl] [])
      refine Go.st (fun _ h => XT.iconstV X11.here hx rfl (1 : Int32) (hb hby at_146) (by decide) h) ?_
      show Go p e below _ T11 (mkF m 147 #[.val (.int p1), .val (.int p2), .val (.ref o1), .val (.int (p2 &&& (7 : Int32))), .val (.int z), sl] [(.int (1 : Int32))])
      refine Go.st (fun _ h => XS.goto X11.here hx rfl (pc0 := 147) (pc' := 151) rfl (hb hby at_147) (by decide) (by decide) h) ?_
      show Go p e below _ T11 (mkF m 151 #[.val (.int p1), .val (.int p2), .val (.ref o1), .val (.int (p2 &&& (7 : Int32))), .val (.int z), sl] [(.int (1 : Int32))])
      refine Go.retZ X11 hx hlk hret rfl (hb hby at_151) (by decide) (by decide) ?_
      exact ⟨rfl, N9⟩
    · refine Go.st (fun _ h => XS.ifYes X11.here hx rfl (pc0 := 135) (pc' := 142) rfl (hb hby at_135) rfl ((if0 _ _).trans (feq hc12).2) (by decide) (by decide) h) ?_
      show Go p e below _ T11 (mkF m 142 #[.val (.int p1), .val (.int p2), .val (.ref o1), .val (.int (p2 &&& (7 : Int32))), .val (.int z), sl] [(.int (own_xml z))])
      refine Go.st (fun _ h => XT.iconstV X11.here hx rfl (0 : Int32) (hb hby at_142) (by decide) h) ?_
      show Go p e below _ T11 (mkF m 143 #[.val (.int p1), .val (.int p2), .val (.ref o1), .val (.int (p2 &&& (7 : Int32))), .val (.int z), sl] [(.int (0 : Int32)), (.int (own_xml z))])
      refine Go.st (fun _ h => XS.icmpNo X11.here hx rfl (hb hby at_143) rfl ((teq (own_x0 hc12 : (own_xml z) = (0 : Int32))).2) h) ?_
      show Go p e below _ T11 (mkF m 146 #[.val (.int p1), .val (.int p2), .val (.ref o1), .val (.int (p2 &&& (7 : Int32))), .val (.int z), sl] [])
      refine Go.st (fun _ h => XT.iconstV X11.here hx rfl (1 : Int32) (hb hby at_146) (by decide) h) ?_
      show Go p e below _ T11 (mkF m 147 #[.val (.int p1), .val (.int p2), .val (.ref o1), .val (.int (p2 &&& (7 : Int32))), .val (.int z), sl] [(.int (1 : Int32))])
      refine Go.st (fun _ h => XS.goto X11.here hx rfl (pc0 := 147) (pc' := 151) rfl (hb hby at_147) (by decide) (by decide) h) ?_
      show Go p e below _ T11 (mkF m 151 #[.val (.int p1), .val (.int p2), .val (.ref o1), .val (.int (p2 &&& (7 : Int32))), .val (.int z), sl] [(.int (1 : Int32))])
      refine Go.retZ X11 hx hlk hret rfl (hb hby at_151) (by decide) (by decide) ?_
      exact ⟨rfl, N9⟩
  refine Go.st (fun _ h => XS.iloadN X9.here hx rfl (hb hby at_51) rfl h) ?_
  show Go p e below _ T9 (mkF m 52 #[.val (.int p1), .val (.int p2), .val (.ref o1), .val (.int (p2 &&& (7 : Int32))), .unset, .unset] [(.int (p2 &&& (7 : Int32)))])
  by_cases hc13 : (p2 &&& (7 : Int32)) = (0 : Int32)
  · refine Go.st (fun _ h => XS.ifNo X9.here hx rfl (hb hby at_52) rfl ((if0 _ _).trans (teq hc13).2) h) ?_
    show Go p e below _ T9 (mkF m 55 #[.val (.int p1), .val (.int p2), .val (.ref o1), .val (.int (p2 &&& (7 : Int32))), .unset, .unset] [])
    refine Go.st (fun _ h => XS.iloadN X9.here hx rfl (hb hby at_55) rfl h) ?_
    show Go p e below _ T9 (mkF m 56 #[.val (.int p1), .val (.int p2), .val (.ref o1), .val (.int (p2 &&& (7 : Int32))), .unset, .unset] [(.int p1)])
    refine Go.st (fun _ h => XS.istore X9.here hx rfl (hb hby at_56) rfl (l' := #[.val (.int p1), .val (.int p2), .val (.ref o1), .val (.int (p2 &&& (7 : Int32))), .val (.int p1), .unset]) rfl h) ?_
    show Go p e below _ T9 (mkF m 58 #[.val (.int p1), .val (.int p2), .val (.ref o1), .val (.int (p2 &&& (7 : Int32))), .val (.int p1), .unset] [])
    refine Go.st (fun _ h => XS.goto X9.here hx rfl (pc0 := 58) (pc' := 125) rfl (hb hby at_58) (by decide) (by decide) h) ?_
    show Go p e below _ T9 (mkF m 125 #[.val (.int p1), .val (.int p2), .val (.ref o1), .val (.int (p2 &&& (7 : Int32))), .val (.int p1), .unset] [])
    exact KK _ _
  · refine Go.st (fun _ h => XS.ifYes X9.here hx rfl (pc0 := 52) (pc' := 61) rfl (hb hby at_52) rfl ((if0 _ _).trans (feq hc13).2) (by decide) (by decide) h) ?_
    show Go p e below _ T9 (mkF m 61 #[.val (.int p1), .val (.int p2), .val (.ref o1), .val (.int (p2 &&& (7 : Int32))), .unset, .unset] [])
    refine Go.st (fun _ h => XS.iloadN X9.here hx rfl (hb hby at_61) rfl h) ?_
    show Go p e below _ T9 (mkF m 62 #[.val (.int p1), .val (.int p2), .val (.ref o1), .val (.int (p2 &&& (7 : Int32))), .unset, .unset] [(.int (p2 &&& (7 : Int32)))])
    refine Go.st (fun _ h => XT.iconstV X9.here hx rfl (1 : Int32) (hb hby at_62) (by decide) h) ?_
    show Go p e below _ T9 (mkF m 63 #[.val (.int p1), .val (.int p2), .val (.ref o1), .val (.int (p2 &&& (7 : Int32))), .unset, .unset] [(.int (1 : Int32)), (.int (p2 &&& (7 : Int32)))])
    by_cases hc14 : (p2 &&& (7 : Int32)) = (1 : Int32)
    · refine Go.st (fun _ h => XS.icmpNo X9.here hx rfl (hb hby at_63) rfl ((teq hc14).2) h) ?_
      show Go p e below _ T9 (mkF m 66 #[.val (.int p1), .val (.int p2), .val (.ref o1), .val (.int (p2 &&& (7 : Int32))), .unset, .unset] [])
      refine Go.st (fun _ h => XS.iloadN X9.here hx rfl (hb hby at_66) rfl h) ?_
      show Go p e below _ T9 (mkF m 67 #[.val (.int p1), .val (.int p2), .val (.ref o1), .val (.int (p2 &&& (7 : Int32))), .unset, .unset] [(.int p1)])
      refine Go.st (fun _ h => X9.ldcI hx hown (mvT hZ (hw _ (List.mem_of_getElem? (i := 17) rfl))) rfl (hb hby at_67) h) ?_
      show Go p e below _ T9 (mkF m 69 #[.val (.int p1), .val (.int p2), .val (.ref o1), .val (.int (p2 &&& (7 : Int32))), .unset, .unset] [(.int (2097151 : Int32)), (.int p1)])
      refine Go.st (fun _ h => XS.iand X9.here hx rfl (hb hby at_69) rfl h) ?_
      show Go p e below _ T9 (mkF m 70 #[.val (.int p1), .val (.int p2), .val (.ref o1), .val (.int (p2 &&& (7 : Int32))), .unset, .unset] [(.int (p1 &&& (2097151 : Int32)))])
      refine Go.st (fun _ h => XS.istore X9.here hx rfl (hb hby at_70) rfl (l' := #[.val (.int p1), .val (.int p2), .val (.ref o1), .val (.int (p2 &&& (7 : Int32))), .val (.int (p1 &&& (2097151 : Int32))), .unset]) rfl h) ?_
      show Go p e below _ T9 (mkF m 72 #[.val (.int p1), .val (.int p2), .val (.ref o1), .val (.int (p2 &&& (7 : Int32))), .val (.int (p1 &&& (2097151 : Int32))), .unset] [])
      refine Go.st (fun _ h => XS.goto X9.here hx rfl (pc0 := 72) (pc' := 125) rfl (hb hby at_72) (by decide) (by decide) h) ?_
      show Go p e below _ T9 (mkF m 125 #[.val (.int p1), .val (.int p2), .val (.ref o1), .val (.int (p2 &&& (7 : Int32))), .val (.int (p1 &&& (2097151 : Int32))), .unset] [])
      exact KK _ _
    · refine Go.st (fun _ h => XS.icmpYes X9.here hx rfl (pc0 := 63) (pc' := 75) rfl (hb hby at_63) rfl ((feq hc14).2) (by decide) (by decide) h) ?_
      show Go p e below _ T9 (mkF m 75 #[.val (.int p1), .val (.int p2), .val (.ref o1), .val (.int (p2 &&& (7 : Int32))), .unset, .unset] [])
      refine Go.st (fun _ h => XS.iloadN X9.here hx rfl (hb hby at_75) rfl h) ?_
      show Go p e below _ T9 (mkF m 76 #[.val (.int p1), .val (.int p2), .val (.ref o1), .val (.int (p2 &&& (7 : Int32))), .unset, .unset] [(.int (p2 &&& (7 : Int32)))])
      refine Go.st (fun _ h => XT.iconstV X9.here hx rfl (2 : Int32) (hb hby at_76) (by decide) h) ?_
      show Go p e below _ T9 (mkF m 77 #[.val (.int p1), .val (.int p2), .val (.ref o1), .val (.int (p2 &&& (7 : Int32))), .unset, .unset] [(.int (2 : Int32)), (.int (p2 &&& (7 : Int32)))])
      by_cases hc15 : (p2 &&& (7 : Int32)) = (2 : Int32)
      · refine Go.st (fun _ h => XS.icmpNo X9.here hx rfl (hb hby at_77) rfl ((teq hc15).2) h) ?_
        show Go p e below _ T9 (mkF m 80 #[.val (.int p1), .val (.int p2), .val (.ref o1), .val (.int (p2 &&& (7 : Int32))), .unset, .unset] [])
        refine Go.st (fun _ h => XS.iloadN X9.here hx rfl (hb hby at_80) rfl h) ?_
        show Go p e below _ T9 (mkF m 81 #[.val (.int p1), .val (.int p2), .val (.ref o1), .val (.int (p2 &&& (7 : Int32))), .unset, .unset] [(.int p1)])
        refine Go.st (fun _ h => X9.ldcI hx hown (mvT hZ (hw _ (List.mem_of_getElem? (i := 20) rfl))) rfl (hb hby at_81) h) ?_
        show Go p e below _ T9 (mkF m 83 #[.val (.int p1), .val (.int p2), .val (.ref o1), .val (.int (p2 &&& (7 : Int32))), .unset, .unset] [(.int (65535 : Int32)), (.int p1)])
        refine Go.st (fun _ h => XS.iand X9.here hx rfl (hb hby at_83) rfl h) ?_
        show Go p e below _ T9 (mkF m 84 #[.val (.int p1), .val (.int p2), .val (.ref o1), .val (.int (p2 &&& (7 : Int32))), .unset, .unset] [(.int (p1 &&& (65535 : Int32)))])
        refine Go.st (fun _ h => XS.istore X9.here hx rfl (hb hby at_84) rfl (l' := #[.val (.int p1), .val (.int p2), .val (.ref o1), .val (.int (p2 &&& (7 : Int32))), .val (.int (p1 &&& (65535 : Int32))), .unset]) rfl h) ?_
        show Go p e below _ T9 (mkF m 86 #[.val (.int p1), .val (.int p2), .val (.ref o1), .val (.int (p2 &&& (7 : Int32))), .val (.int (p1 &&& (65535 : Int32))), .unset] [])
        refine Go.st (fun _ h => XS.goto X9.here hx rfl (pc0 := 86) (pc' := 125) rfl (hb hby at_86) (by decide) (by decide) h) ?_
        show Go p e below _ T9 (mkF m 125 #[.val (.int p1), .val (.int p2), .val (.ref o1), .val (.int (p2 &&& (7 : Int32))), .val (.int (p1 &&& (65535 : Int32))), .unset] [])
        exact KK _ _
      · refine Go.st (fun _ h => XS.icmpYes X9.here hx rfl (pc0 := 77) (pc' := 89) rfl (hb hby at_77) rfl ((feq hc15).2) (by decide) (by decide) h) ?_
        show Go p e below _ T9 (mkF m 89 #[.val (.int p1), .val (.int p2), .val (.ref o1), .val (.int (p2 &&& (7 : Int32))), .unset, .unset] [])
        refine Go.st (fun _ h => XS.iloadN X9.here hx rfl (hb hby at_89) rfl h) ?_
        show Go p e below _ T9 (mkF m 90 #[.val (.int p1), .val (.int p2), .val (.ref o1), .val (.int (p2 &&& (7 : Int32))), .unset, .unset] [(.int (p2 &&& (7 : Int32)))])
        refine Go.st (fun _ h => XT.iconstV X9.here hx rfl (3 : Int32) (hb hby at_90) (by decide) h) ?_
        show Go p e below _ T9 (mkF m 91 #[.val (.int p1), .val (.int p2), .val (.ref o1), .val (.int (p2 &&& (7 : Int32))), .unset, .unset] [(.int (3 : Int32)), (.int (p2 &&& (7 : Int32)))])
        by_cases hc16 : (p2 &&& (7 : Int32)) = (3 : Int32)
        · refine Go.st (fun _ h => XS.icmpNo X9.here hx rfl (hb hby at_91) rfl ((teq hc16).2) h) ?_
          show Go p e below _ T9 (mkF m 94 #[.val (.int p1), .val (.int p2), .val (.ref o1), .val (.int (p2 &&& (7 : Int32))), .unset, .unset] [])
          refine Go.st (fun _ h => XS.iloadN X9.here hx rfl (hb hby at_94) rfl h) ?_
          show Go p e below _ T9 (mkF m 95 #[.val (.int p1), .val (.int p2), .val (.ref o1), .val (.int (p2 &&& (7 : Int32))), .unset, .unset] [(.int p1)])
          refine Go.st (fun _ h => XT.bipushV X9.here hx rfl (63 : Int32) (hb hby at_95) (by decide) h) ?_
          show Go p e below _ T9 (mkF m 97 #[.val (.int p1), .val (.int p2), .val (.ref o1), .val (.int (p2 &&& (7 : Int32))), .unset, .unset] [(.int (63 : Int32)), (.int p1)])
          refine Go.st (fun _ h => XS.iand X9.here hx rfl (hb hby at_97) rfl h) ?_
          show Go p e below _ T9 (mkF m 98 #[.val (.int p1), .val (.int p2), .val (.ref o1), .val (.int (p2 &&& (7 : Int32))), .unset, .unset] [(.int (p1 &&& (63 : Int32)))])
          refine Go.st (fun _ h => XS.istore X9.here hx rfl (hb hby at_98) rfl (l' := #[.val (.int p1), .val (.int p2), .val (.ref o1), .val (.int (p2 &&& (7 : Int32))), .val (.int (p1 &&& (63 : Int32))), .unset]) rfl h) ?_
          show Go p e below _ T9 (mkF m 100 #[.val (.int p1), .val (.int p2), .val (.ref o1), .val (.int (p2 &&& (7 : Int32))), .val (.int (p1 &&& (63 : Int32))), .unset] [])
          refine Go.st (fun _ h => XS.goto X9.here hx rfl (pc0 := 100) (pc' := 125) rfl (hb hby at_100) (by decide) (by decide) h) ?_
          show Go p e below _ T9 (mkF m 125 #[.val (.int p1), .val (.int p2), .val (.ref o1), .val (.int (p2 &&& (7 : Int32))), .val (.int (p1 &&& (63 : Int32))), .unset] [])
          exact KK _ _
        · refine Go.st (fun _ h => XS.icmpYes X9.here hx rfl (pc0 := 91) (pc' := 103) rfl (hb hby at_91) rfl ((feq hc16).2) (by decide) (by decide) h) ?_
          show Go p e below _ T9 (mkF m 103 #[.val (.int p1), .val (.int p2), .val (.ref o1), .val (.int (p2 &&& (7 : Int32))), .unset, .unset] [])
          refine Go.st (fun _ h => XS.iloadN X9.here hx rfl (hb hby at_103) rfl h) ?_
          show Go p e below _ T9 (mkF m 104 #[.val (.int p1), .val (.int p2), .val (.ref o1), .val (.int (p2 &&& (7 : Int32))), .unset, .unset] [(.int p2)])
          refine Go.st (fun _ h => XT.iconstV X9.here hx rfl (3 : Int32) (hb hby at_104) (by decide) h) ?_
          show Go p e below _ T9 (mkF m 105 #[.val (.int p1), .val (.int p2), .val (.ref o1), .val (.int (p2 &&& (7 : Int32))), .unset, .unset] [(.int (3 : Int32)), (.int p2)])
          refine Go.st (fun _ h => XT.iushr X9.here hx rfl (hb hby at_105) rfl h) ?_
          show Go p e below _ T9 (mkF m 106 #[.val (.int p1), .val (.int p2), .val (.ref o1), .val (.int (p2 &&& (7 : Int32))), .unset, .unset] [(.int (XT.ushr p2 (3 : Int32)))])
          refine Go.st (fun _ h => XS.aloadN X9.here hx rfl (hb hby at_106) rfl rfl h) ?_
          show Go p e below _ T9 (mkF m 107 #[.val (.int p1), .val (.int p2), .val (.ref o1), .val (.int (p2 &&& (7 : Int32))), .unset, .unset] [(.ref o1), (.int (XT.ushr p2 (3 : Int32)))])
          refine Go.st (own_len X9 hx hZ e9 V9' rfl rfl (hb hby at_107)) ?_
          show Go p e below _ T9 (mkF m 108 #[.val (.int p1), .val (.int p2), .val (.ref o1), .val (.int (p2 &&& (7 : Int32))), .unset, .unset] [(.int (8 : Int32)), (.int (XT.ushr p2 (3 : Int32)))])
          refine Go.st (fun _ h => iremM X9 hx rfl (hb hby at_108) rfl (by decide) h) ?_
          show Go p e below _ T9 (mkF m 109 #[.val (.int p1), .val (.int p2), .val (.ref o1), .val (.int (p2 &&& (7 : Int32))), .unset, .unset] [(.int ((XT.ushr p2 (3 : Int32)) % (8 : Int32)))])
          refine Go.st (fun _ h => XS.istore X9.here hx rfl (hb hby at_109) rfl (l' := #[.val (.int p1), .val (.int p2), .val (.ref o1), .val (.int (p2 &&& (7 : Int32))), .unset, .val (.int ((XT.ushr p2 (3 : Int32)) % (8 : Int32)))]) rfl h) ?_
          show Go p e below _ T9 (mkF m 111 #[.val (.int p1), .val (.int p2), .val (.ref o1), .val (.int (p2 &&& (7 : Int32))), .unset, .val (.int ((XT.ushr p2 (3 : Int32)) % (8 : Int32)))] [])
          obtain ⟨q, h_q⟩ : ∃ z : Int32, z = ((XT.ushr p2 (3 : Int32)) % (8 : Int32)) := ⟨_, rfl⟩
          rw [← h_q]
          show Go p e below _ T9 (mkF m 111 #[.val (.int p1), .val (.int p2), .val (.ref o1), .val (.int (p2 &&& (7 : Int32))), .unset, .val (.int q)] [])
          have hq : 0 ≤ q.toInt ∧ q.toInt < 8 := by rw [h_q]; exact own_mod8 p2
          refine Go.st (fun _ h => XS.aloadN X9.here hx rfl (hb hby at_111) rfl rfl h) ?_
          show Go p e below _ T9 (mkF m 112 #[.val (.int p1), .val (.int p2), .val (.ref o1), .val (.int (p2 &&& (7 : Int32))), .unset, .val (.int q)] [(.ref o1)])
          refine Go.st (fun _ h => XS.iload X9.here hx rfl (hb hby at_112) rfl h) ?_
          show Go p e below _ T9 (mkF m 114 #[.val (.int p1), .val (.int p2), .val (.ref o1), .val (.int (p2 &&& (7 : Int32))), .unset, .val (.int q)] [(.int q), (.ref o1)])
          obtain ⟨w1, hw1⟩ := own_getI (d := (0 : Int32)) q.toNatClampNeg [(.int (0 : Int32)), (.int (10 : Int32)), (.int (32 : Int32)), (.int (55296 : Int32)), (.int (57344 : Int32)), (.int (65536 : Int32)), (.int (1114112 : Int32)), (.int (2147483640 : Int32))] (by simp)
          refine Go.st (own_ldI X9 hx hZ e9 V9' (own_i0 hq.1) (own_i8 hq.2) hw1 rfl rfl (hb hby at_114)) ?_
          show Go p e below _ T9 (mkF m 115 #[.val (.int p1), .val (.int p2), .val (.ref o1), .val (.int (p2 &&& (7 : Int32))), .unset, .val (.int q)] [(.int w1)])
          refine Go.st (fun _ h => XS.iloadN X9.here hx rfl (hb hby at_115) rfl h) ?_
          show Go p e below _ T9 (mkF m 116 #[.val (.int p1), .val (.int p2), .val (.ref o1), .val (.int (p2 &&& (7 : Int32))), .unset, .val (.int q)] [(.int p1), (.int w1)])
          refine Go.st (fun _ h => XT.bipushV X9.here hx rfl (15 : Int32) (hb hby at_116) (by decide) h) ?_
          show Go p e below _ T9 (mkF m 118 #[.val (.int p1), .val (.int p2), .val (.ref o1), .val (.int (p2 &&& (7 : Int32))), .unset, .val (.int q)] [(.int (15 : Int32)), (.int p1), (.int w1)])
          refine Go.st (fun _ h => XS.iand X9.here hx rfl (hb hby at_118) rfl h) ?_
          show Go p e below _ T9 (mkF m 119 #[.val (.int p1), .val (.int p2), .val (.ref o1), .val (.int (p2 &&& (7 : Int32))), .unset, .val (.int q)] [(.int (p1 &&& (15 : Int32))), (.int w1)])
          refine Go.st (fun _ h => XT.bipushV X9.here hx rfl (8 : Int32) (hb hby at_119) (by decide) h) ?_
          show Go p e below _ T9 (mkF m 121 #[.val (.int p1), .val (.int p2), .val (.ref o1), .val (.int (p2 &&& (7 : Int32))), .unset, .val (.int q)] [(.int (8 : Int32)), (.int (p1 &&& (15 : Int32))), (.int w1)])
          refine Go.st (fun _ h => XS.isub X9.here hx rfl (hb hby at_121) rfl h) ?_
          show Go p e below _ T9 (mkF m 122 #[.val (.int p1), .val (.int p2), .val (.ref o1), .val (.int (p2 &&& (7 : Int32))), .unset, .val (.int q)] [(.int ((p1 &&& (15 : Int32)) - (8 : Int32))), (.int w1)])
          refine Go.st (fun _ h => XS.iadd X9.here hx rfl (hb hby at_122) rfl h) ?_
          show Go p e below _ T9 (mkF m 123 #[.val (.int p1), .val (.int p2), .val (.ref o1), .val (.int (p2 &&& (7 : Int32))), .unset, .val (.int q)] [(.int (w1 + ((p1 &&& (15 : Int32)) - (8 : Int32))))])
          refine Go.st (fun _ h => XS.istore X9.here hx rfl (hb hby at_123) rfl (l' := #[.val (.int p1), .val (.int p2), .val (.ref o1), .val (.int (p2 &&& (7 : Int32))), .val (.int (w1 + ((p1 &&& (15 : Int32)) - (8 : Int32)))), .val (.int q)]) rfl h) ?_
          show Go p e below _ T9 (mkF m 125 #[.val (.int p1), .val (.int p2), .val (.ref o1), .val (.int (p2 &&& (7 : Int32))), .val (.int (w1 + ((p1 &&& (15 : Int32)) - (8 : Int32)))), .val (.int q)] [])
          exact KK _ _
set_option maxRecDepth 65536 in
set_option maxHeartbeats 40000000 in
theorem comes_1 {Post : Tables → Env → Array Value → State → Outcome → State → Prop} (hpost : ∀ tb e args s v u, (limb_1_1.after args s (.returned v) u = true ∧ limb_1_2.after args s (.returned v) u = true ∧ True) → FrameEnd s (.returned v) u (Jvm.fieldLocs frame_1_writes args s ++ Jvm.arrayLocs frame_1_arrays args s ++ Jvm.staticLocs frame_1_statics s) 16 128 → Post tb e args s (.returned v) u) :
    ArmFor flags0 classFile x code maxLocals ret World_1 tables_1 room_1 Calls_1 rest_1 Pre_1 Post := by
  intro l hfl _ _ p e ha hc hk s m args below hf hA hF happ hP
  obtain ⟨hcalls, hrest, hpre⟩ := hP
  obtain ⟨-, -, -, hnamed, -, -, -, hat⟩ := (Spec.applies_iff hf).mp happ
  obtain ⟨hg, hn⟩ := and_e (Cond.before_iff.mp (show (Jvm.Cond.and given_1 narrow_1).before args s = true from hpre))
  obtain ⟨g0, hg⟩ := and_e hg
  obtain ⟨g1, hg⟩ := and_e hg
  obtain ⟨w0, w1, rfl⟩ : ∃ w0 w1 : Value, args = #[w0, w1] := by
    have hs : args.size = 2 := by simpa [Cond.value, given_1] using g0
    obtain ⟨L⟩ := args
    match L, hs with
    | [w0, w1], _ => exact ⟨w0, w1, rfl⟩
  have hw := fun d (hd : d ∈ tables_1) => atoms_spec (ws := Jvm.Cond.code x code maxLocals ret :: tables_1) hat d (List.mem_cons_of_mem _ hd)
  have hfit : Fit s := fun {y c} hc i hi => by
    obtain ⟨ha, rfl⟩ := Array.getElem?_eq_some_iff.mp hc
    have q := List.all_eq_true.mp ((Array.all_eq_true_iff_forall_mem.mp hF) _ (Array.getElem_mem ha)) i (List.mem_range.mpr hi)
    simpa [Array.getElem?_eq_getElem hi] using q
  obtain ⟨i0, q0⟩ := is_v g1
  obtain rfl : w0 = (.int i0) := Option.some.inj q0
  obtain ⟨i1, q1⟩ := is_v hg
  obtain rfl : w1 = (.int i1) := Option.some.inj q1
  obtain ⟨n, o, h1, h2, h3, v, L, rfl, hP, hq⟩ := rmLaw l s _ hw i0 i1 s.heap s.heap.size (Nat.le_refl _) p e ha hc hk s m _ below hf ((Spec.applies_iff_loose hf).mp happ).1 ⟨rfl, State.Warmed39.refl s, rfl⟩ trivial
  obtain ⟨rfl, N⟩ := hP
  refine ⟨n, _, h1, h2, h3, hpost _ _ _ _ _ _ ⟨Cond.after_iff.mpr rfl, Cond.after_iff.mpr (eq_i res_at (Term.int_eval (1)) rfl), trivial⟩ ⟨hq.1, hq.2.1, (hq.2.2.sift fun y hy => Or.inr (N y hy)).mono (by decide) (by decide)⟩⟩
theorem main_1_1 : Claimed_1_1 := comes_1 fun _ _ _ _ _ _ h hF => ⟨h.1, hF⟩
theorem main_1_2 : Claimed_1_2 := comes_1 fun _ _ _ _ _ _ h hF => ⟨h.2.1, hF⟩
end Jvm.Pilot.@@N@@
namespace Jvm.Pilot.@@N@@
open Jvm Jvm.ClassFile Sem Op Lib Jvm.Free Jvm.Stand Jvm.Pilot.@@N@@.Jvm.D
/-! MADE BY PROGRAM (witnessworld.py) out of the Statement's table words and the real class files: 9 classes; the members and pool entries that the words name. The judged class is class 1, her method 2. -/
namespace start1
open Jvm.ClassFile
def u (s : String) : CpInfo := .utf8 (stringToUtf16 s)
/-- a pool by its gaps: so many unusable entries, then the entry; so many at the end -/
def gap : Nat → List CpInfo → List CpInfo
  | 0, r => r
  | n + 1, r => .unusable :: gap n r
def poolList (es : List (Nat × CpInfo)) (last : Nat) : List CpInfo := es.foldr (fun e r => gap e.1 (e.2 :: r)) (gap last [])
def pool (es : List (Nat × CpInfo)) (last : Nat) : Array CpInfo := ⟨poolList es last⟩
def fileOf (pool : Array CpInfo) (this : Nat) (attrs : Array Attribute := #[]) (ms : Array MethodInfo := #[]) (fl : Nat := 33) (sup : Nat := 0) (ifs : Array Nat := #[]) (fds : Array FieldInfo := #[]) : ClassFile where
  minorVersion := 0
  majorVersion := 65
  constantPool := pool
  accessFlags := fl
  thisClass := this
  superClass := sup
  interfaces := ifs
  fields := fds
  methods := ms
  attributes := attrs
def plain (name : String) (sup : Option ClassId) : Class where
  name := name
  kind := .ordinary
  loader := none
  accessFlags := 33
  super := sup
  interfaces := #[]
  cf := none
  fields := #[]
  methods := #[]
  instanceTypes := #[]
  staticTypes := #[]
  resolved := #[]
  callSites := []
  init := .initialized
  statics := none
  mirror := none

def pool0 : Array CpInfo := pool [(5, u "<init>"), (0, u "()V"), (1, .class_ 10), (1, u "java/lang/Object")] 113

def k0m0 : Method := { name := "<init>", desc := "()V", sig := { parameters := [], returnType := none }, accessFlags := 1, code := none }
/-- java/lang/Object -/
def k0 : Class := { plain "java/lang/Object" none with
  accessFlags := 33
  interfaces := #[]
  cf := some (fileOf pool0 8 #[] #[{ accessFlags := 1, nameIndex := 5, descriptorIndex := 6, attributes := #[] }] 33 0 #[] #[])
  fields := #[]
  methods := #[k0m0]
  instanceTypes := #[]
  staticTypes := #[]
  resolved := Array.replicate 124 none
  statics := none }

def pool1 : Array CpInfo := pool [(2, .class_ 4), (1, u "java/lang/Object"), (0, u "<init>"), (0, u "()V"), (0, .integer 1114111), (0, .integer 55296), (0, .integer 57343), (0, .integer 65534), (0, .integer 65535), (0, .integer 57344), (0, .integer 65536), (0, .integer 1114112), (0, .integer 2147483640), (0, .integer 2097151), (0, .methodref 18 19), (0, .class_ 20), (0, .nameAndType 21 22), (0, u "com/example/tenon/tenon/core/LexicalForms"), (0, u "isXmlCharacter"), (0, u "(I)Z"), (0, .methodref 24 25), (0, .class_ 26), (0, .nameAndType 27 22), (0, u "com/example/tenon/tenon/core/LexicalFormsIsXmlCharacterPinLaw"), (0, u "forbidden"), (3, u "law"), (0, u "(II)Z")] 4

def k1m0 : Method := { name := "<init>", desc := "()V", sig := { parameters := [], returnType := none }, accessFlags := 2, code := none }
def k1c1 : Code := { maxStack := 2, maxLocals := 1, code := method_2_code, exceptionTable := #[], attributes := #[] }
def k1m1 : Method := { name := "forbidden", desc := "(I)Z", sig := { parameters := [.int], returnType := some .boolean }, accessFlags := 10, code := some k1c1 }
def k1c2 : Code := { maxStack := 4, maxLocals := 6, code := code, exceptionTable := #[], attributes := #[] }
def k1m2 : Method := { name := "law", desc := "(II)Z", sig := { parameters := [.int, .int], returnType := some .boolean }, accessFlags := 9, code := some k1c2 }
/-- com/example/tenon/tenon/core/LexicalFormsIsXmlCharacterPinLaw -/
def k1 : Class := { plain "com/example/tenon/tenon/core/LexicalFormsIsXmlCharacterPinLaw" (some 0) with
  accessFlags := 49
  interfaces := #[]
  cf := some (fileOf pool1 24 #[] #[{ accessFlags := 2, nameIndex := 5, descriptorIndex := 6, attributes := #[] }, { accessFlags := 10, nameIndex := 27, descriptorIndex := 22, attributes := #[] }, { accessFlags := 9, nameIndex := 31, descriptorIndex := 32, attributes := #[] }] 49 2 #[] #[])
  fields := #[]
  methods := #[k1m0, k1m1, k1m2]
  instanceTypes := #[]
  staticTypes := #[]
  resolved := Array.replicate 37 none
  statics := none }

def pool2 : Array CpInfo := pool [(2, .class_ 4), (1, u "java/lang/Object"), (0, u "<init>"), (0, u "()V"), (68, .class_ 77), (1, u "com/example/tenon/tenon/core/LexicalForms"), (31, u "DECIMAL"), (0, u "Ljava/util/regex/Pattern;"), (17, u "SPECIAL_FLOATING"), (0, u "Ljava/util/Map;"), (43, u "DATE_TIME"), (143, u "DATE"), (57, .integer 55295), (0, .integer 57344), (0, .integer 65533), (0, .integer 65536), (0, .integer 1114111), (13, u "INTEGER"), (6, u "FLOATING"), (31, u "isXmlCharacter"), (0, u "(I)Z"), (34, u "DAY"), (0, u "Ljava/lang/String;"), (3, u "TIMEZONE"), (2, u "MAX_OFFSET_SECONDS"), (0, u "I"), (0, u "NANO_DIGITS"), (1, u "MAX_NUMBER_LENGTH")] 69

def k2m0 : Method := { name := "<init>", desc := "()V", sig := { parameters := [], returnType := none }, accessFlags := 2, code := none }
def k2c1 : Code := { maxStack := 2, maxLocals := 1, code := prog_49_method_23_code, exceptionTable := #[], attributes := #[] }
def k2m1 : Method := { name := "isXmlCharacter", desc := "(I)Z", sig := { parameters := [.int], returnType := some .boolean }, accessFlags := 8, code := some k2c1 }
/-- com/example/tenon/tenon/core/LexicalForms -/
def k2 : Class := { plain "com/example/tenon/tenon/core/LexicalForms" (some 0) with
  accessFlags := 48
  interfaces := #[]
  cf := some (fileOf pool2 75 #[] #[{ accessFlags := 2, nameIndex := 5, descriptorIndex := 6, attributes := #[] }, { accessFlags := 8, nameIndex := 432, descriptorIndex := 433, attributes := #[] }] 48 2 #[] #[{ accessFlags := 26, nameIndex := 393, descriptorIndex := 110, attributes := #[] }, { accessFlags := 26, nameIndex := 109, descriptorIndex := 110, attributes := #[] }, { accessFlags := 26, nameIndex := 400, descriptorIndex := 110, attributes := #[] }, { accessFlags := 26, nameIndex := 128, descriptorIndex := 129, attributes := #[] }, { accessFlags := 26, nameIndex := 468, descriptorIndex := 469, attributes := #[] }, { accessFlags := 26, nameIndex := 473, descriptorIndex := 469, attributes := #[] }, { accessFlags := 26, nameIndex := 317, descriptorIndex := 110, attributes := #[] }, { accessFlags := 26, nameIndex := 173, descriptorIndex := 110, attributes := #[] }, { accessFlags := 26, nameIndex := 476, descriptorIndex := 477, attributes := #[] }, { accessFlags := 26, nameIndex := 478, descriptorIndex := 477, attributes := #[] }, { accessFlags := 24, nameIndex := 480, descriptorIndex := 477, attributes := #[] }])
  fields := #[{ name := "INTEGER", type := (.object "java/util/regex/Pattern"), accessFlags := 26, slot := 0, constantValue := 0 }, { name := "DECIMAL", type := (.object "java/util/regex/Pattern"), accessFlags := 26, slot := 1, constantValue := 0 }, { name := "FLOATING", type := (.object "java/util/regex/Pattern"), accessFlags := 26, slot := 2, constantValue := 0 }, { name := "SPECIAL_FLOATING", type := (.object "java/util/Map"), accessFlags := 26, slot := 3, constantValue := 0 }, { name := "DAY", type := (.object "java/lang/String"), accessFlags := 26, slot := 4, constantValue := 0 }, { name := "TIMEZONE", type := (.object "java/lang/String"), accessFlags := 26, slot := 5, constantValue := 0 }, { name := "DATE", type := (.object "java/util/regex/Pattern"), accessFlags := 26, slot := 6, constantValue := 0 }, { name := "DATE_TIME", type := (.object "java/util/regex/Pattern"), accessFlags := 26, slot := 7, constantValue := 0 }, { name := "MAX_OFFSET_SECONDS", type := .int, accessFlags := 26, slot := 8, constantValue := 0 }, { name := "NANO_DIGITS", type := .int, accessFlags := 26, slot := 9, constantValue := 0 }, { name := "MAX_NUMBER_LENGTH", type := .int, accessFlags := 24, slot := 10, constantValue := 0 }]
  methods := #[k2m0, k2m1]
  instanceTypes := #[]
  staticTypes := #[(.object "java/util/regex/Pattern"), (.object "java/util/regex/Pattern"), (.object "java/util/regex/Pattern"), (.object "java/util/Map"), (.object "java/lang/String"), (.object "java/lang/String"), (.object "java/util/regex/Pattern"), (.object "java/util/regex/Pattern"), .int, .int, .int]
  resolved := Array.replicate 550 none
  statics := none }

def pool3 : Array CpInfo := pool [(1, u "java/lang/Cloneable"), (0, .class_ 1), (0, u "java/lang/Object"), (0, .class_ 3)] 3

/-- java/lang/Cloneable -/
def k3 : Class := { plain "java/lang/Cloneable" (some 0) with
  accessFlags := 1537
  interfaces := #[]
  cf := some (fileOf pool3 2 #[] #[] 1537 4 #[] #[])
  fields := #[]
  methods := #[]
  instanceTypes := #[]
  staticTypes := #[]
  resolved := Array.replicate 8 none
  statics := none }

def pool4 : Array CpInfo := pool [(1, u "java/io/Serializable"), (0, .class_ 1), (0, u "java/lang/Object"), (0, .class_ 3)] 3

/-- java/io/Serializable -/
def k4 : Class := { plain "java/io/Serializable" (some 0) with
  accessFlags := 1537
  interfaces := #[]
  cf := some (fileOf pool4 2 #[] #[] 1537 4 #[] #[])
  fields := #[]
  methods := #[]
  instanceTypes := #[]
  staticTypes := #[]
  resolved := Array.replicate 8 none
  statics := none }

/-- the primitive byte -/
def k5 : Class := { plain "byte" none with kind := .primitive 'B', accessFlags := 0x411 }
/-- [B -/
def k6 : Class := { plain "[B" (some 0) with kind := .array 5 .byte, interfaces := #[3, 4], accessFlags := 1041 }

/-- the primitive int -/
def k7 : Class := { plain "int" none with kind := .primitive 'I', accessFlags := 0x411 }
/-- [I -/
def k8 : Class := { plain "[I" (some 0) with kind := .array 7 .int, interfaces := #[3, 4], accessFlags := 1041 }

def heap : Heap := #[]
def classes : Array Class := #[k0, k1, k2, k3, k4, k5, k6, k7, k8]
def interned : List (Array UInt16 × Addr) := []
def slotsUsed : Nat := 0
def theMethod : MethodId := ⟨1, 2⟩
def args0 : Array Value := #[.int 5, .int 6]
def aboutOver (below : List Frame) : State where
  vm := { classes := classes, interned := interned.toArray }
  heap := heap
  slotsUsed := slotsUsed
  threads := #[{ frames := .invoking theMethod args0 :: below }]
def below0 : List Frame := [.native { method := ⟨0, 0⟩, args := #[] }]
def about1 : State := aboutOver below0
def p0 : Program := .bare "" "" ""
def e0 : Env := launch0.env 0 0 0
theorem w_frames : about1.frames = Frame.invoking theMethod args0 :: below0 := rfl
set_option maxRecDepth 65536 in
theorem w_args : argsFit about1.vm theMethod args0 = true := by decide +kernel
set_option maxRecDepth 65536 in
theorem w_heap : heapFits about1 = true := by decide +kernel
set_option maxRecDepth 65536 in
theorem w_runnable : about1.curStatus? = some .runnable := by decide +kernel
set_option maxRecDepth 65536 in
theorem w_alone : about1.alone = true := by decide +kernel
set_option maxRecDepth 65536 in
theorem w_named : about1.methodNamed? x = some theMethod := by decide +kernel
set_option maxRecDepth 65536 in
theorem w_hears : about1.hears theMethod below0 = true := by decide +kernel
set_option maxRecDepth 65536 in
theorem w_ripe : about1.ripe theMethod args0 below0 = true := by decide +kernel
theorem w_running : about1.status = .running := rfl
set_option maxRecDepth 65536 in
theorem w_room : about1.hasRoom e0.platform room_1 = true :=
  launch0.hasRoom_least _ room_1 (by decide +kernel) (by decide +kernel) (by decide +kernel) (by decide +kernel) (by decide +kernel) (by decide +kernel)
theorem allAtoms_all (ts : List Jvm.Cond) (a : Array Jvm.Value) (st : Jvm.State) : (allAtoms ts).before a st = ts.all (fun c => c.before a st) := by
  induction ts with
  | nil => rfl
  | cons c t ih =>
    show (Jvm.Cond.and c (allAtoms t)).before a st = _
    rw [Jvm.Cond.before_and, ih, List.all_cons]
def words1 : List Jvm.Cond := Jvm.Cond.code x code maxLocals ret :: tables_1
/-- a 'code' word, met by the world's own term for the bytes: nothing is compared byte by byte -/
theorem code_word {y : MethodName} {bytes : ByteArray} {mx : Nat} {rt : Option FieldType} {a : Array Value} {s : State} {m : MethodId} {meth : Method} {c : Code} (h1 : s.methodNamed? y = some m) (h2 : s.vm.method? m = some meth) (h3 : meth.code = some c) (h4 : c.code = bytes)
    (h5 : (c.maxLocals == mx && c.exceptionTable.isEmpty && decide (c.maxStack ≤ mostOperands) && decide (meth.sig.returnType = rt) && !meth.locks && decide (parseMethodDescriptor y.desc = some meth.sig)) = true) : (Jvm.Cond.code y bytes mx rt).before a s = true := by
  simp only [Bool.and_eq_true, beq_iff_eq, Bool.not_eq_true', decide_eq_true_eq] at h5
  obtain ⟨⟨⟨⟨⟨g1, g2⟩, g3⟩, g4⟩, g5⟩, g6⟩ := h5
  simp [Cond.before, Cond.holds, Cond.value, h1, h2, h3, h4, g1, g2, g3, g4, g5, g6]
def isCode : Jvm.Cond → Bool
  | .code _ _ _ _ => true
  | _ => false
theorem all_split {L : List Jvm.Cond} {P : Jvm.Cond → Bool} (h1 : L.all (fun c => isCode c || P c) = true) (h2 : ∀ c ∈ L.filter isCode, P c = true) : L.all P = true := by
  refine List.all_eq_true.mpr fun c hc => ?_
  have h := List.all_eq_true.mp h1 c hc
  rcases Bool.eq_false_or_eq_true (isCode c) with hi | hi
  · exact h2 c (List.mem_filter.mpr ⟨hc, hi⟩)
  · simpa [hi] using h
set_option maxRecDepth 65536 in
theorem w_c0 : (Jvm.Cond.code x code maxLocals ret).before args0 about1 = true := code_word (m := ⟨1, 2⟩) (meth := k1m2) (c := k1c2) (by decide +kernel) rfl rfl rfl (by decide +kernel)
set_option maxRecDepth 65536 in
theorem w_c1 : (Jvm.Cond.code ({ cls := "com/example/tenon/tenon/core/LexicalForms", name := "isXmlCharacter", desc := "(I)Z" } : Jvm.MethodName) prog_49_method_23_code (1 : Nat) (Option.some Jvm.ClassFile.FieldType.boolean)).before args0 about1 = true := code_word (m := ⟨2, 1⟩) (meth := k2m1) (c := k2c1) (by decide +kernel) rfl rfl rfl (by decide +kernel)
set_option maxRecDepth 65536 in
theorem w_c2 : (Jvm.Cond.code ({ cls := "com/example/tenon/tenon/core/LexicalFormsIsXmlCharacterPinLaw", name := "forbidden", desc := "(I)Z" } : Jvm.MethodName) method_2_code (1 : Nat) (Option.some Jvm.ClassFile.FieldType.boolean)).before args0 about1 = true := code_word (m := ⟨1, 1⟩) (meth := k1m1) (c := k1c1) (by decide +kernel) rfl rfl rfl (by decide +kernel)
def codes1 : List Jvm.Cond := [Jvm.Cond.code x code maxLocals ret, Jvm.Cond.code ({ cls := "com/example/tenon/tenon/core/LexicalForms", name := "isXmlCharacter", desc := "(I)Z" } : Jvm.MethodName) prog_49_method_23_code (1 : Nat) (Option.some Jvm.ClassFile.FieldType.boolean), Jvm.Cond.code ({ cls := "com/example/tenon/tenon/core/LexicalFormsIsXmlCharacterPinLaw", name := "forbidden", desc := "(I)Z" } : Jvm.MethodName) method_2_code (1 : Nat) (Option.some Jvm.ClassFile.FieldType.boolean)]
set_option maxRecDepth 65536 in
theorem codes_eq : words1.filter isCode = codes1 := rfl
theorem w_codes : ∀ c ∈ words1.filter isCode, c.before args0 about1 = true := by
  rw [codes_eq]
  intro c hc
  simp only [codes1, List.mem_cons, List.not_mem_nil, or_false] at hc
  rcases hc with rfl | rfl | rfl
  · exact w_c0
  · exact w_c1
  · exact w_c2
set_option maxRecDepth 65536 in
theorem w_t1 : (words1.take 24).all (fun c => isCode c || c.before args0 about1) = true := by decide +kernel
set_option maxRecDepth 65536 in
theorem w_t2 : (words1.drop 24).all (fun c => isCode c || c.before args0 about1) = true := by decide +kernel
theorem w_tables : (allAtoms (Jvm.Cond.code x code maxLocals ret :: tables_1)).before args0 about1 = true := by
  rw [allAtoms_all]
  show words1.all (fun c => c.before args0 about1) = true
  refine all_split ?_ w_codes
  rw [← List.take_append_drop 24 words1, List.all_append, w_t1, w_t2]
  rfl
set_option maxRecDepth 65536 in
theorem w_case : (Jvm.Cond.and given_1 narrow_1).before args0 about1 = true := by decide +kernel
theorem w_applies : (headSpec (Jvm.Cond.code x code maxLocals ret :: tables_1) room_1).applies x e0.platform about1 = true :=
  (Spec.applies_iff w_frames).mpr ⟨w_running, w_runnable, w_alone, w_named, w_hears, w_ripe, w_room, w_tables⟩
theorem atStart : AtStart classFile x code maxLocals ret World_1 tables_1 room_1 Calls_1 rest_1 Pre_1 launch0 p0 e0 about1 theMethod args0 below0 :=
  ⟨lists_1, trivial, launch0.admits_env _ _ _, launch0.least_env, fairChoices_fair.cas, fairChoices_fair.clock, w_frames, w_args, w_heap, w_applies, trivial, trivial, w_case⟩
end start1
theorem witness_1 : WitnessClaimed_1 := ⟨start1.p0, start1.e0, start1.about1, start1.theMethod, start1.args0, start1.below0, start1.atStart⟩
end Jvm.Pilot.@@N@@
