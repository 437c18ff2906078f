import JvmDerived
import JvmDerived.Pilot.@@N@@Statement
import JvmDerived.Pilot.@@N@@Code
set_option linter.unusedVariables false
set_option linter.unusedSimpArgs false
namespace Jvm.Pilot.@@N@@
open Jvm Jvm.ClassFile Sem Op Lib Jvm.Free Jvm.Stand Jvm.LawKit Jvm.RoadKit Bundle Jvm.Pilot.@@N@@.Jvm.D
/-! GoKit: a walk told forwards. Go: from this frame on the method comes to its end as Q says; Does: what a call of a method does (over the library's MetFree). -/
section GoKit
variable {p : Program} {l : Launch} {e : Env} {R : Room} {s : State} {m : MethodId} {args : Array Value} {below : List Frame} {meth : Method} {c : Code} {T T' : State} {locs : List Loc} {cells slots : Nat} {Z : State} {a0 : Array Value} {h : Heap} {g g' : JFrame} {Q : Outcome → State → Prop}
def Go (p : Program) (e : Env) (below : List Frame) (Q : Outcome → State → Prop) (T : State) (g : JFrame) : Prop :=
  ∃ s₂ o, Steps p.tables e below (T.setTop g) s₂ ∧ s₂.status = .running ∧ Ended s₂ below o ∧ Q o s₂
theorem Go.st (k : ∀ target, Steps p.tables e below (T'.setTop g') target → Steps p.tables e below (T.setTop g) target) (H : Go p e below Q T' g') : Go p e below Q T g := by
  obtain ⟨s₂, o, h1, r⟩ := H; exact ⟨s₂, o, k _ h1, r⟩
theorem Go.eq (q : g = g') (H : Go p e below Q T g') : Go p e below Q T g := q ▸ H
def Ends (s : State) (k n : Nat) (P : Option Value → Heap → List Loc → Prop) : Outcome → State → Prop :=
  fun o U' => ∃ v L, o = .returned v ∧ P v U'.heap L ∧ FrameEnd s o U' L k n
theorem Go.ret (X : Stand p l e R s m args below meth c T locs cells slots) (hx : p.tables.exec = Jvm.exec) (hlk : meth.locks = false) {pc : Nat} {Ls : Array Slot} {w : Value} {t : FieldType} {i : Instr} {rest : List Value} {P : Option Value → Heap → List Loc → Prop} {k n : Nat}
    (hret : meth.sig.returnType = some t) (hn : narrow t w = w)
    (hi : (i = .ireturn ∧ (t = .int ∨ t = .boolean ∨ t = .byte ∨ t = .char ∨ t = .short) ∧ ∃ z, w = .int z) ∨ (i = .lreturn ∧ t = .long ∧ ∃ z, w = .long z) ∨ (i = .dreturn ∧ t = .double ∧ ∃ z, w = .double z) ∨ (i = .freturn ∧ t = .float ∧ ∃ z, w = .float z) ∨ (i = .areturn ∧ t.isReference = true ∧ w.isRef = true))
    (hd : decode c.code pc = .ok (i, 1)) (hk : cells ≤ k) (hs : slots ≤ n) (hP : P (some w) T.heap locs) : Go p e below (Ends s k n P) T (mkF m pc Ls (w :: rest)) := by
  obtain ⟨fs, hr, hrun, hended, hW, hsame⟩ := X.leave (v := some w) (fun h => by rw [hret] at h; cases h) hlk
  exact ⟨_, _, retOut X hx hret hn hi hd hr, hrun, hended, _, _, rfl, hP, ⟨_, rfl⟩, hW, hsame.mono hk hs⟩
theorem Go.retV (X : Stand p l e R s m args below meth c T locs cells slots) (hx : p.tables.exec = Jvm.exec) (hlk : meth.locks = false) {pc : Nat} {Ls : Array Slot} {P : Option Value → Heap → List Loc → Prop} {k n : Nat}
    (hret : meth.sig.returnType = none) (hd : decode c.code pc = .ok (.return_, 1)) (hk : cells ≤ k) (hs : slots ≤ n) (hP : P none T.heap locs) : Go p e below (Ends s k n P) T (mkF m pc Ls []) := by
  obtain ⟨fs, hr, hrun, hended, hW, hsame⟩ := X.leave (v := none) (fun _ => rfl) hlk
  exact ⟨_, _, X.returnOut hx hret hd hr, hrun, hended, _, _, rfl, hP, ⟨_, rfl⟩, hW, hsame.mono hk hs⟩
theorem Go.retZ (X : Stand p l e R s m args below meth c T locs cells slots) (hx : p.tables.exec = Jvm.exec) (hlk : meth.locks = false) {pc : Nat} {Ls : Array Slot} {z : Int32} {rest : List Value} {P : Option Value → Heap → List Loc → Prop} {k n : Nat}
    (hret : meth.sig.returnType = some .boolean) (hn : narrow .boolean (.int z) = .int z) (hd : decode c.code pc = .ok (.ireturn, 1)) (hk : cells ≤ k) (hs : slots ≤ n) (hP : P (some (.int z)) T.heap locs) : Go p e below (Ends s k n P) T (mkF m pc Ls (.int z :: rest)) :=
  Go.ret X hx hlk hret hn (Or.inl ⟨rfl, Or.inr (Or.inl rfl), z, rfl⟩) hd hk hs hP
theorem Go.retC (X : Stand p l e R s m args below meth c T locs cells slots) (hx : p.tables.exec = Jvm.exec) (hlk : meth.locks = false) {pc : Nat} {Ls : Array Slot} {z : Int32} {rest : List Value} {P : Option Value → Heap → List Loc → Prop} {k n : Nat}
    (hret : meth.sig.returnType = some .char) (hn : narrow .char (.int z) = .int z) (hd : decode c.code pc = .ok (.ireturn, 1)) (hk : cells ≤ k) (hs : slots ≤ n) (hP : P (some (.int z)) T.heap locs) : Go p e below (Ends s k n P) T (mkF m pc Ls (.int z :: rest)) :=
  Go.ret X hx hlk hret hn (Or.inl ⟨rfl, Or.inr (Or.inr (Or.inr (Or.inl rfl))), z, rfl⟩) hd hk hs hP
theorem Go.retI (X : Stand p l e R s m args below meth c T locs cells slots) (hx : p.tables.exec = Jvm.exec) (hlk : meth.locks = false) {pc : Nat} {Ls : Array Slot} {z : Int32} {rest : List Value} {P : Option Value → Heap → List Loc → Prop} {k n : Nat}
    (hret : meth.sig.returnType = some .int) (hd : decode c.code pc = .ok (.ireturn, 1)) (hk : cells ≤ k) (hs : slots ≤ n) (hP : P (some (.int z)) T.heap locs) : Go p e below (Ends s k n P) T (mkF m pc Ls (.int z :: rest)) :=
  Go.ret X hx hlk hret rfl (Or.inl ⟨rfl, Or.inl rfl, z, rfl⟩) hd hk hs hP
theorem Go.retJ (X : Stand p l e R s m args below meth c T locs cells slots) (hx : p.tables.exec = Jvm.exec) (hlk : meth.locks = false) {pc : Nat} {Ls : Array Slot} {z : Int64} {rest : List Value} {P : Option Value → Heap → List Loc → Prop} {k n : Nat}
    (hret : meth.sig.returnType = some .long) (hd : decode c.code pc = .ok (.lreturn, 1)) (hk : cells ≤ k) (hs : slots ≤ n) (hP : P (some (.long z)) T.heap locs) : Go p e below (Ends s k n P) T (mkF m pc Ls (.long z :: rest)) :=
  Go.ret X hx hlk hret rfl (Or.inr (Or.inl ⟨rfl, rfl, z, rfl⟩)) hd hk hs hP
theorem Go.retA (X : Stand p l e R s m args below meth c T locs cells slots) (hx : p.tables.exec = Jvm.exec) (hlk : meth.locks = false) {pc : Nat} {Ls : Array Slot} {w : Value} {t : FieldType} {rest : List Value} {P : Option Value → Heap → List Loc → Prop} {k n : Nat}
    (hret : meth.sig.returnType = some t) (ht : t.isReference = true) (hw : w.isRef = true) (hn : narrow t w = w) (hd : decode c.code pc = .ok (.areturn, 1)) (hk : cells ≤ k) (hs : slots ≤ n) (hP : P (some w) T.heap locs) : Go p e below (Ends s k n P) T (mkF m pc Ls (w :: rest)) :=
  Go.ret X hx hlk hret hn (Or.inr (Or.inr (Or.inr (Or.inr ⟨rfl, ht, hw⟩)))) hd hk hs hP
/-- what a call does: the arguments, the heap before, and P: what it returns, the heap behind, the places written -/
def Does (l : Launch) (Z : State) (y : MethodName) (bytes : ByteArray) (maxL : Nat) (ret : Option FieldType) (ws : List Jvm.Cond) (rm : Room) (as' : Array Value) (h : Heap) (P : Option Value → Heap → List Loc → Prop) : Prop :=
  MetFree l y (head1 (Jvm.Cond.code y bytes maxL ret :: ws) rm) (fun a U => a = as' ∧ Z.Warmed39 U.vm ∧ U.heap = h) (fun _ _ _ _ _ => True) (fun _ U o U' => ∃ v L, o = .returned v ∧ P v U'.heap L ∧ FrameEnd U o U' L rm.cells rm.slots)
theorem Does.intro {y : MethodName} {bytes : ByteArray} {maxL : Nat} {ret : Option FieldType} {ws : List Jvm.Cond} {rm : Room} {as' : Array Value} {P : Option Value → Heap → List Loc → Prop} {Ls : Array Slot} (hpn : plainName y.cls = true) (hef : ∀ m, entryFrame m as' maxL = mkF m 0 Ls [])
    (body : ∀ (p : Program) (e : Env) (s : State) (m : MethodId) (below : List Frame) (meth : Method) (c : Code) (s₁ : State), p.tables.exec = Jvm.exec → c.code = bytes → c.maxLocals = maxL → s.vm.findClass y.cls = some m.cls → meth.name = y.name → meth.sig.returnType = ret → meth.locks = false →
      Z.Warmed39 s.vm → s₁.heap = h → Stand p l e rm s m as' below meth c s₁ [] 0 0 → Go p e below (Ends s rm.cells rm.slots P) s₁ (mkF m 0 Ls [])) : Does l Z y bytes maxL ret ws rm as' h P := by
  refine MetFree.of_bodySF (plainFor_of_name hpn) hisR ?_
  intro p e s m args below meth c s₁ Bd hml0 hP hK
  obtain ⟨rfl, hZ, hh⟩ := hP
  have := body p e s m below meth c s₁ Bd.exec Bd.bytes hml0 (findClass_of_methodNamed Bd.named) (name_of_methodNamed Bd.named Bd.method).1 Bd.returns Bd.notSynchronized hZ (by rw [← hh, Bd.state]; rfl) (Stand.of_body Bd)
  obtain ⟨s₂, o, h1, h2, h3, h4⟩ := this
  exact ⟨s₂, o, castTop (hef m) h1, h2, h3, h4⟩
theorem Does.mono {y : MethodName} {bytes : ByteArray} {maxL : Nat} {ret : Option FieldType} {ws : List Jvm.Cond} {rm : Room} {as' : Array Value} {P P' : Option Value → Heap → List Loc → Prop} (D : Does l Z y bytes maxL ret ws rm as' h P) (q : ∀ v h' L, P v h' L → P' v h' L) : Does l Z y bytes maxL ret ws rm as' h P' := by
  intro p e ha hc hk s m args below hf happ hP hK
  obtain ⟨n, o, h1, h2, h3, v, L, h4, h5, h6⟩ := D p e ha hc hk s m args below hf happ hP hK
  exact ⟨n, o, h1, h2, h3, v, L, h4, q _ _ _ h5, h6⟩
theorem Does.static {y : MethodName} {bytes : ByteArray} {maxL : Nat} {ret : Option FieldType} {rm : Room} {P : Option Value → Heap → List Loc → Prop} {own : String} {index : Nat} {argsL rest : List Value} (D : Does l Z y bytes maxL ret [] rm argsL.toArray h P)
    (X : Stand p l e R s m args below meth c T locs cells slots) (hx : p.tables.exec = Jvm.exec) (hZ : Z.Warmed39 s.vm) (hown : s.vm.findClass own = some m.cls) (eT : T.heap = h) (w1 : (Cond.methodLink own index y).before a0 Z = true) (w2 : (Cond.static y).before a0 Z = true) (w3 : (Cond.initialized y.cls).before a0 Z = true) (w4 : (Cond.code y bytes maxL ret).before a0 Z = true)
    (hy : y.cls ≠ "java/lang/invoke/MethodHandle" ∧ y.cls ≠ "java/lang/invoke/VarHandle") (hg : g.method = m) (hsize : g.locals.size = c.maxLocals) (hlen : ∀ sig, parseMethodDescriptor y.desc = some sig → argsL.length = sig.parameters.length)
    (hstack : g.stack = argsL.reverse ++ rest) (hd : decode c.code g.pc = .ok (.invokestatic index, 3)) {W : Nat} (hW : 2 * g.monitorRoom + (rest.map fun v => v.category).sum ≤ W) (hf : rm.frames + 1 ≤ R.frames) (hl : W + (maxL + 11) + rm.locals ≤ R.locals) (hc : cells + rm.cells ≤ R.cells) (hs : slots + rm.slots ≤ R.slots) :
    ∃ v T' L, Stand p l e R s m args below meth c T' (locs ++ L) (cells + rm.cells) (slots + rm.slots) ∧ P v T'.heap L ∧ ∀ target, Steps p.tables e below (T'.setTop { g with pc := g.pc + 3, stack := v.toList ++ rest }) target → Steps p.tables e below (T.setTop g) target := by
  obtain ⟨v, vm₁, ⟨T', L', k', n'⟩, -, X', ⟨L, hQ, q1, q2, q3⟩, st⟩ := Jvm.LawKit.callS X hx (y := y) hown (mvT hZ w1) (mvT hZ w2) (mvT hZ w3) (mvT hZ w4) hy (backOf (W := W) D hZ w4 w3 hf hl) hg hsize (argsL := argsL) (rest := rest) hlen hstack hW hd (fun _ _ => ⟨rfl, eT, hc, hs⟩)
  dsimp only [Pt.U, Pt.locs, Pt.cells, Pt.slots] at X' q1 q2 q3 st hQ
  subst q1 q2 q3
  exact ⟨v, T', L, X', hQ, st⟩
theorem Does.special {y : MethodName} {bytes : ByteArray} {maxL : Nat} {rm : Room} {P : Option Value → Heap → List Loc → Prop} {own : String} {index : Nat} {a : Addr} {argsL rest : List Value} (D : Does l Z y bytes maxL none [] rm (.ref a :: argsL).toArray h P)
    (X : Stand p l e R s m args below meth c T locs cells slots) (hx : p.tables.exec = Jvm.exec) (hZ : Z.Warmed39 s.vm) (hown : s.vm.findClass own = some m.cls) (eT : T.heap = h) (hnm : y.name = "<init>") (w1 : (Cond.methodLink own index y).before a0 Z = true) (w2 : (Cond.instanceMethod y).before a0 Z = true) (w3 : (Cond.initialized y.cls).before a0 Z = true) (w4 : (Cond.code y bytes maxL none).before a0 Z = true)
    (hy : y.cls ≠ "java/lang/invoke/MethodHandle" ∧ y.cls ≠ "java/lang/invoke/VarHandle") (hg : g.method = m) (hsize : g.locals.size = c.maxLocals) (hlen : ∀ sig, parseMethodDescriptor y.desc = some sig → argsL.length = sig.parameters.length)
    (hstack : g.stack = argsL.reverse ++ .ref a :: rest) (hd : decode c.code g.pc = .ok (.invokespecial index, 3)) {W : Nat} (hW : 2 * g.monitorRoom + (rest.map fun v => v.category).sum ≤ W) (hf : rm.frames + 1 ≤ R.frames) (hl : W + (maxL + 11) + rm.locals ≤ R.locals) (hc : cells + rm.cells ≤ R.cells) (hs : slots + rm.slots ≤ R.slots) :
    ∃ v T' L, Stand p l e R s m args below meth c T' (locs ++ L) (cells + rm.cells) (slots + rm.slots) ∧ P v T'.heap L ∧ ∀ target, Steps p.tables e below (T'.setTop { g with pc := g.pc + 3, stack := v.toList ++ rest }) target → Steps p.tables e below (T.setTop g) target := by
  obtain ⟨v, vm₁, ⟨T', L', k', n'⟩, -, X', ⟨L, hQ, q1, q2, q3⟩, st⟩ := X.specialBack hx (y := y) hnm hown (mvT hZ w1) (mvT hZ w2) (mvT hZ w4) hy (backOf (W := W) D hZ w4 w3 hf hl) hg hsize (Steps.refl _) (a := a) (argsL := argsL) (rest := rest) hlen hstack hW hd (fun _ _ => ⟨rfl, eT, hc, hs⟩)
  dsimp only [Pt.U, Pt.locs, Pt.cells, Pt.slots] at X' q1 q2 q3 st hQ
  subst q1 q2 q3
  exact ⟨v, T', L, X', hQ, fun _ k => st.trans k⟩
theorem Does.virtual {y : MethodName} {bytes : ByteArray} {maxL : Nat} {ret : Option FieldType} {rm : Room} {P : Option Value → Heap → List Loc → Prop} {own C : String} {index : Nat} {a : Addr} {argsL rest : List Value} (D : Does l Z y bytes maxL ret [] rm (.ref a :: argsL).toArray h P)
    (X : Stand p l e R s m args below meth c T locs cells slots) (hx : p.tables.exec = Jvm.exec) (hZ : Z.Warmed39 s.vm) (hown : s.vm.findClass own = some m.cls) (eT : T.heap = h) (E : Exa Z h a C) (w1 : (Cond.methodLink own index y).before a0 Z = true) (w2 : (Cond.declares y).before a0 Z = true) (w2' : (Cond.selects C y y).before a0 Z = true) (w2'' : (Cond.instanceMethod y).before a0 Z = true) (w3 : (Cond.initialized y.cls).before a0 Z = true) (w4 : (Cond.code y bytes maxL ret).before a0 Z = true)
    (hy : y.cls ≠ "java/lang/invoke/MethodHandle" ∧ y.cls ≠ "java/lang/invoke/VarHandle") (hg : g.method = m) (hsize : g.locals.size = c.maxLocals) (hlen : ∀ sig, parseMethodDescriptor y.desc = some sig → argsL.length = sig.parameters.length)
    (hstack : g.stack = argsL.reverse ++ .ref a :: rest) (hd : decode c.code g.pc = .ok (.invokevirtual index, 3)) {W : Nat} (hW : 2 * g.monitorRoom + (rest.map fun v => v.category).sum ≤ W) (hf : rm.frames + 1 ≤ R.frames) (hl : W + (maxL + 11) + rm.locals ≤ R.locals) (hc : cells + rm.cells ≤ R.cells) (hs : slots + rm.slots ≤ R.slots) :
    ∃ v T' L, Stand p l e R s m args below meth c T' (locs ++ L) (cells + rm.cells) (slots + rm.slots) ∧ P v T'.heap L ∧ ∀ target, Steps p.tables e below (T'.setTop { g with pc := g.pc + 3, stack := v.toList ++ rest }) target → Steps p.tables e below (T.setTop g) target := by
  obtain ⟨cB, kB, q1, -, q3⟩ := isOf hZ eT E
  obtain ⟨v, vm₁, ⟨T', L', k', n'⟩, -, X', ⟨L, hQ, q1, q2, q3⟩, st⟩ := X.virtualBack hx (y := y) (z := y) hown (mvT hZ w1) (mvT hZ w2) (notFace_of_selects (args := #[]) (mvT hZ w2')) (mvT hZ w2') (mvT hZ w2'') hy (backOf (W := W) D hZ w4 w3 hf hl) q1 q3 hg hsize (Steps.refl _) (argsL := argsL) (rest := rest) hlen hstack hW hd (fun _ _ => ⟨rfl, eT, hc, hs⟩)
  dsimp only [Pt.U, Pt.locs, Pt.cells, Pt.slots] at X' q1 q2 q3 st hQ
  subst q1 q2 q3
  exact ⟨v, T', L, X', hQ, fun _ k => st.trans k⟩
theorem Does.virtualUp {x' z : MethodName} {owner : String} {bytes : ByteArray} {maxL : Nat} {ret : Option FieldType} {rm : Room} {P : Option Value → Heap → List Loc → Prop} {own C : String} {index : Nat} {a : Addr} {argsL rest : List Value} (D : Does l Z z bytes maxL ret [] rm (.ref a :: argsL).toArray h P)
    (X : Stand p l e R s m args below meth c T locs cells slots) (hx : p.tables.exec = Jvm.exec) (hZ : Z.Warmed39 s.vm) (hown : s.vm.findClass own = some m.cls) (eT : T.heap = h) (E : Exa Z h a C) (w1 : (Cond.methodLink own index x').before a0 Z = true) (w1' : (Cond.sameMethod x'.cls owner x'.name x'.desc).before a0 Z = true) (w2 : (Cond.declares ⟨owner, x'.name, x'.desc⟩).before a0 Z = true) (w2' : (Cond.selects C x' z).before a0 Z = true) (w2'' : (Cond.instanceMethod z).before a0 Z = true) (w3 : (Cond.initialized z.cls).before a0 Z = true) (w4 : (Cond.code z bytes maxL ret).before a0 Z = true)
    (hy : owner ≠ "java/lang/invoke/MethodHandle" ∧ owner ≠ "java/lang/invoke/VarHandle") (hg : g.method = m) (hsize : g.locals.size = c.maxLocals) (hlen : ∀ sig, parseMethodDescriptor x'.desc = some sig → argsL.length = sig.parameters.length)
    (hstack : g.stack = argsL.reverse ++ .ref a :: rest) (hd : decode c.code g.pc = .ok (.invokevirtual index, 3)) {W : Nat} (hW : 2 * g.monitorRoom + (rest.map fun v => v.category).sum ≤ W) (hf : rm.frames + 1 ≤ R.frames) (hl : W + (maxL + 11) + rm.locals ≤ R.locals) (hc : cells + rm.cells ≤ R.cells) (hs : slots + rm.slots ≤ R.slots) :
    ∃ v T' L, Stand p l e R s m args below meth c T' (locs ++ L) (cells + rm.cells) (slots + rm.slots) ∧ P v T'.heap L ∧ ∀ target, Steps p.tables e below (T'.setTop { g with pc := g.pc + 3, stack := v.toList ++ rest }) target → Steps p.tables e below (T.setTop g) target := by
  obtain ⟨cB, kB, q1, -, q3⟩ := isOf hZ eT E
  obtain ⟨v, vm₁, ⟨T', L', k', n'⟩, -, X', ⟨L, hQ, q1, q2, q3⟩, st⟩ := X.virtualBackUp hx (x := x') (y := z) hown (mvT hZ w1) (mvT hZ w1') (mvT hZ w2) hy (mvT hZ w2') (mvT hZ w2'') (backOf (W := W) D hZ w4 w3 hf hl) q1 q3 hg hsize (Steps.refl _) (argsL := argsL) (rest := rest) hlen hstack hW hd (fun _ _ => ⟨rfl, eT, hc, hs⟩)
  dsimp only [Pt.U, Pt.locs, Pt.cells, Pt.slots] at X' q1 q2 q3 st hQ
  subst q1 q2 q3
  exact ⟨v, T', L, X', hQ, fun _ k => st.trans k⟩
/-- a call that leaves the heap as it was and returns w -/
abbrev Val (w : Option Value) (h : Heap) : Option Value → Heap → List Loc → Prop := fun v h' L => v = w ∧ L = [] ∧ h' = h
theorem own_still {w : Option Value} {rm : Room} {rest : List Value} (hc : rm.cells = 0) (hs : rm.slots = 0)
    (H : ∃ v T' L, Stand p l e R s m args below meth c T' (locs ++ L) (cells + rm.cells) (slots + rm.slots) ∧ Val w h v T'.heap L ∧ ∀ target, Steps p.tables e below (T'.setTop { g with pc := g.pc + 3, stack := v.toList ++ rest }) target → Steps p.tables e below (T.setTop g) target) :
    ∃ T', Stand p l e R s m args below meth c T' locs cells slots ∧ T'.heap = h ∧ ∀ target, Steps p.tables e below (T'.setTop { g with pc := g.pc + 3, stack := w.toList ++ rest }) target → Steps p.tables e below (T.setTop g) target := by
  obtain ⟨v, T', L, X', ⟨rfl, rfl, e'⟩, st⟩ := H
  rw [hc, hs, List.append_nil] at X'
  exact ⟨T', X', e', st⟩
theorem own_Llt {x y : Int64} (h : x < y) : XT.cmpL x y < 0 := (lw_lt x y).mpr h
theorem own_Lnlt {x y : Int64} (h : ¬ x < y) : ¬ XT.cmpL x y < 0 := fun q => h ((lw_lt x y).mp q)
theorem own_Lgt {x y : Int64} (h : y < x) : 0 < XT.cmpL x y := (lw_gt x y).mpr h
theorem own_Lngt {x y : Int64} (h : ¬ y < x) : ¬ 0 < XT.cmpL x y := fun q => h ((lw_gt x y).mp q)
theorem own_Leq {x y : Int64} (h : x = y) : XT.cmpL x y = 0 := (lw_eq x y).mpr h
theorem own_Lneq {x y : Int64} (h : ¬ x = y) : ¬ XT.cmpL x y = 0 := fun q => h ((lw_eq x y).mp q)
theorem own_aeq {a b : Addr} (h : a = b) : XT.acmp .eq (.ref a) (.ref b) = true ∧ XT.acmp .ne (.ref a) (.ref b) = false := by subst h; exact ⟨decide_eq_true rfl, decide_eq_false (fun q => q rfl)⟩
theorem own_ane {a b : Addr} (h : ¬ a = b) : XT.acmp .eq (.ref a) (.ref b) = false ∧ XT.acmp .ne (.ref a) (.ref b) = true := ⟨decide_eq_false (fun q => h (by cases q; rfl)), decide_eq_true (fun q => h (by cases q; rfl))⟩
theorem own_ext {h0 h : Heap} (K : Keep h0 h []) : Ext h0 h := ⟨K.1, fun x c q => K.2.1 x c q nin0⟩
end GoKit
theorem own_sta {Z : State} {args : Array Value} {C f d K : String} (h : (Jvm.Cond.exactly (.static C f d) K).value args Z none Z [] = some true) (wi : (Jvm.Cond.initialized C).before args Z = true) (wl : (Jvm.Cond.laysStatic C f d).before args Z = true) :
    ∃ x, (Term.static C f d).eval args Z none [] Z = some (.ref x) ∧ Sta Z Z.heap C f d (.ref x) ∧ Exa Z Z.heap x K := by
  obtain ⟨x, ev⟩ := exa_v h
  exact ⟨x, ev, Sta.start ev (Or.inr ⟨wi, wl⟩), Exa.start ev h⟩
theorem own_fldI {Z : State} {args : Array Value} {t : Term} {O n d : String} {k : Int32} {x : Addr} (ev : t.eval args Z none [] Z = some (.ref x)) (h : (Jvm.Cond.eq (.field t O n d) (.int k)).value args Z none Z [] = some true) : Fld Z Z.heap x O n d (.int k) := by
  obtain ⟨u, v, e1, e2, k1, -⟩ := cmp_v (Or.inl h)
  have e3 : v = .int k := by simpa [Term.eval] using e2.symm
  subst e3
  obtain ⟨z, rfl⟩ : ∃ z, u = .int z := by cases u <;> simp [Kin, Value.isRef] at k1 ⊢
  have q : z = k := gotT (Cond.eq_ints e1 e2) h
  subst q
  exact Fld.start ((fld_at ev).symm.trans e1)
def own_rem (x m : Int64) : Int64 := (x &&& (9223372036854775807 : Int64)) - ((x &&& (9223372036854775807 : Int64)) / (m + (1 : Int64))) * (m + (1 : Int64))
theorem own_mod64 (x y : Int64) : x - (x / y) * y = x % y := by
  apply Int64.toInt_inj.mp
  have h1 := Int64.le_toInt (x % y)
  have h2 := Int64.toInt_lt (x % y)
  rw [Int64.toInt_sub, Int64.toInt_mul, Int64.toInt_div, Int.bmod_mul_bmod, Int.sub_bmod_bmod, Int.mul_comm (x.toInt.tdiv y.toInt), ← Int.tmod_def, ← Int64.toInt_mod]
  exact Int.bmod_eq_of_le_mul_two (by omega) (by omega)
theorem own_succ {m : Int64} (h0 : 0 ≤ m.toInt) (h1 : m.toInt ≤ 100000000) : (m + (1 : Int64)).toInt = m.toInt + 1 := by
  have q : (1 : Int64).toInt = 1 := by decide
  rw [XT.add64 (by rw [q]; constructor <;> omega), q]
theorem own_nz {m : Int64} (h0 : 0 ≤ m.toInt) (h1 : m.toInt ≤ 100000000) : m + (1 : Int64) ≠ 0 := fun q => by
  have := own_succ h0 h1
  rw [q] at this
  have q0 : (0 : Int64).toInt = 0 := by decide
  omega
theorem own_rem_in {x m : Int64} (h0 : 0 ≤ m.toInt) (h1 : m.toInt ≤ 100000000) : 0 ≤ (own_rem x m).toInt ∧ (own_rem x m).toInt ≤ m.toInt := by
  have e1 := own_succ h0 h1
  have n1 : ¬ (x &&& (9223372036854775807 : Int64)) < 0 := by rw [XT.and_neg64]; intro q; exact absurd q.2 (by decide)
  rw [XT.negI64] at n1
  rw [own_rem, own_mod64, Int64.toInt_mod, e1]
  generalize (x &&& (9223372036854775807 : Int64)).toInt = u at *
  rw [Int.tmod_eq_emod_of_nonneg (by omega)]
  have := Int.emod_nonneg u (show m.toInt + 1 ≠ 0 by omega)
  have := Int.emod_lt_of_pos u (show 0 < m.toInt + 1 by omega)
  omega
theorem own_sub {a b : Int64} (h0 : 0 ≤ b.toInt) (h1 : b.toInt ≤ a.toInt) (h2 : a.toInt ≤ 100000000) : (a - b).toInt = a.toInt - b.toInt := XT.sub64 ⟨by omega, by omega⟩
theorem own_nneg {a : Int64} (h : 0 ≤ a.toInt) : ¬ a < (0 : Int64) := by rw [XT.negI64]; omega
theorem d_prog_1_method_1_code_0 : decode prog_1_method_1_code 0 = .ok (.aload_n 0, 1) := by decide +kernel
theorem d_prog_1_method_1_code_1 : decode prog_1_method_1_code 1 = .ok (.invokespecial 1, 3) := by decide +kernel
theorem d_prog_1_method_1_code_4 : decode prog_1_method_1_code 4 = .ok (.aload_n 0, 1) := by decide +kernel
theorem d_prog_1_method_1_code_5 : decode prog_1_method_1_code 5 = .ok (.ldc2_w 9, 3) := by decide +kernel
theorem d_prog_1_method_1_code_8 : decode prog_1_method_1_code 8 = .ok (.putfield 11, 3) := by decide +kernel
theorem d_prog_1_method_1_code_11 : decode prog_1_method_1_code 11 = .ok (.return_, 1) := by decide +kernel
theorem pn_com_example_intended_use_intendeduse_condition_Budget : plainName "com/example/intended_use/intendeduse/condition/Budget" = true := by first | (simp [plainName, overriddenIn]; done) | decide +kernel
theorem d_prog_1_method_2_code_0 : decode prog_1_method_2_code 0 = .ok (.aload_n 0, 1) := by decide +kernel
theorem d_prog_1_method_2_code_1 : decode prog_1_method_2_code 1 = .ok (.dup, 1) := by decide +kernel
theorem d_prog_1_method_2_code_2 : decode prog_1_method_2_code 2 = .ok (.getfield 11, 3) := by decide +kernel
theorem d_prog_1_method_2_code_5 : decode prog_1_method_2_code 5 = .ok (.lload_n 1, 1) := by decide +kernel
theorem d_prog_1_method_2_code_6 : decode prog_1_method_2_code 6 = .ok (.lsub, 1) := by decide +kernel
theorem d_prog_1_method_2_code_7 : decode prog_1_method_2_code 7 = .ok (.putfield 11, 3) := by decide +kernel
theorem d_prog_1_method_2_code_10 : decode prog_1_method_2_code 10 = .ok (.aload_n 0, 1) := by decide +kernel
theorem d_prog_1_method_2_code_11 : decode prog_1_method_2_code 11 = .ok (.getfield 11, 3) := by decide +kernel
theorem d_prog_1_method_2_code_14 : decode prog_1_method_2_code 14 = .ok (.lconst 0, 1) := by decide +kernel
theorem d_prog_1_method_2_code_15 : decode prog_1_method_2_code 15 = .ok (.lcmp, 1) := by decide +kernel
theorem d_prog_1_method_2_code_16 : decode prog_1_method_2_code 16 = .ok (.ifCond .ge 13, 3) := by decide +kernel
theorem d_prog_1_method_2_code_29 : decode prog_1_method_2_code 29 = .ok (.return_, 1) := by decide +kernel
theorem pd_2829V : parseMethodDescriptor "()V" = some ⟨[], none⟩ := by decide +kernel
theorem pd_28J29V : parseMethodDescriptor "(J)V" = some ⟨[.long], none⟩ := by decide +kernel
theorem pn_com_example_intended_use_intendeduse_condition_BudgetSpendPinLaw : plainName "com/example/intended_use/intendeduse/condition/BudgetSpendPinLaw" = true := by first | (simp [plainName, overriddenIn]; done) | decide +kernel
theorem ef_rmInit (x0 : Addr) (m : MethodId) : entryFrame m #[(.ref x0)] 1 = mkF m 0 #[.val (.ref x0)] [] := by first | (simp [entryFrame, mkF, argsToLocals, Value.category]; done) | rfl
set_option maxRecDepth 65536 in
set_option maxHeartbeats 40000000 in
theorem rmInit (l : Launch) (Z : State) (a0 : Array Value) (hw : ∀ d ∈ tables_1, d.before a0 Z = true) (b1 : Addr) (h0 : Heap) (n0 : Nat) (Z0 : n0 ≤ h0.size) (F1 : Fld Z h0 b1 "com/example/intended_use/intendeduse/condition/Budget" "left" "J" (.long (0 : Int64))) (E1 : Exa Z h0 b1 "com/example/intended_use/intendeduse/condition/Budget") (g_b1 : n0 ≤ b1) :
    Does l Z (⟨"com/example/intended_use/intendeduse/condition/Budget", "<init>", "()V"⟩ : MethodName) prog_1_method_1_code 1 none [] ({ frames := 1, cells := 0, slots := 0, locals := 12 } : Room) #[(.ref b1)] h0 (fun v h L => v = none ∧ Fr n0 L ∧ Keep h0 h [b1] ∧ (Fld Z h b1 "com/example/intended_use/intendeduse/condition/Budget" "left" "J" (.long (100000000 : Int64)))) := by
  refine Does.intro pn_com_example_intended_use_intendeduse_condition_Budget (ef_rmInit b1) ?_
  intro p e s m below meth c s₁ hx hby hml hown hnm hret hlk hZ e0 X0
  show Go p e below _ s₁ (mkF m 0 #[.val (.ref b1)] [])
  have N0 := Fr.nil n0
  refine Go.st (fun _ h => XS.aloadN X0.here hx rfl (hb hby d_prog_1_method_1_code_0) rfl rfl h) ?_
  show Go p e below _ s₁ (mkF m 1 #[.val (.ref b1)] [(.ref b1)])
  obtain ⟨T1, X1, e1, st1⟩ := initO X0 hx hZ hown (hw _ (List.mem_of_getElem? (i := 8) rfl)) (hw _ (List.mem_of_getElem? (i := 9) rfl)) (hw _ (List.mem_of_getElem? (i := 10) rfl)) e0 (g := (mkF m 1 #[.val (.ref b1)] [(.ref b1)])) rfl (by rw [hml]; rfl) rfl (hb hby d_prog_1_method_1_code_1) (by decide) (W := 0) (by show 2 * 0 + _ ≤ _; exact Nat.le_of_eq rfl) (by decide)
  refine Go.st st1 ?_
  show Go p e below _ T1 (mkF m 4 #[.val (.ref b1)] [])
  refine Go.st (fun _ h => XS.aloadN X1.here hx rfl (hb hby d_prog_1_method_1_code_4) rfl rfl h) ?_
  show Go p e below _ T1 (mkF m 5 #[.val (.ref b1)] [(.ref b1)])
  refine Go.st (fun _ h => X1.ldc2J hx hown (mvT hZ (hw _ (List.mem_of_getElem? (i := 11) rfl))) rfl (hb hby d_prog_1_method_1_code_5) h) ?_
  show Go p e below _ T1 (mkF m 8 #[.val (.ref b1)] [(.long (100000000 : Int64)), (.ref b1)])
  obtain ⟨T2, h2, X2, e2, W2, st2⟩ := putF X1 hx hZ hown (host := "") (Or.inl (hw _ (List.mem_of_getElem? (i := 12) rfl))) Via.refl e1 F1 E1 (Or.inl (hw _ (List.mem_of_getElem? (i := 13) rfl))) (hw _ (List.mem_of_getElem? (i := 3) rfl)) (ty := .long) (by decide) rfl rfl (g := (mkF m 8 #[.val (.ref b1)] [(.long (100000000 : Int64)), (.ref b1)])) rfl rfl (hb hby d_prog_1_method_1_code_8)
  have N2 := Fr.snoc X2 N0 g_b1
  have E2_0 := E1.wr W2
  have F2_1 := F1.same W2
  have K2 := (Keep.refl _ [b1]).wr W2 (Or.inl (List.mem_of_getElem? (i := 0) rfl))
  refine Go.st st2 ?_
  show Go p e below _ T2 (mkF m 11 #[.val (.ref b1)] [])
  refine Go.retV X2 hx hlk hret (hb hby d_prog_1_method_1_code_11) (by decide) (by decide) ?_
  exact ⟨rfl, N2, by rw [e2]; exact K2, by rw [e2]; exact F2_1⟩
theorem ef_rmSpend (x0 : Addr) (x1 : Int64) (m : MethodId) : entryFrame m #[(.ref x0), (.long x1)] 3 = mkF m 0 #[.val (.ref x0), .val (.long x1), .second] [] := by first | (simp [entryFrame, mkF, argsToLocals, Value.category]; done) | rfl
set_option maxRecDepth 65536 in
set_option maxHeartbeats 40000000 in
theorem rmSpend (l : Launch) (Z : State) (a0 : Array Value) (hw : ∀ d ∈ tables_1, d.before a0 Z = true) (b1 : Addr) (d u : Int64) (h0 : Heap) (n0 : Nat) (Z0 : n0 ≤ h0.size) (F1 : Fld Z h0 b1 "com/example/intended_use/intendeduse/condition/Budget" "left" "J" (.long u)) (E1 : Exa Z h0 b1 "com/example/intended_use/intendeduse/condition/Budget") (g_b1 : n0 ≤ b1) (hge : ¬ (u - d) < (0 : Int64)) :
    Does l Z (⟨"com/example/intended_use/intendeduse/condition/Budget", "spend", "(J)V"⟩ : MethodName) prog_1_method_2_code 3 none [] ({ frames := 0, cells := 0, slots := 0, locals := 0 } : Room) #[(.ref b1), (.long d)] h0 (fun v h L => v = none ∧ Fr n0 L ∧ Keep h0 h [b1] ∧ (Fld Z h b1 "com/example/intended_use/intendeduse/condition/Budget" "left" "J" (.long (u - d)))) := by
  refine Does.intro pn_com_example_intended_use_intendeduse_condition_Budget (ef_rmSpend b1 d) ?_
  intro p e s m below meth c s₁ hx hby hml hown hnm hret hlk hZ e0 X0
  show Go p e below _ s₁ (mkF m 0 #[.val (.ref b1), .val (.long d), .second] [])
  have N0 := Fr.nil n0
  refine Go.st (fun _ h => XS.aloadN X0.here hx rfl (hb hby d_prog_1_method_2_code_0) rfl rfl h) ?_
  show Go p e below _ s₁ (mkF m 1 #[.val (.ref b1), .val (.long d), .second] [(.ref b1)])
  refine Go.st (fun _ h => XS.dup X0.here hx rfl (hb hby d_prog_1_method_2_code_1) rfl rfl h) ?_
  show Go p e below _ s₁ (mkF m 2 #[.val (.ref b1), .val (.long d), .second] [(.ref b1), (.ref b1)])
  obtain ⟨T1, X1, e1, st1⟩ := getF X0 hx hZ hown (host := "") (Or.inl (hw _ (List.mem_of_getElem? (i := 12) rfl))) Via.refl e0 F1 (g := (mkF m 2 #[.val (.ref b1), .val (.long d), .second] [(.ref b1), (.ref b1)])) rfl rfl (hb hby d_prog_1_method_2_code_2)
  refine Go.st st1 ?_
  show Go p e below _ T1 (mkF m 5 #[.val (.ref b1), .val (.long d), .second] [(.long u), (.ref b1)])
  refine Go.st (fun _ h => XT.lloadN X1.here hx rfl (hb hby d_prog_1_method_2_code_5) rfl h) ?_
  show Go p e below _ T1 (mkF m 6 #[.val (.ref b1), .val (.long d), .second] [(.long d), (.long u), (.ref b1)])
  refine Go.st (fun _ h => XT.lsub X1.here hx rfl (hb hby d_prog_1_method_2_code_6) rfl h) ?_
  show Go p e below _ T1 (mkF m 7 #[.val (.ref b1), .val (.long d), .second] [(.long (u - d)), (.ref b1)])
  obtain ⟨T2, h2, X2, e2, W2, st2⟩ := putF X1 hx hZ hown (host := "") (Or.inl (hw _ (List.mem_of_getElem? (i := 12) rfl))) Via.refl e1 F1 E1 (Or.inl (hw _ (List.mem_of_getElem? (i := 13) rfl))) (hw _ (List.mem_of_getElem? (i := 3) rfl)) (ty := .long) (by decide) rfl rfl (g := (mkF m 7 #[.val (.ref b1), .val (.long d), .second] [(.long (u - d)), (.ref b1)])) rfl rfl (hb hby d_prog_1_method_2_code_7)
  have N2 := Fr.snoc X2 N0 g_b1
  have E2_0 := E1.wr W2
  have F2_1 := F1.same W2
  have K2 := (Keep.refl _ [b1]).wr W2 (Or.inl (List.mem_of_getElem? (i := 0) rfl))
  refine Go.st st2 ?_
  show Go p e below _ T2 (mkF m 10 #[.val (.ref b1), .val (.long d), .second] [])
  refine Go.st (fun _ h => XS.aloadN X2.here hx rfl (hb hby d_prog_1_method_2_code_10) rfl rfl h) ?_
  show Go p e below _ T2 (mkF m 11 #[.val (.ref b1), .val (.long d), .second] [(.ref b1)])
  obtain ⟨T3, X3, e3, st3⟩ := getF X2 hx hZ hown (host := "") (Or.inl (hw _ (List.mem_of_getElem? (i := 12) rfl))) Via.refl e2 F2_1 (g := (mkF m 11 #[.val (.ref b1), .val (.long d), .second] [(.ref b1)])) rfl rfl (hb hby d_prog_1_method_2_code_11)
  refine Go.st st3 ?_
  show Go p e below _ T3 (mkF m 14 #[.val (.ref b1), .val (.long d), .second] [(.long (u - d))])
  refine Go.st (fun _ h => XT.lconstV X3.here hx rfl (0 : Int64) (hb hby d_prog_1_method_2_code_14) (by decide) h) ?_
  show Go p e below _ T3 (mkF m 15 #[.val (.ref b1), .val (.long d), .second] [(.long (0 : Int64)), (.long (u - d))])
  refine Go.st (fun _ h => XT.lcmp X3.here hx rfl (hb hby d_prog_1_method_2_code_15) rfl h) ?_
  show Go p e below _ T3 (mkF m 16 #[.val (.ref b1), .val (.long d), .second] [(.int (XT.cmpL (u - d) (0 : Int64)))])
  refine Go.st (fun _ h => XS.ifYes X3.here hx rfl (pc0 := 16) (pc' := 29) rfl (hb hby d_prog_1_method_2_code_16) rfl ((if0 _ _).trans (flt (own_Lnlt (hge : ¬ ((u - d) < (0 : Int64))))).2.1) (by decide) (by decide) h) ?_
  show Go p e below _ T3 (mkF m 29 #[.val (.ref b1), .val (.long d), .second] [])
  refine Go.retV X3 hx hlk hret (hb hby d_prog_1_method_2_code_29) (by decide) (by decide) ?_
  exact ⟨rfl, N2, by rw [e3]; exact K2, by rw [e3]; exact F2_1⟩
theorem ef_rmLaw (x0 : Int64) (x1 : Int64) (x2 : Int64) (x3 : Int32) (m : MethodId) : entryFrame m #[(.long x0), (.long x1), (.long x2), (.int x3)] maxLocals = mkF m 0 #[.val (.long x0), .second, .val (.long x1), .second, .val (.long x2), .second, .val (.int x3), .unset, .unset, .unset, .unset, .unset, .unset, .unset, .unset, .unset, .unset, .unset, .unset, .unset] [] := by first | (simp [entryFrame, mkF, argsToLocals, Value.category, maxLocals]; done) | rfl
set_option maxRecDepth 65536 in
set_option maxHeartbeats 40000000 in
theorem rmLaw (l : Launch) (Z : State) (a0 : Array Value) (hw : ∀ d ∈ tables_1, d.before a0 Z = true) (p1 p2 p3 : Int64) (p4 : Int32) (h0 : Heap) (n0 : Nat) (Z0 : n0 ≤ h0.size) :
    Does l Z x code maxLocals ret tables_1 room_1 #[(.long p1), (.long p2), (.long p3), (.int p4)] h0 (fun v h L => v = some (.int 1) ∧ Fr n0 L) := by
  refine Does.intro pn_com_example_intended_use_intendeduse_condition_BudgetSpendPinLaw (ef_rmLaw p1 p2 p3 p4) ?_
  intro p e s m below meth c s₁ hx hby hml hown hnm hret hlk hZ e0 X0
  show Go p e below _ s₁ (mkF m 0 #[.val (.long p1), .second, .val (.long p2), .second, .val (.long p3), .second, .val (.int p4), .unset, .unset, .unset, .unset, .unset, .unset, .unset, .unset, .unset, .unset, .unset, .unset, .unset] [])
  have N0 := Fr.nil n0
  refine Go.st (fun _ h => X0.ldc2J hx hown (mvT hZ (hw _ (List.mem_of_getElem? (i := 0) rfl))) rfl (hb hby at_0) h) ?_
  show Go p e below _ s₁ (mkF m 3 #[.val (.long p1), .second, .val (.long p2), .second, .val (.long p3), .second, .val (.int p4), .unset, .unset, .unset, .unset, .unset, .unset, .unset, .unset, .unset, .unset, .unset, .unset, .unset] [(.long (100000000 : Int64))])
  refine Go.st (fun _ h => XT.lstore X0.here hx rfl (hb hby at_3) rfl (l' := #[.val (.long p1), .second, .val (.long p2), .second, .val (.long p3), .second, .val (.int p4), .val (.long (100000000 : Int64)), .second, .unset, .unset, .unset, .unset, .unset, .unset, .unset, .unset, .unset, .unset, .unset]) rfl h) ?_
  show Go p e below _ s₁ (mkF m 5 #[.val (.long p1), .second, .val (.long p2), .second, .val (.long p3), .second, .val (.int p4), .val (.long (100000000 : Int64)), .second, .unset, .unset, .unset, .unset, .unset, .unset, .unset, .unset, .unset, .unset, .unset] [])
  refine Go.st (fun _ h => XT.lloadN X0.here hx rfl (hb hby at_5) rfl h) ?_
  show Go p e below _ s₁ (mkF m 6 #[.val (.long p1), .second, .val (.long p2), .second, .val (.long p3), .second, .val (.int p4), .val (.long (100000000 : Int64)), .second, .unset, .unset, .unset, .unset, .unset, .unset, .unset, .unset, .unset, .unset, .unset] [(.long p1)])
  refine Go.st (fun _ h => X0.ldc2J hx hown (mvT hZ (hw _ (List.mem_of_getElem? (i := 1) rfl))) rfl (hb hby at_6) h) ?_
  show Go p e below _ s₁ (mkF m 9 #[.val (.long p1), .second, .val (.long p2), .second, .val (.long p3), .second, .val (.int p4), .val (.long (100000000 : Int64)), .second, .unset, .unset, .unset, .unset, .unset, .unset, .unset, .unset, .unset, .unset, .unset] [(.long (9223372036854775807 : Int64)), (.long p1)])
  refine Go.st (fun _ h => XT.land X0.here hx rfl (hb hby at_9) rfl h) ?_
  show Go p e below _ s₁ (mkF m 10 #[.val (.long p1), .second, .val (.long p2), .second, .val (.long p3), .second, .val (.int p4), .val (.long (100000000 : Int64)), .second, .unset, .unset, .unset, .unset, .unset, .unset, .unset, .unset, .unset, .unset, .unset] [(.long (p1 &&& (9223372036854775807 : Int64)))])
  refine Go.st (fun _ h => XT.lload X0.here hx rfl (hb hby at_10) rfl h) ?_
  show Go p e below _ s₁ (mkF m 12 #[.val (.long p1), .second, .val (.long p2), .second, .val (.long p3), .second, .val (.int p4), .val (.long (100000000 : Int64)), .second, .unset, .unset, .unset, .unset, .unset, .unset, .unset, .unset, .unset, .unset, .unset] [(.long (100000000 : Int64)), (.long (p1 &&& (9223372036854775807 : Int64)))])
  refine Go.st (fun _ h => XT.lconstV X0.here hx rfl (1 : Int64) (hb hby at_12) (by decide) h) ?_
  show Go p e below _ s₁ (mkF m 13 #[.val (.long p1), .second, .val (.long p2), .second, .val (.long p3), .second, .val (.int p4), .val (.long (100000000 : Int64)), .second, .unset, .unset, .unset, .unset, .unset, .unset, .unset, .unset, .unset, .unset, .unset] [(.long (1 : Int64)), (.long (100000000 : Int64)), (.long (p1 &&& (9223372036854775807 : Int64)))])
  refine Go.st (fun _ h => XT.ladd X0.here hx rfl (hb hby at_13) rfl h) ?_
  show Go p e below _ s₁ (mkF m 14 #[.val (.long p1), .second, .val (.long p2), .second, .val (.long p3), .second, .val (.int p4), .val (.long (100000000 : Int64)), .second, .unset, .unset, .unset, .unset, .unset, .unset, .unset, .unset, .unset, .unset, .unset] [(.long ((100000000 : Int64) + (1 : Int64))), (.long (p1 &&& (9223372036854775807 : Int64)))])
  refine Go.st (fun _ h => XT.lrem X0.here hx rfl (hb hby at_14) rfl (by decide) h) ?_
  show Go p e below _ s₁ (mkF m 15 #[.val (.long p1), .second, .val (.long p2), .second, .val (.long p3), .second, .val (.int p4), .val (.long (100000000 : Int64)), .second, .unset, .unset, .unset, .unset, .unset, .unset, .unset, .unset, .unset, .unset, .unset] [(.long ((p1 &&& (9223372036854775807 : Int64)) - ((p1 &&& (9223372036854775807 : Int64)) / ((100000000 : Int64) + (1 : Int64))) * ((100000000 : Int64) + (1 : Int64))))])
  refine Go.st (fun _ h => XT.lstore X0.here hx rfl (hb hby at_15) rfl (l' := #[.val (.long p1), .second, .val (.long p2), .second, .val (.long p3), .second, .val (.int p4), .val (.long (100000000 : Int64)), .second, .val (.long ((p1 &&& (9223372036854775807 : Int64)) - ((p1 &&& (9223372036854775807 : Int64)) / ((100000000 : Int64) + (1 : Int64))) * ((100000000 : Int64) + (1 : Int64)))), .second, .unset, .unset, .unset, .unset, .unset, .unset, .unset, .unset, .unset]) rfl h) ?_
  show Go p e below _ s₁ (mkF m 17 #[.val (.long p1), .second, .val (.long p2), .second, .val (.long p3), .second, .val (.int p4), .val (.long (100000000 : Int64)), .second, .val (.long ((p1 &&& (9223372036854775807 : Int64)) - ((p1 &&& (9223372036854775807 : Int64)) / ((100000000 : Int64) + (1 : Int64))) * ((100000000 : Int64) + (1 : Int64)))), .second, .unset, .unset, .unset, .unset, .unset, .unset, .unset, .unset, .unset] [])
  obtain ⟨z1, h_z1⟩ : ∃ z : Int64, z = own_rem p1 (100000000 : Int64) := ⟨_, rfl⟩
  have i1 : 0 ≤ z1.toInt ∧ z1.toInt ≤ 100000000 := by rw [h_z1]; exact own_rem_in (m := (100000000 : Int64)) (by decide) (by decide)
  rw [show ((p1 &&& (9223372036854775807 : Int64)) - ((p1 &&& (9223372036854775807 : Int64)) / ((100000000 : Int64) + (1 : Int64))) * ((100000000 : Int64) + (1 : Int64))) = z1 from h_z1.symm]
  show Go p e below _ s₁ (mkF m 17 #[.val (.long p1), .second, .val (.long p2), .second, .val (.long p3), .second, .val (.int p4), .val (.long (100000000 : Int64)), .second, .val (.long z1), .second, .unset, .unset, .unset, .unset, .unset, .unset, .unset, .unset, .unset] [])
  have r1 : ((100000000 : Int64) - z1).toInt = 100000000 - z1.toInt := own_sub i1.1 i1.2 (by decide)
  refine Go.st (fun _ h => XT.lload X0.here hx rfl (hb hby at_17) rfl h) ?_
  show Go p e below _ s₁ (mkF m 19 #[.val (.long p1), .second, .val (.long p2), .second, .val (.long p3), .second, .val (.int p4), .val (.long (100000000 : Int64)), .second, .val (.long z1), .second, .unset, .unset, .unset, .unset, .unset, .unset, .unset, .unset, .unset] [(.long (100000000 : Int64))])
  refine Go.st (fun _ h => XT.lload X0.here hx rfl (hb hby at_19) rfl h) ?_
  show Go p e below _ s₁ (mkF m 21 #[.val (.long p1), .second, .val (.long p2), .second, .val (.long p3), .second, .val (.int p4), .val (.long (100000000 : Int64)), .second, .val (.long z1), .second, .unset, .unset, .unset, .unset, .unset, .unset, .unset, .unset, .unset] [(.long z1), (.long (100000000 : Int64))])
  refine Go.st (fun _ h => XT.lsub X0.here hx rfl (hb hby at_21) rfl h) ?_
  show Go p e below _ s₁ (mkF m 22 #[.val (.long p1), .second, .val (.long p2), .second, .val (.long p3), .second, .val (.int p4), .val (.long (100000000 : Int64)), .second, .val (.long z1), .second, .unset, .unset, .unset, .unset, .unset, .unset, .unset, .unset, .unset] [(.long ((100000000 : Int64) - z1))])
  refine Go.st (fun _ h => XT.lstore X0.here hx rfl (hb hby at_22) rfl (l' := #[.val (.long p1), .second, .val (.long p2), .second, .val (.long p3), .second, .val (.int p4), .val (.long (100000000 : Int64)), .second, .val (.long z1), .second, .val (.long ((100000000 : Int64) - z1)), .second, .unset, .unset, .unset, .unset, .unset, .unset, .unset]) rfl h) ?_
  show Go p e below _ s₁ (mkF m 24 #[.val (.long p1), .second, .val (.long p2), .second, .val (.long p3), .second, .val (.int p4), .val (.long (100000000 : Int64)), .second, .val (.long z1), .second, .val (.long ((100000000 : Int64) - z1)), .second, .unset, .unset, .unset, .unset, .unset, .unset, .unset] [])
  refine Go.st (fun _ h => XT.lloadN X0.here hx rfl (hb hby at_24) rfl h) ?_
  show Go p e below _ s₁ (mkF m 25 #[.val (.long p1), .second, .val (.long p2), .second, .val (.long p3), .second, .val (.int p4), .val (.long (100000000 : Int64)), .second, .val (.long z1), .second, .val (.long ((100000000 : Int64) - z1)), .second, .unset, .unset, .unset, .unset, .unset, .unset, .unset] [(.long p2)])
  refine Go.st (fun _ h => X0.ldc2J hx hown (mvT hZ (hw _ (List.mem_of_getElem? (i := 1) rfl))) rfl (hb hby at_25) h) ?_
  show Go p e below _ s₁ (mkF m 28 #[.val (.long p1), .second, .val (.long p2), .second, .val (.long p3), .second, .val (.int p4), .val (.long (100000000 : Int64)), .second, .val (.long z1), .second, .val (.long ((100000000 : Int64) - z1)), .second, .unset, .unset, .unset, .unset, .unset, .unset, .unset] [(.long (9223372036854775807 : Int64)), (.long p2)])
  refine Go.st (fun _ h => XT.land X0.here hx rfl (hb hby at_28) rfl h) ?_
  show Go p e below _ s₁ (mkF m 29 #[.val (.long p1), .second, .val (.long p2), .second, .val (.long p3), .second, .val (.int p4), .val (.long (100000000 : Int64)), .second, .val (.long z1), .second, .val (.long ((100000000 : Int64) - z1)), .second, .unset, .unset, .unset, .unset, .unset, .unset, .unset] [(.long (p2 &&& (9223372036854775807 : Int64)))])
  refine Go.st (fun _ h => XT.lload X0.here hx rfl (hb hby at_29) rfl h) ?_
  show Go p e below _ s₁ (mkF m 31 #[.val (.long p1), .second, .val (.long p2), .second, .val (.long p3), .second, .val (.int p4), .val (.long (100000000 : Int64)), .second, .val (.long z1), .second, .val (.long ((100000000 : Int64) - z1)), .second, .unset, .unset, .unset, .unset, .unset, .unset, .unset] [(.long ((100000000 : Int64) - z1)), (.long (p2 &&& (9223372036854775807 : Int64)))])
  refine Go.st (fun _ h => XT.lconstV X0.here hx rfl (1 : Int64) (hb hby at_31) (by decide) h) ?_
  show Go p e below _ s₁ (mkF m 32 #[.val (.long p1), .second, .val (.long p2), .second, .val (.long p3), .second, .val (.int p4), .val (.long (100000000 : Int64)), .second, .val (.long z1), .second, .val (.long ((100000000 : Int64) - z1)), .second, .unset, .unset, .unset, .unset, .unset, .unset, .unset] [(.long (1 : Int64)), (.long ((100000000 : Int64) - z1)), (.long (p2 &&& (9223372036854775807 : Int64)))])
  refine Go.st (fun _ h => XT.ladd X0.here hx rfl (hb hby at_32) rfl h) ?_
  show Go p e below _ s₁ (mkF m 33 #[.val (.long p1), .second, .val (.long p2), .second, .val (.long p3), .second, .val (.int p4), .val (.long (100000000 : Int64)), .second, .val (.long z1), .second, .val (.long ((100000000 : Int64) - z1)), .second, .unset, .unset, .unset, .unset, .unset, .unset, .unset] [(.long (((100000000 : Int64) - z1) + (1 : Int64))), (.long (p2 &&& (9223372036854775807 : Int64)))])
  refine Go.st (fun _ h => XT.lrem X0.here hx rfl (hb hby at_33) rfl (own_nz (m := (100000000 : Int64) - z1) (by omega) (by omega)) h) ?_
  show Go p e below _ s₁ (mkF m 34 #[.val (.long p1), .second, .val (.long p2), .second, .val (.long p3), .second, .val (.int p4), .val (.long (100000000 : Int64)), .second, .val (.long z1), .second, .val (.long ((100000000 : Int64) - z1)), .second, .unset, .unset, .unset, .unset, .unset, .unset, .unset] [(.long ((p2 &&& (9223372036854775807 : Int64)) - ((p2 &&& (9223372036854775807 : Int64)) / (((100000000 : Int64) - z1) + (1 : Int64))) * (((100000000 : Int64) - z1) + (1 : Int64))))])
  refine Go.st (fun _ h => XT.lstore X0.here hx rfl (hb hby at_34) rfl (l' := #[.val (.long p1), .second, .val (.long p2), .second, .val (.long p3), .second, .val (.int p4), .val (.long (100000000 : Int64)), .second, .val (.long z1), .second, .val (.long ((100000000 : Int64) - z1)), .second, .val (.long ((p2 &&& (9223372036854775807 : Int64)) - ((p2 &&& (9223372036854775807 : Int64)) / (((100000000 : Int64) - z1) + (1 : Int64))) * (((100000000 : Int64) - z1) + (1 : Int64)))), .second, .unset, .unset, .unset, .unset, .unset]) rfl h) ?_
  show Go p e below _ s₁ (mkF m 36 #[.val (.long p1), .second, .val (.long p2), .second, .val (.long p3), .second, .val (.int p4), .val (.long (100000000 : Int64)), .second, .val (.long z1), .second, .val (.long ((100000000 : Int64) - z1)), .second, .val (.long ((p2 &&& (9223372036854775807 : Int64)) - ((p2 &&& (9223372036854775807 : Int64)) / (((100000000 : Int64) - z1) + (1 : Int64))) * (((100000000 : Int64) - z1) + (1 : Int64)))), .second, .unset, .unset, .unset, .unset, .unset] [])
  obtain ⟨z2, h_z2⟩ : ∃ z : Int64, z = own_rem p2 ((100000000 : Int64) - z1) := ⟨_, rfl⟩
  have i2 : 0 ≤ z2.toInt ∧ z2.toInt ≤ ((100000000 : Int64) - z1).toInt := by rw [h_z2]; exact own_rem_in (by omega) (by omega)
  rw [show ((p2 &&& (9223372036854775807 : Int64)) - ((p2 &&& (9223372036854775807 : Int64)) / (((100000000 : Int64) - z1) + (1 : Int64))) * (((100000000 : Int64) - z1) + (1 : Int64))) = z2 from h_z2.symm]
  show Go p e below _ s₁ (mkF m 36 #[.val (.long p1), .second, .val (.long p2), .second, .val (.long p3), .second, .val (.int p4), .val (.long (100000000 : Int64)), .second, .val (.long z1), .second, .val (.long ((100000000 : Int64) - z1)), .second, .val (.long z2), .second, .unset, .unset, .unset, .unset, .unset] [])
  have r2 : (((100000000 : Int64) - z1) - z2).toInt = 100000000 - z1.toInt - z2.toInt := by rw [own_sub i2.1 i2.2 (by omega), r1]
  refine Go.st (fun _ h => XT.lload X0.here hx rfl (hb hby at_36) rfl h) ?_
  show Go p e below _ s₁ (mkF m 38 #[.val (.long p1), .second, .val (.long p2), .second, .val (.long p3), .second, .val (.int p4), .val (.long (100000000 : Int64)), .second, .val (.long z1), .second, .val (.long ((100000000 : Int64) - z1)), .second, .val (.long z2), .second, .unset, .unset, .unset, .unset, .unset] [(.long ((100000000 : Int64) - z1))])
  refine Go.st (fun _ h => XT.lload X0.here hx rfl (hb hby at_38) rfl h) ?_
  show Go p e below _ s₁ (mkF m 40 #[.val (.long p1), .second, .val (.long p2), .second, .val (.long p3), .second, .val (.int p4), .val (.long (100000000 : Int64)), .second, .val (.long z1), .second, .val (.long ((100000000 : Int64) - z1)), .second, .val (.long z2), .second, .unset, .unset, .unset, .unset, .unset] [(.long z2), (.long ((100000000 : Int64) - z1))])
  refine Go.st (fun _ h => XT.lsub X0.here hx rfl (hb hby at_40) rfl h) ?_
  show Go p e below _ s₁ (mkF m 41 #[.val (.long p1), .second, .val (.long p2), .second, .val (.long p3), .second, .val (.int p4), .val (.long (100000000 : Int64)), .second, .val (.long z1), .second, .val (.long ((100000000 : Int64) - z1)), .second, .val (.long z2), .second, .unset, .unset, .unset, .unset, .unset] [(.long (((100000000 : Int64) - z1) - z2))])
  refine Go.st (fun _ h => XT.lstore X0.here hx rfl (hb hby at_41) rfl (l' := #[.val (.long p1), .second, .val (.long p2), .second, .val (.long p3), .second, .val (.int p4), .val (.long (100000000 : Int64)), .second, .val (.long z1), .second, .val (.long ((100000000 : Int64) - z1)), .second, .val (.long z2), .second, .val (.long (((100000000 : Int64) - z1) - z2)), .second, .unset, .unset, .unset]) rfl h) ?_
  show Go p e below _ s₁ (mkF m 43 #[.val (.long p1), .second, .val (.long p2), .second, .val (.long p3), .second, .val (.int p4), .val (.long (100000000 : Int64)), .second, .val (.long z1), .second, .val (.long ((100000000 : Int64) - z1)), .second, .val (.long z2), .second, .val (.long (((100000000 : Int64) - z1) - z2)), .second, .unset, .unset, .unset] [])
  refine Go.st (fun _ h => XS.iload X0.here hx rfl (hb hby at_43) rfl h) ?_
  show Go p e below _ s₁ (mkF m 45 #[.val (.long p1), .second, .val (.long p2), .second, .val (.long p3), .second, .val (.int p4), .val (.long (100000000 : Int64)), .second, .val (.long z1), .second, .val (.long ((100000000 : Int64) - z1)), .second, .val (.long z2), .second, .val (.long (((100000000 : Int64) - z1) - z2)), .second, .unset, .unset, .unset] [(.int p4)])
  refine Go.st (fun _ h => XT.iconstV X0.here hx rfl (1 : Int32) (hb hby at_45) (by decide) h) ?_
  show Go p e below _ s₁ (mkF m 46 #[.val (.long p1), .second, .val (.long p2), .second, .val (.long p3), .second, .val (.int p4), .val (.long (100000000 : Int64)), .second, .val (.long z1), .second, .val (.long ((100000000 : Int64) - z1)), .second, .val (.long z2), .second, .val (.long (((100000000 : Int64) - z1) - z2)), .second, .unset, .unset, .unset] [(.int (1 : Int32)), (.int p4)])
  refine Go.st (fun _ h => XS.iand X0.here hx rfl (hb hby at_46) rfl h) ?_
  show Go p e below _ s₁ (mkF m 47 #[.val (.long p1), .second, .val (.long p2), .second, .val (.long p3), .second, .val (.int p4), .val (.long (100000000 : Int64)), .second, .val (.long z1), .second, .val (.long ((100000000 : Int64) - z1)), .second, .val (.long z2), .second, .val (.long (((100000000 : Int64) - z1) - z2)), .second, .unset, .unset, .unset] [(.int (p4 &&& (1 : Int32)))])
  have KK : ∀ z3 : Int64, 0 ≤ z3.toInt → z3.toInt ≤ (((100000000 : Int64) - z1) - z2).toInt → Go p e below (Ends s room_1.cells room_1.slots (fun v h L => v = some (.int 1) ∧ Fr n0 L)) s₁ (mkF m 66 #[.val (.long p1), .second, .val (.long p2), .second, .val (.long p3), .second, .val (.int p4), .val (.long (100000000 : Int64)), .second, .val (.long z1), .second, .val (.long ((100000000 : Int64) - z1)), .second, .val (.long z2), .second, .val (.long (((100000000 : Int64) - z1) - z2)), .second, .unset, .unset, .unset] [(.long z3)]) := by
    intro z3 i3 j3
    have r3 : ((((100000000 : Int64) - z1) - z2) - z3).toInt = 100000000 - z1.toInt - z2.toInt - z3.toInt := by rw [own_sub i3 j3 (by omega), r2]
    have s1 : (z1 + z2).toInt = z1.toInt + z2.toInt := XT.add64 ⟨by omega, by omega⟩
    have s2 : ((z1 + z2) + z3).toInt = z1.toInt + z2.toInt + z3.toInt := by rw [XT.add64 ⟨by omega, by omega⟩, s1]
    refine Go.st (fun _ h => XT.lstore X0.here hx rfl (hb hby at_66) rfl (l' := #[.val (.long p1), .second, .val (.long p2), .second, .val (.long p3), .second, .val (.int p4), .val (.long (100000000 : Int64)), .second, .val (.long z1), .second, .val (.long ((100000000 : Int64) - z1)), .second, .val (.long z2), .second, .val (.long (((100000000 : Int64) - z1) - z2)), .second, .val (.long z3), .second, .unset]) rfl h) ?_
    show Go p e below _ s₁ (mkF m 68 #[.val (.long p1), .second, .val (.long p2), .second, .val (.long p3), .second, .val (.int p4), .val (.long (100000000 : Int64)), .second, .val (.long z1), .second, .val (.long ((100000000 : Int64) - z1)), .second, .val (.long z2), .second, .val (.long (((100000000 : Int64) - z1) - z2)), .second, .val (.long z3), .second, .unset] [])
    obtain ⟨T1, h1, X1, e1, E1, A1, D1, -, st1⟩ := newO X0 hx hZ hown (hw _ (List.mem_of_getElem? (i := 2) rfl)) (hw _ (List.mem_of_getElem? (i := 3) rfl)) (hw _ (List.mem_of_getElem? (i := 4) rfl)) e0 (g := (mkF m 68 #[.val (.long p1), .second, .val (.long p2), .second, .val (.long p3), .second, .val (.int p4), .val (.long (100000000 : Int64)), .second, .val (.long z1), .second, .val (.long ((100000000 : Int64) - z1)), .second, .val (.long z2), .second, .val (.long (((100000000 : Int64) - z1) - z2)), .second, .val (.long z3), .second, .unset] [])) rfl (hb hby at_68) (by decide) (by decide)
    obtain ⟨o1, g1⟩ : ∃ z, z = h0.size := ⟨_, rfl⟩
    rw [← g1] at A1 D1 st1
    have le_o1 : h0.size ≤ o1 := by rw [g1]; exact (Keep.refl _ []).1
    have K1 := (Keep.refl _ []).ext E1
    have F1_left : Fld Z h1 o1 "com/example/intended_use/intendeduse/condition/Budget" "left" "J" (.long (0 : Int64)) := D1 (Or.inl (hw _ (List.mem_of_getElem? (i := 13) rfl))) (ty := .long) (by decide)
    refine Go.st st1 ?_
    show Go p e below _ T1 (mkF m 71 #[.val (.long p1), .second, .val (.long p2), .second, .val (.long p3), .second, .val (.int p4), .val (.long (100000000 : Int64)), .second, .val (.long z1), .second, .val (.long ((100000000 : Int64) - z1)), .second, .val (.long z2), .second, .val (.long (((100000000 : Int64) - z1) - z2)), .second, .val (.long z3), .second, .unset] [(.ref o1)])
    refine Go.st (fun _ h => XS.dup X1.here hx rfl (hb hby at_71) rfl rfl h) ?_
    show Go p e below _ T1 (mkF m 72 #[.val (.long p1), .second, .val (.long p2), .second, .val (.long p3), .second, .val (.int p4), .val (.long (100000000 : Int64)), .second, .val (.long z1), .second, .val (.long ((100000000 : Int64) - z1)), .second, .val (.long z2), .second, .val (.long (((100000000 : Int64) - z1) - z2)), .second, .val (.long z3), .second, .unset] [(.ref o1), (.ref o1)])
    obtain ⟨_, T2, L2, X2, ⟨rfl, Nc2, Kc2, Fc2⟩, st2⟩ := Does.special (y := (⟨"com/example/intended_use/intendeduse/condition/Budget", "<init>", "()V"⟩ : MethodName)) (g := (mkF m 72 #[.val (.long p1), .second, .val (.long p2), .second, .val (.long p3), .second, .val (.int p4), .val (.long (100000000 : Int64)), .second, .val (.long z1), .second, .val (.long ((100000000 : Int64) - z1)), .second, .val (.long z2), .second, .val (.long (((100000000 : Int64) - z1) - z2)), .second, .val (.long z3), .second, .unset] [(.ref o1), (.ref o1)])) (a := o1) (rmInit l Z a0 hw o1 h1 n0 (Nat.le_trans Z0 K1.1) F1_left A1 (Nat.le_trans Z0 le_o1)) X1 hx hZ hown e1 rfl (hw _ (List.mem_of_getElem? (i := 5) rfl)) (hw _ (List.mem_of_getElem? (i := 6) rfl)) (hw _ (List.mem_of_getElem? (i := 4) rfl)) (hw _ (List.mem_of_getElem? (i := 7) rfl)) (by decide) rfl (by rw [hml]; rfl) (argsL := []) (rest := [(.ref o1)]) (lenOf pd_2829V rfl) rfl (hb hby at_72) (W := 1) (by show 2 * 0 + _ ≤ _; exact Nat.le_of_eq rfl) (by decide) (by decide) (by decide) (by decide)
    have E2_0 := A1.keep Kc2
    have K2 := K1.trans Kc2 (allS (Or.inr le_o1) all0)
    have N2 := Fr.app N0 Nc2
    refine Go.st st2 ?_
    show Go p e below _ T2 (mkF m 75 #[.val (.long p1), .second, .val (.long p2), .second, .val (.long p3), .second, .val (.int p4), .val (.long (100000000 : Int64)), .second, .val (.long z1), .second, .val (.long ((100000000 : Int64) - z1)), .second, .val (.long z2), .second, .val (.long (((100000000 : Int64) - z1) - z2)), .second, .val (.long z3), .second, .unset] [(.ref o1)])
    refine Go.st (fun _ h => XS.astore X2.here hx rfl (hb hby at_75) rfl rfl (l' := #[.val (.long p1), .second, .val (.long p2), .second, .val (.long p3), .second, .val (.int p4), .val (.long (100000000 : Int64)), .second, .val (.long z1), .second, .val (.long ((100000000 : Int64) - z1)), .second, .val (.long z2), .second, .val (.long (((100000000 : Int64) - z1) - z2)), .second, .val (.long z3), .second, .val (.ref o1)]) rfl h) ?_
    show Go p e below _ T2 (mkF m 77 #[.val (.long p1), .second, .val (.long p2), .second, .val (.long p3), .second, .val (.int p4), .val (.long (100000000 : Int64)), .second, .val (.long z1), .second, .val (.long ((100000000 : Int64) - z1)), .second, .val (.long z2), .second, .val (.long (((100000000 : Int64) - z1) - z2)), .second, .val (.long z3), .second, .val (.ref o1)] [])
    refine Go.st (fun _ h => XS.aload X2.here hx rfl (hb hby at_77) rfl rfl h) ?_
    show Go p e below _ T2 (mkF m 79 #[.val (.long p1), .second, .val (.long p2), .second, .val (.long p3), .second, .val (.int p4), .val (.long (100000000 : Int64)), .second, .val (.long z1), .second, .val (.long ((100000000 : Int64) - z1)), .second, .val (.long z2), .second, .val (.long (((100000000 : Int64) - z1) - z2)), .second, .val (.long z3), .second, .val (.ref o1)] [(.ref o1)])
    refine Go.st (fun _ h => XT.lload X2.here hx rfl (hb hby at_79) rfl h) ?_
    show Go p e below _ T2 (mkF m 81 #[.val (.long p1), .second, .val (.long p2), .second, .val (.long p3), .second, .val (.int p4), .val (.long (100000000 : Int64)), .second, .val (.long z1), .second, .val (.long ((100000000 : Int64) - z1)), .second, .val (.long z2), .second, .val (.long (((100000000 : Int64) - z1) - z2)), .second, .val (.long z3), .second, .val (.ref o1)] [(.long z1), (.ref o1)])
    obtain ⟨_, T3, L3, X3, ⟨rfl, Nc3, Kc3, Fc3⟩, st3⟩ := Does.virtual (y := (⟨"com/example/intended_use/intendeduse/condition/Budget", "spend", "(J)V"⟩ : MethodName)) (g := (mkF m 81 #[.val (.long p1), .second, .val (.long p2), .second, .val (.long p3), .second, .val (.int p4), .val (.long (100000000 : Int64)), .second, .val (.long z1), .second, .val (.long ((100000000 : Int64) - z1)), .second, .val (.long z2), .second, .val (.long (((100000000 : Int64) - z1) - z2)), .second, .val (.long z3), .second, .val (.ref o1)] [(.long z1), (.ref o1)])) (a := o1) (rmSpend l Z a0 hw o1 z1 (100000000 : Int64) T2.heap n0 (Nat.le_trans Z0 K2.1) Fc2 E2_0 (Nat.le_trans Z0 le_o1) (own_nneg (by omega))) X2 hx hZ hown rfl E2_0 (hw _ (List.mem_of_getElem? (i := 14) rfl)) (hw _ (List.mem_of_getElem? (i := 15) rfl)) (hw _ (List.mem_of_getElem? (i := 17) rfl)) (hw _ (List.mem_of_getElem? (i := 16) rfl)) (hw _ (List.mem_of_getElem? (i := 4) rfl)) (hw _ (List.mem_of_getElem? (i := 18) rfl)) (by decide) rfl (by rw [hml]; rfl) (argsL := [(.long z1)]) (rest := []) (lenOf pd_28J29V rfl) rfl (hb hby at_81) (W := 0) (by show 2 * 0 + _ ≤ _; exact Nat.le_of_eq rfl) (by decide) (by decide) (by decide) (by decide)
    have E3_0 := E2_0.keep Kc3
    have K3 := K2.trans Kc3 (allS (Or.inr le_o1) all0)
    have N3 := Fr.app N2 Nc3
    refine Go.st st3 ?_
    show Go p e below _ T3 (mkF m 84 #[.val (.long p1), .second, .val (.long p2), .second, .val (.long p3), .second, .val (.int p4), .val (.long (100000000 : Int64)), .second, .val (.long z1), .second, .val (.long ((100000000 : Int64) - z1)), .second, .val (.long z2), .second, .val (.long (((100000000 : Int64) - z1) - z2)), .second, .val (.long z3), .second, .val (.ref o1)] [])
    refine Go.st (fun _ h => XS.aload X3.here hx rfl (hb hby at_84) rfl rfl h) ?_
    show Go p e below _ T3 (mkF m 86 #[.val (.long p1), .second, .val (.long p2), .second, .val (.long p3), .second, .val (.int p4), .val (.long (100000000 : Int64)), .second, .val (.long z1), .second, .val (.long ((100000000 : Int64) - z1)), .second, .val (.long z2), .second, .val (.long (((100000000 : Int64) - z1) - z2)), .second, .val (.long z3), .second, .val (.ref o1)] [(.ref o1)])
    refine Go.st (fun _ h => XT.lload X3.here hx rfl (hb hby at_86) rfl h) ?_
    show Go p e below _ T3 (mkF m 88 #[.val (.long p1), .second, .val (.long p2), .second, .val (.long p3), .second, .val (.int p4), .val (.long (100000000 : Int64)), .second, .val (.long z1), .second, .val (.long ((100000000 : Int64) - z1)), .second, .val (.long z2), .second, .val (.long (((100000000 : Int64) - z1) - z2)), .second, .val (.long z3), .second, .val (.ref o1)] [(.long z2), (.ref o1)])
    obtain ⟨_, T4, L4, X4, ⟨rfl, Nc4, Kc4, Fc4⟩, st4⟩ := Does.virtual (y := (⟨"com/example/intended_use/intendeduse/condition/Budget", "spend", "(J)V"⟩ : MethodName)) (g := (mkF m 88 #[.val (.long p1), .second, .val (.long p2), .second, .val (.long p3), .second, .val (.int p4), .val (.long (100000000 : Int64)), .second, .val (.long z1), .second, .val (.long ((100000000 : Int64) - z1)), .second, .val (.long z2), .second, .val (.long (((100000000 : Int64) - z1) - z2)), .second, .val (.long z3), .second, .val (.ref o1)] [(.long z2), (.ref o1)])) (a := o1) (rmSpend l Z a0 hw o1 z2 ((100000000 : Int64) - z1) T3.heap n0 (Nat.le_trans Z0 K3.1) Fc3 E3_0 (Nat.le_trans Z0 le_o1) (own_nneg (by omega))) X3 hx hZ hown rfl E3_0 (hw _ (List.mem_of_getElem? (i := 14) rfl)) (hw _ (List.mem_of_getElem? (i := 15) rfl)) (hw _ (List.mem_of_getElem? (i := 17) rfl)) (hw _ (List.mem_of_getElem? (i := 16) rfl)) (hw _ (List.mem_of_getElem? (i := 4) rfl)) (hw _ (List.mem_of_getElem? (i := 18) rfl)) (by decide) rfl (by rw [hml]; rfl) (argsL := [(.long z2)]) (rest := []) (lenOf pd_28J29V rfl) rfl (hb hby at_88) (W := 0) (by show 2 * 0 + _ ≤ _; exact Nat.le_of_eq rfl) (by decide) (by decide) (by decide) (by decide)
    have E4_0 := E3_0.keep Kc4
    have K4 := K3.trans Kc4 (allS (Or.inr le_o1) all0)
    have N4 := Fr.app N3 Nc4
    refine Go.st st4 ?_
    show Go p e below _ T4 (mkF m 91 #[.val (.long p1), .second, .val (.long p2), .second, .val (.long p3), .second, .val (.int p4), .val (.long (100000000 : Int64)), .second, .val (.long z1), .second, .val (.long ((100000000 : Int64) - z1)), .second, .val (.long z2), .second, .val (.long (((100000000 : Int64) - z1) - z2)), .second, .val (.long z3), .second, .val (.ref o1)] [])
    refine Go.st (fun _ h => XS.aload X4.here hx rfl (hb hby at_91) rfl rfl h) ?_
    show Go p e below _ T4 (mkF m 93 #[.val (.long p1), .second, .val (.long p2), .second, .val (.long p3), .second, .val (.int p4), .val (.long (100000000 : Int64)), .second, .val (.long z1), .second, .val (.long ((100000000 : Int64) - z1)), .second, .val (.long z2), .second, .val (.long (((100000000 : Int64) - z1) - z2)), .second, .val (.long z3), .second, .val (.ref o1)] [(.ref o1)])
    refine Go.st (fun _ h => XT.lload X4.here hx rfl (hb hby at_93) rfl h) ?_
    show Go p e below _ T4 (mkF m 95 #[.val (.long p1), .second, .val (.long p2), .second, .val (.long p3), .second, .val (.int p4), .val (.long (100000000 : Int64)), .second, .val (.long z1), .second, .val (.long ((100000000 : Int64) - z1)), .second, .val (.long z2), .second, .val (.long (((100000000 : Int64) - z1) - z2)), .second, .val (.long z3), .second, .val (.ref o1)] [(.long z3), (.ref o1)])
    obtain ⟨_, T5, L5, X5, ⟨rfl, Nc5, Kc5, Fc5⟩, st5⟩ := Does.virtual (y := (⟨"com/example/intended_use/intendeduse/condition/Budget", "spend", "(J)V"⟩ : MethodName)) (g := (mkF m 95 #[.val (.long p1), .second, .val (.long p2), .second, .val (.long p3), .second, .val (.int p4), .val (.long (100000000 : Int64)), .second, .val (.long z1), .second, .val (.long ((100000000 : Int64) - z1)), .second, .val (.long z2), .second, .val (.long (((100000000 : Int64) - z1) - z2)), .second, .val (.long z3), .second, .val (.ref o1)] [(.long z3), (.ref o1)])) (a := o1) (rmSpend l Z a0 hw o1 z3 (((100000000 : Int64) - z1) - z2) T4.heap n0 (Nat.le_trans Z0 K4.1) Fc4 E4_0 (Nat.le_trans Z0 le_o1) (own_nneg (by omega))) X4 hx hZ hown rfl E4_0 (hw _ (List.mem_of_getElem? (i := 14) rfl)) (hw _ (List.mem_of_getElem? (i := 15) rfl)) (hw _ (List.mem_of_getElem? (i := 17) rfl)) (hw _ (List.mem_of_getElem? (i := 16) rfl)) (hw _ (List.mem_of_getElem? (i := 4) rfl)) (hw _ (List.mem_of_getElem? (i := 18) rfl)) (by decide) rfl (by rw [hml]; rfl) (argsL := [(.long z3)]) (rest := []) (lenOf pd_28J29V rfl) rfl (hb hby at_95) (W := 0) (by show 2 * 0 + _ ≤ _; exact Nat.le_of_eq rfl) (by decide) (by decide) (by decide) (by decide)
    have E5_0 := E4_0.keep Kc5
    have K5 := K4.trans Kc5 (allS (Or.inr le_o1) all0)
    have N5 := Fr.app N4 Nc5
    refine Go.st st5 ?_
    show Go p e below _ T5 (mkF m 98 #[.val (.long p1), .second, .val (.long p2), .second, .val (.long p3), .second, .val (.int p4), .val (.long (100000000 : Int64)), .second, .val (.long z1), .second, .val (.long ((100000000 : Int64) - z1)), .second, .val (.long z2), .second, .val (.long (((100000000 : Int64) - z1) - z2)), .second, .val (.long z3), .second, .val (.ref o1)] [])
    refine Go.st (fun _ h => XT.lload X5.here hx rfl (hb hby at_98) rfl h) ?_
    show Go p e below _ T5 (mkF m 100 #[.val (.long p1), .second, .val (.long p2), .second, .val (.long p3), .second, .val (.int p4), .val (.long (100000000 : Int64)), .second, .val (.long z1), .second, .val (.long ((100000000 : Int64) - z1)), .second, .val (.long z2), .second, .val (.long (((100000000 : Int64) - z1) - z2)), .second, .val (.long z3), .second, .val (.ref o1)] [(.long z1)])
    refine Go.st (fun _ h => XT.lconstV X5.here hx rfl (0 : Int64) (hb hby at_100) (by decide) h) ?_
    show Go p e below _ T5 (mkF m 101 #[.val (.long p1), .second, .val (.long p2), .second, .val (.long p3), .second, .val (.int p4), .val (.long (100000000 : Int64)), .second, .val (.long z1), .second, .val (.long ((100000000 : Int64) - z1)), .second, .val (.long z2), .second, .val (.long (((100000000 : Int64) - z1) - z2)), .second, .val (.long z3), .second, .val (.ref o1)] [(.long (0 : Int64)), (.long z1)])
    refine Go.st (fun _ h => XT.lcmp X5.here hx rfl (hb hby at_101) rfl h) ?_
    show Go p e below _ T5 (mkF m 102 #[.val (.long p1), .second, .val (.long p2), .second, .val (.long p3), .second, .val (.int p4), .val (.long (100000000 : Int64)), .second, .val (.long z1), .second, .val (.long ((100000000 : Int64) - z1)), .second, .val (.long z2), .second, .val (.long (((100000000 : Int64) - z1) - z2)), .second, .val (.long z3), .second, .val (.ref o1)] [(.int (XT.cmpL z1 (0 : Int64)))])
    refine Go.st (fun _ h => XS.ifNo X5.here hx rfl (hb hby at_102) rfl ((if0 _ _).trans (flt (own_Lnlt (own_nneg (by omega) : ¬ (z1 < (0 : Int64))))).1) h) ?_
    show Go p e below _ T5 (mkF m 105 #[.val (.long p1), .second, .val (.long p2), .second, .val (.long p3), .second, .val (.int p4), .val (.long (100000000 : Int64)), .second, .val (.long z1), .second, .val (.long ((100000000 : Int64) - z1)), .second, .val (.long z2), .second, .val (.long (((100000000 : Int64) - z1) - z2)), .second, .val (.long z3), .second, .val (.ref o1)] [])
    refine Go.st (fun _ h => XT.lload X5.here hx rfl (hb hby at_105) rfl h) ?_
    show Go p e below _ T5 (mkF m 107 #[.val (.long p1), .second, .val (.long p2), .second, .val (.long p3), .second, .val (.int p4), .val (.long (100000000 : Int64)), .second, .val (.long z1), .second, .val (.long ((100000000 : Int64) - z1)), .second, .val (.long z2), .second, .val (.long (((100000000 : Int64) - z1) - z2)), .second, .val (.long z3), .second, .val (.ref o1)] [(.long z2)])
    refine Go.st (fun _ h => XT.lconstV X5.here hx rfl (0 : Int64) (hb hby at_107) (by decide) h) ?_
    show Go p e below _ T5 (mkF m 108 #[.val (.long p1), .second, .val (.long p2), .second, .val (.long p3), .second, .val (.int p4), .val (.long (100000000 : Int64)), .second, .val (.long z1), .second, .val (.long ((100000000 : Int64) - z1)), .second, .val (.long z2), .second, .val (.long (((100000000 : Int64) - z1) - z2)), .second, .val (.long z3), .second, .val (.ref o1)] [(.long (0 : Int64)), (.long z2)])
    refine Go.st (fun _ h => XT.lcmp X5.here hx rfl (hb hby at_108) rfl h) ?_
    show Go p e below _ T5 (mkF m 109 #[.val (.long p1), .second, .val (.long p2), .second, .val (.long p3), .second, .val (.int p4), .val (.long (100000000 : Int64)), .second, .val (.long z1), .second, .val (.long ((100000000 : Int64) - z1)), .second, .val (.long z2), .second, .val (.long (((100000000 : Int64) - z1) - z2)), .second, .val (.long z3), .second, .val (.ref o1)] [(.int (XT.cmpL z2 (0 : Int64)))])
    refine Go.st (fun _ h => XS.ifNo X5.here hx rfl (hb hby at_109) rfl ((if0 _ _).trans (flt (own_Lnlt (own_nneg (by omega) : ¬ (z2 < (0 : Int64))))).1) h) ?_
    show Go p e below _ T5 (mkF m 112 #[.val (.long p1), .second, .val (.long p2), .second, .val (.long p3), .second, .val (.int p4), .val (.long (100000000 : Int64)), .second, .val (.long z1), .second, .val (.long ((100000000 : Int64) - z1)), .second, .val (.long z2), .second, .val (.long (((100000000 : Int64) - z1) - z2)), .second, .val (.long z3), .second, .val (.ref o1)] [])
    refine Go.st (fun _ h => XT.lload X5.here hx rfl (hb hby at_112) rfl h) ?_
    show Go p e below _ T5 (mkF m 114 #[.val (.long p1), .second, .val (.long p2), .second, .val (.long p3), .second, .val (.int p4), .val (.long (100000000 : Int64)), .second, .val (.long z1), .second, .val (.long ((100000000 : Int64) - z1)), .second, .val (.long z2), .second, .val (.long (((100000000 : Int64) - z1) - z2)), .second, .val (.long z3), .second, .val (.ref o1)] [(.long z3)])
    refine Go.st (fun _ h => XT.lconstV X5.here hx rfl (0 : Int64) (hb hby at_114) (by decide) h) ?_
    show Go p e below _ T5 (mkF m 115 #[.val (.long p1), .second, .val (.long p2), .second, .val (.long p3), .second, .val (.int p4), .val (.long (100000000 : Int64)), .second, .val (.long z1), .second, .val (.long ((100000000 : Int64) - z1)), .second, .val (.long z2), .second, .val (.long (((100000000 : Int64) - z1) - z2)), .second, .val (.long z3), .second, .val (.ref o1)] [(.long (0 : Int64)), (.long z3)])
    refine Go.st (fun _ h => XT.lcmp X5.here hx rfl (hb hby at_115) rfl h) ?_
    show Go p e below _ T5 (mkF m 116 #[.val (.long p1), .second, .val (.long p2), .second, .val (.long p3), .second, .val (.int p4), .val (.long (100000000 : Int64)), .second, .val (.long z1), .second, .val (.long ((100000000 : Int64) - z1)), .second, .val (.long z2), .second, .val (.long (((100000000 : Int64) - z1) - z2)), .second, .val (.long z3), .second, .val (.ref o1)] [(.int (XT.cmpL z3 (0 : Int64)))])
    refine Go.st (fun _ h => XS.ifNo X5.here hx rfl (hb hby at_116) rfl ((if0 _ _).trans (flt (own_Lnlt (own_nneg (by omega) : ¬ (z3 < (0 : Int64))))).1) h) ?_
    show Go p e below _ T5 (mkF m 119 #[.val (.long p1), .second, .val (.long p2), .second, .val (.long p3), .second, .val (.int p4), .val (.long (100000000 : Int64)), .second, .val (.long z1), .second, .val (.long ((100000000 : Int64) - z1)), .second, .val (.long z2), .second, .val (.long (((100000000 : Int64) - z1) - z2)), .second, .val (.long z3), .second, .val (.ref o1)] [])
    refine Go.st (fun _ h => XT.lload X5.here hx rfl (hb hby at_119) rfl h) ?_
    show Go p e below _ T5 (mkF m 121 #[.val (.long p1), .second, .val (.long p2), .second, .val (.long p3), .second, .val (.int p4), .val (.long (100000000 : Int64)), .second, .val (.long z1), .second, .val (.long ((100000000 : Int64) - z1)), .second, .val (.long z2), .second, .val (.long (((100000000 : Int64) - z1) - z2)), .second, .val (.long z3), .second, .val (.ref o1)] [(.long z1)])
    refine Go.st (fun _ h => XT.lload X5.here hx rfl (hb hby at_121) rfl h) ?_
    show Go p e below _ T5 (mkF m 123 #[.val (.long p1), .second, .val (.long p2), .second, .val (.long p3), .second, .val (.int p4), .val (.long (100000000 : Int64)), .second, .val (.long z1), .second, .val (.long ((100000000 : Int64) - z1)), .second, .val (.long z2), .second, .val (.long (((100000000 : Int64) - z1) - z2)), .second, .val (.long z3), .second, .val (.ref o1)] [(.long z2), (.long z1)])
    refine Go.st (fun _ h => XT.ladd X5.here hx rfl (hb hby at_123) rfl h) ?_
    show Go p e below _ T5 (mkF m 124 #[.val (.long p1), .second, .val (.long p2), .second, .val (.long p3), .second, .val (.int p4), .val (.long (100000000 : Int64)), .second, .val (.long z1), .second, .val (.long ((100000000 : Int64) - z1)), .second, .val (.long z2), .second, .val (.long (((100000000 : Int64) - z1) - z2)), .second, .val (.long z3), .second, .val (.ref o1)] [(.long (z1 + z2))])
    refine Go.st (fun _ h => XT.lload X5.here hx rfl (hb hby at_124) rfl h) ?_
    show Go p e below _ T5 (mkF m 126 #[.val (.long p1), .second, .val (.long p2), .second, .val (.long p3), .second, .val (.int p4), .val (.long (100000000 : Int64)), .second, .val (.long z1), .second, .val (.long ((100000000 : Int64) - z1)), .second, .val (.long z2), .second, .val (.long (((100000000 : Int64) - z1) - z2)), .second, .val (.long z3), .second, .val (.ref o1)] [(.long z3), (.long (z1 + z2))])
    refine Go.st (fun _ h => XT.ladd X5.here hx rfl (hb hby at_126) rfl h) ?_
    show Go p e below _ T5 (mkF m 127 #[.val (.long p1), .second, .val (.long p2), .second, .val (.long p3), .second, .val (.int p4), .val (.long (100000000 : Int64)), .second, .val (.long z1), .second, .val (.long ((100000000 : Int64) - z1)), .second, .val (.long z2), .second, .val (.long (((100000000 : Int64) - z1) - z2)), .second, .val (.long z3), .second, .val (.ref o1)] [(.long ((z1 + z2) + z3))])
    refine Go.st (fun _ h => XT.lload X5.here hx rfl (hb hby at_127) rfl h) ?_
    show Go p e below _ T5 (mkF m 129 #[.val (.long p1), .second, .val (.long p2), .second, .val (.long p3), .second, .val (.int p4), .val (.long (100000000 : Int64)), .second, .val (.long z1), .second, .val (.long ((100000000 : Int64) - z1)), .second, .val (.long z2), .second, .val (.long (((100000000 : Int64) - z1) - z2)), .second, .val (.long z3), .second, .val (.ref o1)] [(.long (100000000 : Int64)), (.long ((z1 + z2) + z3))])
    refine Go.st (fun _ h => XT.lcmp X5.here hx rfl (hb hby at_129) rfl h) ?_
    show Go p e below _ T5 (mkF m 130 #[.val (.long p1), .second, .val (.long p2), .second, .val (.long p3), .second, .val (.int p4), .val (.long (100000000 : Int64)), .second, .val (.long z1), .second, .val (.long ((100000000 : Int64) - z1)), .second, .val (.long z2), .second, .val (.long (((100000000 : Int64) - z1) - z2)), .second, .val (.long z3), .second, .val (.ref o1)] [(.int (XT.cmpL ((z1 + z2) + z3) (100000000 : Int64)))])
    refine Go.st (fun _ h => XS.ifNo X5.here hx rfl (hb hby at_130) rfl ((if0 _ _).trans (flt (own_Lngt (by rw [Int64.lt_iff_toInt_lt, s2]; show ¬ (100000000 : Int) < _; omega : ¬ ((100000000 : Int64) < ((z1 + z2) + z3))))).2.2.1) h) ?_
    show Go p e below _ T5 (mkF m 133 #[.val (.long p1), .second, .val (.long p2), .second, .val (.long p3), .second, .val (.int p4), .val (.long (100000000 : Int64)), .second, .val (.long z1), .second, .val (.long ((100000000 : Int64) - z1)), .second, .val (.long z2), .second, .val (.long (((100000000 : Int64) - z1) - z2)), .second, .val (.long z3), .second, .val (.ref o1)] [])
    refine Go.st (fun _ h => XT.iconstV X5.here hx rfl (1 : Int32) (hb hby at_133) (by decide) h) ?_
    show Go p e below _ T5 (mkF m 134 #[.val (.long p1), .second, .val (.long p2), .second, .val (.long p3), .second, .val (.int p4), .val (.long (100000000 : Int64)), .second, .val (.long z1), .second, .val (.long ((100000000 : Int64) - z1)), .second, .val (.long z2), .second, .val (.long (((100000000 : Int64) - z1) - z2)), .second, .val (.long z3), .second, .val (.ref o1)] [(.int (1 : Int32))])
    refine Go.st (fun _ h => XS.goto X5.here hx rfl (pc0 := 134) (pc' := 138) rfl (hb hby at_134) (by decide) (by decide) h) ?_
    show Go p e below _ T5 (mkF m 138 #[.val (.long p1), .second, .val (.long p2), .second, .val (.long p3), .second, .val (.int p4), .val (.long (100000000 : Int64)), .second, .val (.long z1), .second, .val (.long ((100000000 : Int64) - z1)), .second, .val (.long z2), .second, .val (.long (((100000000 : Int64) - z1) - z2)), .second, .val (.long z3), .second, .val (.ref o1)] [(.int (1 : Int32))])
    refine Go.retZ X5 hx hlk hret rfl (hb hby at_138) (by decide) (by decide) ?_
    exact ⟨rfl, N5⟩
  by_cases hc6 : (p4 &&& (1 : Int32)) = (0 : Int32)
  · refine Go.st (fun _ h => XS.ifYes X0.here hx rfl (pc0 := 47) (pc' := 55) rfl (hb hby at_47) rfl ((if0 _ _).trans (teq hc6).1) (by decide) (by decide) h) ?_
    show Go p e below _ s₁ (mkF m 55 #[.val (.long p1), .second, .val (.long p2), .second, .val (.long p3), .second, .val (.int p4), .val (.long (100000000 : Int64)), .second, .val (.long z1), .second, .val (.long ((100000000 : Int64) - z1)), .second, .val (.long z2), .second, .val (.long (((100000000 : Int64) - z1) - z2)), .second, .unset, .unset, .unset] [])
    refine Go.st (fun _ h => XT.lload X0.here hx rfl (hb hby at_55) rfl h) ?_
    show Go p e below _ s₁ (mkF m 57 #[.val (.long p1), .second, .val (.long p2), .second, .val (.long p3), .second, .val (.int p4), .val (.long (100000000 : Int64)), .second, .val (.long z1), .second, .val (.long ((100000000 : Int64) - z1)), .second, .val (.long z2), .second, .val (.long (((100000000 : Int64) - z1) - z2)), .second, .unset, .unset, .unset] [(.long p3)])
    refine Go.st (fun _ h => X0.ldc2J hx hown (mvT hZ (hw _ (List.mem_of_getElem? (i := 1) rfl))) rfl (hb hby at_57) h) ?_
    show Go p e below _ s₁ (mkF m 60 #[.val (.long p1), .second, .val (.long p2), .second, .val (.long p3), .second, .val (.int p4), .val (.long (100000000 : Int64)), .second, .val (.long z1), .second, .val (.long ((100000000 : Int64) - z1)), .second, .val (.long z2), .second, .val (.long (((100000000 : Int64) - z1) - z2)), .second, .unset, .unset, .unset] [(.long (9223372036854775807 : Int64)), (.long p3)])
    refine Go.st (fun _ h => XT.land X0.here hx rfl (hb hby at_60) rfl h) ?_
    show Go p e below _ s₁ (mkF m 61 #[.val (.long p1), .second, .val (.long p2), .second, .val (.long p3), .second, .val (.int p4), .val (.long (100000000 : Int64)), .second, .val (.long z1), .second, .val (.long ((100000000 : Int64) - z1)), .second, .val (.long z2), .second, .val (.long (((100000000 : Int64) - z1) - z2)), .second, .unset, .unset, .unset] [(.long (p3 &&& (9223372036854775807 : Int64)))])
    refine Go.st (fun _ h => XT.lload X0.here hx rfl (hb hby at_61) rfl h) ?_
    show Go p e below _ s₁ (mkF m 63 #[.val (.long p1), .second, .val (.long p2), .second, .val (.long p3), .second, .val (.int p4), .val (.long (100000000 : Int64)), .second, .val (.long z1), .second, .val (.long ((100000000 : Int64) - z1)), .second, .val (.long z2), .second, .val (.long (((100000000 : Int64) - z1) - z2)), .second, .unset, .unset, .unset] [(.long (((100000000 : Int64) - z1) - z2)), (.long (p3 &&& (9223372036854775807 : Int64)))])
    refine Go.st (fun _ h => XT.lconstV X0.here hx rfl (1 : Int64) (hb hby at_63) (by decide) h) ?_
    show Go p e below _ s₁ (mkF m 64 #[.val (.long p1), .second, .val (.long p2), .second, .val (.long p3), .second, .val (.int p4), .val (.long (100000000 : Int64)), .second, .val (.long z1), .second, .val (.long ((100000000 : Int64) - z1)), .second, .val (.long z2), .second, .val (.long (((100000000 : Int64) - z1) - z2)), .second, .unset, .unset, .unset] [(.long (1 : Int64)), (.long (((100000000 : Int64) - z1) - z2)), (.long (p3 &&& (9223372036854775807 : Int64)))])
    refine Go.st (fun _ h => XT.ladd X0.here hx rfl (hb hby at_64) rfl h) ?_
    show Go p e below _ s₁ (mkF m 65 #[.val (.long p1), .second, .val (.long p2), .second, .val (.long p3), .second, .val (.int p4), .val (.long (100000000 : Int64)), .second, .val (.long z1), .second, .val (.long ((100000000 : Int64) - z1)), .second, .val (.long z2), .second, .val (.long (((100000000 : Int64) - z1) - z2)), .second, .unset, .unset, .unset] [(.long ((((100000000 : Int64) - z1) - z2) + (1 : Int64))), (.long (p3 &&& (9223372036854775807 : Int64)))])
    refine Go.st (fun _ h => XT.lrem X0.here hx rfl (hb hby at_65) rfl (own_nz (m := ((100000000 : Int64) - z1) - z2) (by omega) (by omega)) h) ?_
    show Go p e below _ s₁ (mkF m 66 #[.val (.long p1), .second, .val (.long p2), .second, .val (.long p3), .second, .val (.int p4), .val (.long (100000000 : Int64)), .second, .val (.long z1), .second, .val (.long ((100000000 : Int64) - z1)), .second, .val (.long z2), .second, .val (.long (((100000000 : Int64) - z1) - z2)), .second, .unset, .unset, .unset] [(.long ((p3 &&& (9223372036854775807 : Int64)) - ((p3 &&& (9223372036854775807 : Int64)) / ((((100000000 : Int64) - z1) - z2) + (1 : Int64))) * ((((100000000 : Int64) - z1) - z2) + (1 : Int64))))])
    exact KK _ (own_rem_in (x := p3) (by omega) (by omega)).1 (own_rem_in (x := p3) (by omega) (by omega)).2
  · refine Go.st (fun _ h => XS.ifNo X0.here hx rfl (hb hby at_47) rfl ((if0 _ _).trans (feq hc6).1) h) ?_
    show Go p e below _ s₁ (mkF m 50 #[.val (.long p1), .second, .val (.long p2), .second, .val (.long p3), .second, .val (.int p4), .val (.long (100000000 : Int64)), .second, .val (.long z1), .second, .val (.long ((100000000 : Int64) - z1)), .second, .val (.long z2), .second, .val (.long (((100000000 : Int64) - z1) - z2)), .second, .unset, .unset, .unset] [])
    refine Go.st (fun _ h => XT.lload X0.here hx rfl (hb hby at_50) rfl h) ?_
    show Go p e below _ s₁ (mkF m 52 #[.val (.long p1), .second, .val (.long p2), .second, .val (.long p3), .second, .val (.int p4), .val (.long (100000000 : Int64)), .second, .val (.long z1), .second, .val (.long ((100000000 : Int64) - z1)), .second, .val (.long z2), .second, .val (.long (((100000000 : Int64) - z1) - z2)), .second, .unset, .unset, .unset] [(.long (((100000000 : Int64) - z1) - z2))])
    refine Go.st (fun _ h => XS.goto X0.here hx rfl (pc0 := 52) (pc' := 66) rfl (hb hby at_52) (by decide) (by decide) h) ?_
    show Go p e below _ s₁ (mkF m 66 #[.val (.long p1), .second, .val (.long p2), .second, .val (.long p3), .second, .val (.int p4), .val (.long (100000000 : Int64)), .second, .val (.long z1), .second, .val (.long ((100000000 : Int64) - z1)), .second, .val (.long z2), .second, .val (.long (((100000000 : Int64) - z1) - z2)), .second, .unset, .unset, .unset] [(.long (((100000000 : Int64) - z1) - z2))])
    exact KK _ (by omega) (by omega)
set_option maxRecDepth 65536 in
set_option maxHeartbeats 40000000 in
theorem comes_1 {Post : Tables → Env → Array Value → State → Outcome → State → Prop} (hpost : ∀ tb e args s v u, (limb_1_1.after args s (.returned v) u = true ∧ limb_1_2.after args s (.returned v) u = true ∧ True) → FrameEnd s (.returned v) u (Jvm.fieldLocs frame_1_writes args s ++ Jvm.arrayLocs frame_1_arrays args s ++ Jvm.staticLocs frame_1_statics s) 16 128 → Post tb e args s (.returned v) u) :
    ArmFor flags0 classFile x code maxLocals ret World_1 tables_1 room_1 Calls_1 rest_1 Pre_1 Post := by
  intro l hfl _ _ p e ha hc hk s m args below hf hA hF happ hP
  obtain ⟨hcalls, hrest, hpre⟩ := hP
  obtain ⟨-, -, -, hnamed, -, -, -, hat⟩ := (Spec.applies_iff hf).mp happ
  obtain ⟨hg, hn⟩ := and_e (Cond.before_iff.mp (show (Jvm.Cond.and given_1 narrow_1).before args s = true from hpre))
  obtain ⟨g0, hg⟩ := and_e hg
  obtain ⟨g1, hg⟩ := and_e hg
  obtain ⟨g2, hg⟩ := and_e hg
  obtain ⟨g3, hg⟩ := and_e hg
  obtain ⟨w0, w1, w2, w3, rfl⟩ : ∃ w0 w1 w2 w3 : Value, args = #[w0, w1, w2, w3] := by
    have hs : args.size = 4 := by simpa [Cond.value, given_1] using g0
    obtain ⟨L⟩ := args
    match L, hs with
    | [w0, w1, w2, w3], _ => exact ⟨w0, w1, w2, w3, rfl⟩
  have hw := fun d (hd : d ∈ tables_1) => atoms_spec (ws := Jvm.Cond.code x code maxLocals ret :: tables_1) hat d (List.mem_cons_of_mem _ hd)
  have hfit : Fit s := fun {y c} hc i hi => by
    obtain ⟨ha, rfl⟩ := Array.getElem?_eq_some_iff.mp hc
    have q := List.all_eq_true.mp ((Array.all_eq_true_iff_forall_mem.mp hF) _ (Array.getElem_mem ha)) i (List.mem_range.mpr hi)
    simpa [Array.getElem?_eq_getElem hi] using q
  obtain ⟨i0, q0⟩ := isL_v g1
  obtain rfl : w0 = (.long i0) := Option.some.inj q0
  obtain ⟨i1, q1⟩ := isL_v g2
  obtain rfl : w1 = (.long i1) := Option.some.inj q1
  obtain ⟨i2, q2⟩ := isL_v g3
  obtain rfl : w2 = (.long i2) := Option.some.inj q2
  obtain ⟨i3, q3⟩ := is_v hg
  obtain rfl : w3 = (.int i3) := Option.some.inj q3
  obtain ⟨n, o, h1, h2, h3, v, L, rfl, hP, hq⟩ := rmLaw l s _ hw i0 i1 i2 i3 s.heap s.heap.size (Nat.le_refl _) p e ha hc hk s m _ below hf ((Spec.applies_iff_loose hf).mp happ).1 ⟨rfl, State.Warmed39.refl s, rfl⟩ trivial
  obtain ⟨rfl, N⟩ := hP
  refine ⟨n, _, h1, h2, h3, hpost _ _ _ _ _ _ ⟨Cond.after_iff.mpr rfl, Cond.after_iff.mpr (eq_i res_at (Term.int_eval (1)) rfl), trivial⟩ ⟨hq.1, hq.2.1, (hq.2.2.sift fun y hy => Or.inr (N y hy)).mono (by decide) (by decide)⟩⟩
theorem main_1_1 : Claimed_1_1 := comes_1 fun _ _ _ _ _ _ h hF => ⟨h.1, hF⟩
theorem main_1_2 : Claimed_1_2 := comes_1 fun _ _ _ _ _ _ h hF => ⟨h.2.1, hF⟩
end Jvm.Pilot.@@N@@
namespace Jvm.Pilot.@@N@@
open Jvm Jvm.ClassFile Sem Op Lib Jvm.Free Jvm.Stand Jvm.Pilot.@@N@@.Jvm.D
/-! MADE BY PROGRAM (witnessworld.py) out of the Statement's table words and the real class files: 9 classes; the members and pool entries that the words name. The judged class is class 1, her method 1. -/
namespace start1
open Jvm.ClassFile
def u (s : String) : CpInfo := .utf8 (stringToUtf16 s)
/-- a pool by its gaps: so many unusable entries, then the entry; so many at the end -/
def gap : Nat → List CpInfo → List CpInfo
  | 0, r => r
  | n + 1, r => .unusable :: gap n r
def poolList (es : List (Nat × CpInfo)) (last : Nat) : List CpInfo := es.foldr (fun e r => gap e.1 (e.2 :: r)) (gap last [])
def pool (es : List (Nat × CpInfo)) (last : Nat) : Array CpInfo := ⟨poolList es last⟩
def fileOf (pool : Array CpInfo) (this : Nat) (attrs : Array Attribute := #[]) (ms : Array MethodInfo := #[]) (fl : Nat := 33) (sup : Nat := 0) (ifs : Array Nat := #[]) (fds : Array FieldInfo := #[]) : ClassFile where
  minorVersion := 0
  majorVersion := 65
  constantPool := pool
  accessFlags := fl
  thisClass := this
  superClass := sup
  interfaces := ifs
  fields := fds
  methods := ms
  attributes := attrs
def plain (name : String) (sup : Option ClassId) : Class where
  name := name
  kind := .ordinary
  loader := none
  accessFlags := 33
  super := sup
  interfaces := #[]
  cf := none
  fields := #[]
  methods := #[]
  instanceTypes := #[]
  staticTypes := #[]
  resolved := #[]
  callSites := []
  init := .initialized
  statics := none
  mirror := none

def pool0 : Array CpInfo := pool [(5, u "<init>"), (0, u "()V"), (1, .class_ 10), (1, u "java/lang/Object")] 113

def k0c0 : Code := { maxStack := 0, maxLocals := 1, code := object_method_1_code, exceptionTable := #[], attributes := #[] }
def k0m0 : Method := { name := "<init>", desc := "()V", sig := { parameters := [], returnType := none }, accessFlags := 1, code := some k0c0 }
/-- java/lang/Object -/
def k0 : Class := { plain "java/lang/Object" none with
  accessFlags := 33
  interfaces := #[]
  cf := some (fileOf pool0 8 #[] #[{ accessFlags := 1, nameIndex := 5, descriptorIndex := 6, attributes := #[] }] 33 0 #[] #[])
  fields := #[]
  methods := #[k0m0]
  instanceTypes := #[]
  staticTypes := #[]
  resolved := Array.replicate 124 none
  statics := none }

def pool1 : Array CpInfo := pool [(2, .class_ 4), (0, .nameAndType 5 6), (0, u "java/lang/Object"), (0, u "<init>"), (0, u "()V"), (0, .class_ 8), (0, u "com/example/intended_use/intendeduse/condition/Budget"), (0, .long 100000000), (1, .long 9223372036854775807), (1, .methodref 7 3), (0, .methodref 7 15), (0, .nameAndType 16 17), (0, u "spend"), (0, u "(J)V"), (0, .class_ 19), (0, u "com/example/intended_use/intendeduse/condition/BudgetSpendPinLaw"), (2, u "law"), (0, u "(JJJI)Z")] 6

def k1m0 : Method := { name := "<init>", desc := "()V", sig := { parameters := [], returnType := none }, accessFlags := 1, code := none }
def k1c1 : Code := { maxStack := 6, maxLocals := 20, code := code, exceptionTable := #[], attributes := #[] }
def k1m1 : Method := { name := "law", desc := "(JJJI)Z", sig := { parameters := [.long, .long, .long, .int], returnType := some .boolean }, accessFlags := 9, code := some k1c1 }
/-- com/example/intended_use/intendeduse/condition/BudgetSpendPinLaw -/
def k1 : Class := { plain "com/example/intended_use/intendeduse/condition/BudgetSpendPinLaw" (some 0) with
  accessFlags := 49
  interfaces := #[]
  cf := some (fileOf pool1 18 #[] #[{ accessFlags := 1, nameIndex := 5, descriptorIndex := 6, attributes := #[] }, { accessFlags := 9, nameIndex := 22, descriptorIndex := 23, attributes := #[] }] 49 2 #[] #[])
  fields := #[]
  methods := #[k1m0, k1m1]
  instanceTypes := #[]
  staticTypes := #[]
  resolved := Array.replicate 30 none
  statics := none }

def pool2 : Array CpInfo := pool [(1, .methodref 2 3), (0, .class_ 4), (0, .nameAndType 5 6), (0, u "java/lang/Object"), (0, u "<init>"), (0, u "()V"), (0, .class_ 8), (0, u "com/example/intended_use/intendeduse/condition/Budget"), (0, .long 100000000), (1, .fieldref 7 12), (0, .nameAndType 13 14), (0, u "left"), (0, u "J"), (7, u "MAX_STEPS"), (3, u "spend"), (0, u "(J)V")] 4

def k2c0 : Code := { maxStack := 3, maxLocals := 1, code := prog_1_method_1_code, exceptionTable := #[], attributes := #[] }
def k2m0 : Method := { name := "<init>", desc := "()V", sig := { parameters := [], returnType := none }, accessFlags := 1, code := some k2c0 }
def k2c1 : Code := { maxStack := 5, maxLocals := 3, code := prog_1_method_2_code, exceptionTable := #[], attributes := #[] }
def k2m1 : Method := { name := "spend", desc := "(J)V", sig := { parameters := [.long], returnType := none }, accessFlags := 1, code := some k2c1 }
/-- com/example/intended_use/intendeduse/condition/Budget -/
def k2 : Class := { plain "com/example/intended_use/intendeduse/condition/Budget" (some 0) with
  accessFlags := 49
  interfaces := #[]
  cf := some (fileOf pool2 7 #[] #[{ accessFlags := 1, nameIndex := 5, descriptorIndex := 6, attributes := #[] }, { accessFlags := 1, nameIndex := 26, descriptorIndex := 27, attributes := #[] }] 49 2 #[] #[{ accessFlags := 25, nameIndex := 22, descriptorIndex := 14, attributes := #[] }, { accessFlags := 2, nameIndex := 13, descriptorIndex := 14, attributes := #[] }])
  fields := #[{ name := "MAX_STEPS", type := .long, accessFlags := 25, slot := 0, constantValue := 0 }, { name := "left", type := .long, accessFlags := 2, slot := 0, constantValue := 0 }]
  methods := #[k2m0, k2m1]
  instanceTypes := #[.long]
  staticTypes := #[.long]
  resolved := Array.replicate 32 none
  statics := none }

def pool3 : Array CpInfo := pool [(1, u "java/lang/Cloneable"), (0, .class_ 1), (0, u "java/lang/Object"), (0, .class_ 3)] 3

/-- java/lang/Cloneable -/
def k3 : Class := { plain "java/lang/Cloneable" (some 0) with
  accessFlags := 1537
  interfaces := #[]
  cf := some (fileOf pool3 2 #[] #[] 1537 4 #[] #[])
  fields := #[]
  methods := #[]
  instanceTypes := #[]
  staticTypes := #[]
  resolved := Array.replicate 8 none
  statics := none }

def pool4 : Array CpInfo := pool [(1, u "java/io/Serializable"), (0, .class_ 1), (0, u "java/lang/Object"), (0, .class_ 3)] 3

/-- java/io/Serializable -/
def k4 : Class := { plain "java/io/Serializable" (some 0) with
  accessFlags := 1537
  interfaces := #[]
  cf := some (fileOf pool4 2 #[] #[] 1537 4 #[] #[])
  fields := #[]
  methods := #[]
  instanceTypes := #[]
  staticTypes := #[]
  resolved := Array.replicate 8 none
  statics := none }

/-- the primitive byte -/
def k5 : Class := { plain "byte" none with kind := .primitive 'B', accessFlags := 0x411 }
/-- [B -/
def k6 : Class := { plain "[B" (some 0) with kind := .array 5 .byte, interfaces := #[3, 4], accessFlags := 1041 }

/-- the primitive int -/
def k7 : Class := { plain "int" none with kind := .primitive 'I', accessFlags := 0x411 }
/-- [I -/
def k8 : Class := { plain "[I" (some 0) with kind := .array 7 .int, interfaces := #[3, 4], accessFlags := 1041 }

def heap : Heap := #[]
def classes : Array Class := #[k0, k1, k2, k3, k4, k5, k6, k7, k8]
def interned : List (Array UInt16 × Addr) := []
def slotsUsed : Nat := 0
def theMethod : MethodId := ⟨1, 1⟩
def args0 : Array Value := #[.long 5, .long 6, .long 7, .int 0]
def aboutOver (below : List Frame) : State where
  vm := { classes := classes, interned := interned.toArray }
  heap := heap
  slotsUsed := slotsUsed
  threads := #[{ frames := .invoking theMethod args0 :: below }]
def below0 : List Frame := [.native { method := ⟨0, 0⟩, args := #[] }]
def about1 : State := aboutOver below0
def p0 : Program := .bare "" "" ""
def e0 : Env := launch0.env 0 0 0
theorem w_frames : about1.frames = Frame.invoking theMethod args0 :: below0 := rfl
set_option maxRecDepth 65536 in
theorem w_args : argsFit about1.vm theMethod args0 = true := by decide +kernel
set_option maxRecDepth 65536 in
theorem w_heap : heapFits about1 = true := by decide +kernel
set_option maxRecDepth 65536 in
theorem w_runnable : about1.curStatus? = some .runnable := by decide +kernel
set_option maxRecDepth 65536 in
theorem w_alone : about1.alone = true := by decide +kernel
set_option maxRecDepth 65536 in
theorem w_named : about1.methodNamed? x = some theMethod := by decide +kernel
set_option maxRecDepth 65536 in
theorem w_hears : about1.hears theMethod below0 = true := by decide +kernel
set_option maxRecDepth 65536 in
theorem w_ripe : about1.ripe theMethod args0 below0 = true := by decide +kernel
theorem w_running : about1.status = .running := rfl
set_option maxRecDepth 65536 in
theorem w_room : about1.hasRoom e0.platform room_1 = true :=
  launch0.hasRoom_least _ room_1 (by decide +kernel) (by decide +kernel) (by decide +kernel) (by decide +kernel) (by decide +kernel) (by decide +kernel)
theorem allAtoms_all (ts : List Jvm.Cond) (a : Array Jvm.Value) (st : Jvm.State) : (allAtoms ts).before a st = ts.all (fun c => c.before a st) := by
  induction ts with
  | nil => rfl
  | cons c t ih =>
    show (Jvm.Cond.and c (allAtoms t)).before a st = _
    rw [Jvm.Cond.before_and, ih, List.all_cons]
def words1 : List Jvm.Cond := Jvm.Cond.code x code maxLocals ret :: tables_1
/-- a 'code' word, met by the world's own term for the bytes: nothing is compared byte by byte -/
theorem code_word {y : MethodName} {bytes : ByteArray} {mx : Nat} {rt : Option FieldType} {a : Array Value} {s : State} {m : MethodId} {meth : Method} {c : Code} (h1 : s.methodNamed? y = some m) (h2 : s.vm.method? m = some meth) (h3 : meth.code = some c) (h4 : c.code = bytes)
    (h5 : (c.maxLocals == mx && c.exceptionTable.isEmpty && decide (c.maxStack ≤ mostOperands) && decide (meth.sig.returnType = rt) && !meth.locks && decide (parseMethodDescriptor y.desc = some meth.sig)) = true) : (Jvm.Cond.code y bytes mx rt).before a s = true := by
  simp only [Bool.and_eq_true, beq_iff_eq, Bool.not_eq_true', decide_eq_true_eq] at h5
  obtain ⟨⟨⟨⟨⟨g1, g2⟩, g3⟩, g4⟩, g5⟩, g6⟩ := h5
  simp [Cond.before, Cond.holds, Cond.value, h1, h2, h3, h4, g1, g2, g3, g4, g5, g6]
def isCode : Jvm.Cond → Bool
  | .code _ _ _ _ => true
  | _ => false
theorem all_split {L : List Jvm.Cond} {P : Jvm.Cond → Bool} (h1 : L.all (fun c => isCode c || P c) = true) (h2 : ∀ c ∈ L.filter isCode, P c = true) : L.all P = true := by
  refine List.all_eq_true.mpr fun c hc => ?_
  have h := List.all_eq_true.mp h1 c hc
  rcases Bool.eq_false_or_eq_true (isCode c) with hi | hi
  · exact h2 c (List.mem_filter.mpr ⟨hc, hi⟩)
  · simpa [hi] using h
set_option maxRecDepth 65536 in
theorem w_c0 : (Jvm.Cond.code x code maxLocals ret).before args0 about1 = true := code_word (m := ⟨1, 1⟩) (meth := k1m1) (c := k1c1) (by decide +kernel) rfl rfl rfl (by decide +kernel)
set_option maxRecDepth 65536 in
theorem w_c1 : (Jvm.Cond.code ({ cls := "com/example/intended_use/intendeduse/condition/Budget", name := "<init>", desc := "()V" } : Jvm.MethodName) prog_1_method_1_code (1 : Nat) (Option.none : Option Jvm.ClassFile.FieldType)).before args0 about1 = true := code_word (m := ⟨2, 0⟩) (meth := k2m0) (c := k2c0) (by decide +kernel) rfl rfl rfl (by decide +kernel)
set_option maxRecDepth 65536 in
theorem w_c2 : (Jvm.Cond.code ({ cls := "java/lang/Object", name := "<init>", desc := "()V" } : Jvm.MethodName) object_method_1_code (1 : Nat) (Option.none : Option Jvm.ClassFile.FieldType)).before args0 about1 = true := code_word (m := ⟨0, 0⟩) (meth := k0m0) (c := k0c0) (by decide +kernel) rfl rfl rfl (by decide +kernel)
set_option maxRecDepth 65536 in
theorem w_c3 : (Jvm.Cond.code ({ cls := "com/example/intended_use/intendeduse/condition/Budget", name := "spend", desc := "(J)V" } : Jvm.MethodName) prog_1_method_2_code (3 : Nat) (Option.none : Option Jvm.ClassFile.FieldType)).before args0 about1 = true := code_word (m := ⟨2, 1⟩) (meth := k2m1) (c := k2c1) (by decide +kernel) rfl rfl rfl (by decide +kernel)
def codes1 : List Jvm.Cond := [Jvm.Cond.code x code maxLocals ret, Jvm.Cond.code ({ cls := "com/example/intended_use/intendeduse/condition/Budget", name := "<init>", desc := "()V" } : Jvm.MethodName) prog_1_method_1_code (1 : Nat) (Option.none : Option Jvm.ClassFile.FieldType), Jvm.Cond.code ({ cls := "java/lang/Object", name := "<init>", desc := "()V" } : Jvm.MethodName) object_method_1_code (1 : Nat) (Option.none : Option Jvm.ClassFile.FieldType), Jvm.Cond.code ({ cls := "com/example/intended_use/intendeduse/condition/Budget", name := "spend", desc := "(J)V" } : Jvm.MethodName) prog_1_method_2_code (3 : Nat) (Option.none : Option Jvm.ClassFile.FieldType)]
set_option maxRecDepth 65536 in
theorem codes_eq : words1.filter isCode = codes1 := rfl
theorem w_codes : ∀ c ∈ words1.filter isCode, c.before args0 about1 = true := by
  rw [codes_eq]
  intro c hc
  simp only [codes1, List.mem_cons, List.not_mem_nil, or_false] at hc
  rcases hc with rfl | rfl | rfl | rfl
  · exact w_c0
  · exact w_c1
  · exact w_c2
  · exact w_c3
set_option maxRecDepth 65536 in
theorem w_t1 : words1.all (fun c => isCode c || c.before args0 about1) = true := by decide +kernel
theorem w_tables : (allAtoms (Jvm.Cond.code x code maxLocals ret :: tables_1)).before args0 about1 = true := by
  rw [allAtoms_all]
  show words1.all (fun c => c.before args0 about1) = true
  refine all_split ?_ w_codes
  rw [w_t1]
set_option maxRecDepth 65536 in
theorem w_case : (Jvm.Cond.and given_1 narrow_1).before args0 about1 = true := by decide +kernel
theorem w_applies : (headSpec (Jvm.Cond.code x code maxLocals ret :: tables_1) room_1).applies x e0.platform about1 = true :=
  (Spec.applies_iff w_frames).mpr ⟨w_running, w_runnable, w_alone, w_named, w_hears, w_ripe, w_room, w_tables⟩
theorem atStart : AtStart classFile x code maxLocals ret World_1 tables_1 room_1 Calls_1 rest_1 Pre_1 launch0 p0 e0 about1 theMethod args0 below0 :=
  ⟨lists_1, trivial, launch0.admits_env _ _ _, launch0.least_env, fairChoices_fair.cas, fairChoices_fair.clock, w_frames, w_args, w_heap, w_applies, trivial, trivial, w_case⟩
end start1
theorem witness_1 : WitnessClaimed_1 := ⟨start1.p0, start1.e0, start1.about1, start1.theMethod, start1.args0, start1.below0, start1.atStart⟩
end Jvm.Pilot.@@N@@
