import JvmDerived
import JvmDerived.Pilot.@@N@@Statement
import JvmDerived.Pilot.@@N@@Code
set_option linter.unusedVariables false
set_option linter.unusedSimpArgs false
namespace Jvm.Pilot.@@N@@
open Jvm Jvm.ClassFile Sem Op Lib Jvm.Free Jvm.Stand Jvm.LawKit Jvm.RoadKit Bundle Jvm.Pilot.@@N@@.Jvm.D
/-! GoKit: a walk told forwards. Go: from this frame on the method comes to its end as Q says; Does: what a call of a method does (over the library's MetFree). -/
section GoKit
variable {p : Program} {l : Launch} {e : Env} {R : Room} {s : State} {m : MethodId} {args : Array Value} {below : List Frame} {meth : Method} {c : Code} {T T' : State} {locs : List Loc} {cells slots : Nat} {Z : State} {a0 : Array Value} {h : Heap} {g g' : JFrame} {Q : Outcome → State → Prop}
def Go (p : Program) (e : Env) (below : List Frame) (Q : Outcome → State → Prop) (T : State) (g : JFrame) : Prop :=
  ∃ s₂ o, Steps p.tables e below (T.setTop g) s₂ ∧ s₂.status = .running ∧ Ended s₂ below o ∧ Q o s₂
theorem Go.st (k : ∀ target, Steps p.tables e below (T'.setTop g') target → Steps p.tables e below (T.setTop g) target) (H : Go p e below Q T' g') : Go p e below Q T g := by
  obtain ⟨s₂, o, h1, r⟩ := H; exact ⟨s₂, o, k _ h1, r⟩
theorem Go.eq (q : g = g') (H : Go p e below Q T g') : Go p e below Q T g := q ▸ H
def Ends (s : State) (k n : Nat) (P : Option Value → Heap → List Loc → Prop) : Outcome → State → Prop :=
  fun o U' => ∃ v L, o = .returned v ∧ P v U'.heap L ∧ FrameEnd s o U' L k n
theorem Go.ret (X : Stand p l e R s m args below meth c T locs cells slots) (hx : p.tables.exec = Jvm.exec) (hlk : meth.locks = false) {pc : Nat} {Ls : Array Slot} {w : Value} {t : FieldType} {i : Instr} {rest : List Value} {P : Option Value → Heap → List Loc → Prop} {k n : Nat}
    (hret : meth.sig.returnType = some t) (hn : narrow t w = w)
    (hi : (i = .ireturn ∧ (t = .int ∨ t = .boolean ∨ t = .byte ∨ t = .char ∨ t = .short) ∧ ∃ z, w = .int z) ∨ (i = .lreturn ∧ t = .long ∧ ∃ z, w = .long z) ∨ (i = .dreturn ∧ t = .double ∧ ∃ z, w = .double z) ∨ (i = .freturn ∧ t = .float ∧ ∃ z, w = .float z) ∨ (i = .areturn ∧ t.isReference = true ∧ w.isRef = true))
    (hd : decode c.code pc = .ok (i, 1)) (hk : cells ≤ k) (hs : slots ≤ n) (hP : P (some w) T.heap locs) : Go p e below (Ends s k n P) T (mkF m pc Ls (w :: rest)) := by
  obtain ⟨fs, hr, hrun, hended, hW, hsame⟩ := X.leave (v := some w) (fun h => by rw [hret] at h; cases h) hlk
  exact ⟨_, _, retOut X hx hret hn hi hd hr, hrun, hended, _, _, rfl, hP, ⟨_, rfl⟩, hW, hsame.mono hk hs⟩
theorem Go.retV (X : Stand p l e R s m args below meth c T locs cells slots) (hx : p.tables.exec = Jvm.exec) (hlk : meth.locks = false) {pc : Nat} {Ls : Array Slot} {P : Option Value → Heap → List Loc → Prop} {k n : Nat}
    (hret : meth.sig.returnType = none) (hd : decode c.code pc = .ok (.return_, 1)) (hk : cells ≤ k) (hs : slots ≤ n) (hP : P none T.heap locs) : Go p e below (Ends s k n P) T (mkF m pc Ls []) := by
  obtain ⟨fs, hr, hrun, hended, hW, hsame⟩ := X.leave (v := none) (fun _ => rfl) hlk
  exact ⟨_, _, X.returnOut hx hret hd hr, hrun, hended, _, _, rfl, hP, ⟨_, rfl⟩, hW, hsame.mono hk hs⟩
theorem Go.retZ (X : Stand p l e R s m args below meth c T locs cells slots) (hx : p.tables.exec = Jvm.exec) (hlk : meth.locks = false) {pc : Nat} {Ls : Array Slot} {z : Int32} {rest : List Value} {P : Option Value → Heap → List Loc → Prop} {k n : Nat}
    (hret : meth.sig.returnType = some .boolean) (hn : narrow .boolean (.int z) = .int z) (hd : decode c.code pc = .ok (.ireturn, 1)) (hk : cells ≤ k) (hs : slots ≤ n) (hP : P (some (.int z)) T.heap locs) : Go p e below (Ends s k n P) T (mkF m pc Ls (.int z :: rest)) :=
  Go.ret X hx hlk hret hn (Or.inl ⟨rfl, Or.inr (Or.inl rfl), z, rfl⟩) hd hk hs hP
theorem Go.retC (X : Stand p l e R s m args below meth c T locs cells slots) (hx : p.tables.exec = Jvm.exec) (hlk : meth.locks = false) {pc : Nat} {Ls : Array Slot} {z : Int32} {rest : List Value} {P : Option Value → Heap → List Loc → Prop} {k n : Nat}
    (hret : meth.sig.returnType = some .char) (hn : narrow .char (.int z) = .int z) (hd : decode c.code pc = .ok (.ireturn, 1)) (hk : cells ≤ k) (hs : slots ≤ n) (hP : P (some (.int z)) T.heap locs) : Go p e below (Ends s k n P) T (mkF m pc Ls (.int z :: rest)) :=
  Go.ret X hx hlk hret hn (Or.inl ⟨rfl, Or.inr (Or.inr (Or.inr (Or.inl rfl))), z, rfl⟩) hd hk hs hP
theorem Go.retI (X : Stand p l e R s m args below meth c T locs cells slots) (hx : p.tables.exec = Jvm.exec) (hlk : meth.locks = false) {pc : Nat} {Ls : Array Slot} {z : Int32} {rest : List Value} {P : Option Value → Heap → List Loc → Prop} {k n : Nat}
    (hret : meth.sig.returnType = some .int) (hd : decode c.code pc = .ok (.ireturn, 1)) (hk : cells ≤ k) (hs : slots ≤ n) (hP : P (some (.int z)) T.heap locs) : Go p e below (Ends s k n P) T (mkF m pc Ls (.int z :: rest)) :=
  Go.ret X hx hlk hret rfl (Or.inl ⟨rfl, Or.inl rfl, z, rfl⟩) hd hk hs hP
theorem Go.retJ (X : Stand p l e R s m args below meth c T locs cells slots) (hx : p.tables.exec = Jvm.exec) (hlk : meth.locks = false) {pc : Nat} {Ls : Array Slot} {z : Int64} {rest : List Value} {P : Option Value → Heap → List Loc → Prop} {k n : Nat}
    (hret : meth.sig.returnType = some .long) (hd : decode c.code pc = .ok (.lreturn, 1)) (hk : cells ≤ k) (hs : slots ≤ n) (hP : P (some (.long z)) T.heap locs) : Go p e below (Ends s k n P) T (mkF m pc Ls (.long z :: rest)) :=
  Go.ret X hx hlk hret rfl (Or.inr (Or.inl ⟨rfl, rfl, z, rfl⟩)) hd hk hs hP
theorem Go.retA (X : Stand p l e R s m args below meth c T locs cells slots) (hx : p.tables.exec = Jvm.exec) (hlk : meth.locks = false) {pc : Nat} {Ls : Array Slot} {w : Value} {t : FieldType} {rest : List Value} {P : Option Value → Heap → List Loc → Prop} {k n : Nat}
    (hret : meth.sig.returnType = some t) (ht : t.isReference = true) (hw : w.isRef = true) (hn : narrow t w = w) (hd : decode c.code pc = .ok (.areturn, 1)) (hk : cells ≤ k) (hs : slots ≤ n) (hP : P (some w) T.heap locs) : Go p e below (Ends s k n P) T (mkF m pc Ls (w :: rest)) :=
  Go.ret X hx hlk hret hn (Or.inr (Or.inr (Or.inr (Or.inr ⟨rfl, ht, hw⟩)))) hd hk hs hP
/-- what a call does: the arguments, the heap before, and P: what it returns, the heap behind, the places written -/
def Does (l : Launch) (Z : State) (y : MethodName) (bytes : ByteArray) (maxL : Nat) (ret : Option FieldType) (ws : List Jvm.Cond) (rm : Room) (as' : Array Value) (h : Heap) (P : Option Value → Heap → List Loc → Prop) : Prop :=
  MetFree l y (head1 (Jvm.Cond.code y bytes maxL ret :: ws) rm) (fun a U => a = as' ∧ Z.Warmed39 U.vm ∧ U.heap = h) (fun _ _ _ _ _ => True) (fun _ U o U' => ∃ v L, o = .returned v ∧ P v U'.heap L ∧ FrameEnd U o U' L rm.cells rm.slots)
theorem Does.intro {y : MethodName} {bytes : ByteArray} {maxL : Nat} {ret : Option FieldType} {ws : List Jvm.Cond} {rm : Room} {as' : Array Value} {P : Option Value → Heap → List Loc → Prop} {Ls : Array Slot} (hpn : plainName y.cls = true) (hef : ∀ m, entryFrame m as' maxL = mkF m 0 Ls [])
    (body : ∀ (p : Program) (e : Env) (s : State) (m : MethodId) (below : List Frame) (meth : Method) (c : Code) (s₁ : State), p.tables.exec = Jvm.exec → c.code = bytes → c.maxLocals = maxL → s.vm.findClass y.cls = some m.cls → meth.name = y.name → meth.sig.returnType = ret → meth.locks = false →
      Z.Warmed39 s.vm → s₁.heap = h → Stand p l e rm s m as' below meth c s₁ [] 0 0 → Go p e below (Ends s rm.cells rm.slots P) s₁ (mkF m 0 Ls [])) : Does l Z y bytes maxL ret ws rm as' h P := by
  refine MetFree.of_bodySF (plainFor_of_name hpn) hisR ?_
  intro p e s m args below meth c s₁ Bd hml0 hP hK
  obtain ⟨rfl, hZ, hh⟩ := hP
  have := body p e s m below meth c s₁ Bd.exec Bd.bytes hml0 (findClass_of_methodNamed Bd.named) (name_of_methodNamed Bd.named Bd.method).1 Bd.returns Bd.notSynchronized hZ (by rw [← hh, Bd.state]; rfl) (Stand.of_body Bd)
  obtain ⟨s₂, o, h1, h2, h3, h4⟩ := this
  exact ⟨s₂, o, castTop (hef m) h1, h2, h3, h4⟩
theorem Does.mono {y : MethodName} {bytes : ByteArray} {maxL : Nat} {ret : Option FieldType} {ws : List Jvm.Cond} {rm : Room} {as' : Array Value} {P P' : Option Value → Heap → List Loc → Prop} (D : Does l Z y bytes maxL ret ws rm as' h P) (q : ∀ v h' L, P v h' L → P' v h' L) : Does l Z y bytes maxL ret ws rm as' h P' := by
  intro p e ha hc hk s m args below hf happ hP hK
  obtain ⟨n, o, h1, h2, h3, v, L, h4, h5, h6⟩ := D p e ha hc hk s m args below hf happ hP hK
  exact ⟨n, o, h1, h2, h3, v, L, h4, q _ _ _ h5, h6⟩
theorem Does.static {y : MethodName} {bytes : ByteArray} {maxL : Nat} {ret : Option FieldType} {rm : Room} {P : Option Value → Heap → List Loc → Prop} {own : String} {index : Nat} {argsL rest : List Value} (D : Does l Z y bytes maxL ret [] rm argsL.toArray h P)
    (X : Stand p l e R s m args below meth c T locs cells slots) (hx : p.tables.exec = Jvm.exec) (hZ : Z.Warmed39 s.vm) (hown : s.vm.findClass own = some m.cls) (eT : T.heap = h) (w1 : (Cond.methodLink own index y).before a0 Z = true) (w2 : (Cond.static y).before a0 Z = true) (w3 : (Cond.initialized y.cls).before a0 Z = true) (w4 : (Cond.code y bytes maxL ret).before a0 Z = true)
    (hy : y.cls ≠ "java/lang/invoke/MethodHandle" ∧ y.cls ≠ "java/lang/invoke/VarHandle") (hg : g.method = m) (hsize : g.locals.size = c.maxLocals) (hlen : ∀ sig, parseMethodDescriptor y.desc = some sig → argsL.length = sig.parameters.length)
    (hstack : g.stack = argsL.reverse ++ rest) (hd : decode c.code g.pc = .ok (.invokestatic index, 3)) {W : Nat} (hW : 2 * g.monitorRoom + (rest.map fun v => v.category).sum ≤ W) (hf : rm.frames + 1 ≤ R.frames) (hl : W + (maxL + 11) + rm.locals ≤ R.locals) (hc : cells + rm.cells ≤ R.cells) (hs : slots + rm.slots ≤ R.slots) :
    ∃ v T' L, Stand p l e R s m args below meth c T' (locs ++ L) (cells + rm.cells) (slots + rm.slots) ∧ P v T'.heap L ∧ ∀ target, Steps p.tables e below (T'.setTop { g with pc := g.pc + 3, stack := v.toList ++ rest }) target → Steps p.tables e below (T.setTop g) target := by
  obtain ⟨v, vm₁, ⟨T', L', k', n'⟩, -, X', ⟨L, hQ, q1, q2, q3⟩, st⟩ := Jvm.LawKit.callS X hx (y := y) hown (mvT hZ w1) (mvT hZ w2) (mvT hZ w3) (mvT hZ w4) hy (backOf (W := W) D hZ w4 w3 hf hl) hg hsize (argsL := argsL) (rest := rest) hlen hstack hW hd (fun _ _ => ⟨rfl, eT, hc, hs⟩)
  dsimp only [Pt.U, Pt.locs, Pt.cells, Pt.slots] at X' q1 q2 q3 st hQ
  subst q1 q2 q3
  exact ⟨v, T', L, X', hQ, st⟩
theorem Does.special {y : MethodName} {bytes : ByteArray} {maxL : Nat} {rm : Room} {P : Option Value → Heap → List Loc → Prop} {own : String} {index : Nat} {a : Addr} {argsL rest : List Value} (D : Does l Z y bytes maxL none [] rm (.ref a :: argsL).toArray h P)
    (X : Stand p l e R s m args below meth c T locs cells slots) (hx : p.tables.exec = Jvm.exec) (hZ : Z.Warmed39 s.vm) (hown : s.vm.findClass own = some m.cls) (eT : T.heap = h) (hnm : y.name = "<init>") (w1 : (Cond.methodLink own index y).before a0 Z = true) (w2 : (Cond.instanceMethod y).before a0 Z = true) (w3 : (Cond.initialized y.cls).before a0 Z = true) (w4 : (Cond.code y bytes maxL none).before a0 Z = true)
    (hy : y.cls ≠ "java/lang/invoke/MethodHandle" ∧ y.cls ≠ "java/lang/invoke/VarHandle") (hg : g.method = m) (hsize : g.locals.size = c.maxLocals) (hlen : ∀ sig, parseMethodDescriptor y.desc = some sig → argsL.length = sig.parameters.length)
    (hstack : g.stack = argsL.reverse ++ .ref a :: rest) (hd : decode c.code g.pc = .ok (.invokespecial index, 3)) {W : Nat} (hW : 2 * g.monitorRoom + (rest.map fun v => v.category).sum ≤ W) (hf : rm.frames + 1 ≤ R.frames) (hl : W + (maxL + 11) + rm.locals ≤ R.locals) (hc : cells + rm.cells ≤ R.cells) (hs : slots + rm.slots ≤ R.slots) :
    ∃ v T' L, Stand p l e R s m args below meth c T' (locs ++ L) (cells + rm.cells) (slots + rm.slots) ∧ P v T'.heap L ∧ ∀ target, Steps p.tables e below (T'.setTop { g with pc := g.pc + 3, stack := v.toList ++ rest }) target → Steps p.tables e below (T.setTop g) target := by
  obtain ⟨v, vm₁, ⟨T', L', k', n'⟩, -, X', ⟨L, hQ, q1, q2, q3⟩, st⟩ := X.specialBack hx (y := y) hnm hown (mvT hZ w1) (mvT hZ w2) (mvT hZ w4) hy (backOf (W := W) D hZ w4 w3 hf hl) hg hsize (Steps.refl _) (a := a) (argsL := argsL) (rest := rest) hlen hstack hW hd (fun _ _ => ⟨rfl, eT, hc, hs⟩)
  dsimp only [Pt.U, Pt.locs, Pt.cells, Pt.slots] at X' q1 q2 q3 st hQ
  subst q1 q2 q3
  exact ⟨v, T', L, X', hQ, fun _ k => st.trans k⟩
theorem Does.virtual {y : MethodName} {bytes : ByteArray} {maxL : Nat} {ret : Option FieldType} {rm : Room} {P : Option Value → Heap → List Loc → Prop} {own C : String} {index : Nat} {a : Addr} {argsL rest : List Value} (D : Does l Z y bytes maxL ret [] rm (.ref a :: argsL).toArray h P)
    (X : Stand p l e R s m args below meth c T locs cells slots) (hx : p.tables.exec = Jvm.exec) (hZ : Z.Warmed39 s.vm) (hown : s.vm.findClass own = some m.cls) (eT : T.heap = h) (E : Exa Z h a C) (w1 : (Cond.methodLink own index y).before a0 Z = true) (w2 : (Cond.declares y).before a0 Z = true) (w2' : (Cond.selects C y y).before a0 Z = true) (w2'' : (Cond.instanceMethod y).before a0 Z = true) (w3 : (Cond.initialized y.cls).before a0 Z = true) (w4 : (Cond.code y bytes maxL ret).before a0 Z = true)
    (hy : y.cls ≠ "java/lang/invoke/MethodHandle" ∧ y.cls ≠ "java/lang/invoke/VarHandle") (hg : g.method = m) (hsize : g.locals.size = c.maxLocals) (hlen : ∀ sig, parseMethodDescriptor y.desc = some sig → argsL.length = sig.parameters.length)
    (hstack : g.stack = argsL.reverse ++ .ref a :: rest) (hd : decode c.code g.pc = .ok (.invokevirtual index, 3)) {W : Nat} (hW : 2 * g.monitorRoom + (rest.map fun v => v.category).sum ≤ W) (hf : rm.frames + 1 ≤ R.frames) (hl : W + (maxL + 11) + rm.locals ≤ R.locals) (hc : cells + rm.cells ≤ R.cells) (hs : slots + rm.slots ≤ R.slots) :
    ∃ v T' L, Stand p l e R s m args below meth c T' (locs ++ L) (cells + rm.cells) (slots + rm.slots) ∧ P v T'.heap L ∧ ∀ target, Steps p.tables e below (T'.setTop { g with pc := g.pc + 3, stack := v.toList ++ rest }) target → Steps p.tables e below (T.setTop g) target := by
  obtain ⟨cB, kB, q1, -, q3⟩ := isOf hZ eT E
  obtain ⟨v, vm₁, ⟨T', L', k', n'⟩, -, X', ⟨L, hQ, q1, q2, q3⟩, st⟩ := X.virtualBack hx (y := y) (z := y) hown (mvT hZ w1) (mvT hZ w2) (notFace_of_selects (args := #[]) (mvT hZ w2')) (mvT hZ w2') (mvT hZ w2'') hy (backOf (W := W) D hZ w4 w3 hf hl) q1 q3 hg hsize (Steps.refl _) (argsL := argsL) (rest := rest) hlen hstack hW hd (fun _ _ => ⟨rfl, eT, hc, hs⟩)
  dsimp only [Pt.U, Pt.locs, Pt.cells, Pt.slots] at X' q1 q2 q3 st hQ
  subst q1 q2 q3
  exact ⟨v, T', L, X', hQ, fun _ k => st.trans k⟩
theorem Does.virtualUp {x' z : MethodName} {owner : String} {bytes : ByteArray} {maxL : Nat} {ret : Option FieldType} {rm : Room} {P : Option Value → Heap → List Loc → Prop} {own C : String} {index : Nat} {a : Addr} {argsL rest : List Value} (D : Does l Z z bytes maxL ret [] rm (.ref a :: argsL).toArray h P)
    (X : Stand p l e R s m args below meth c T locs cells slots) (hx : p.tables.exec = Jvm.exec) (hZ : Z.Warmed39 s.vm) (hown : s.vm.findClass own = some m.cls) (eT : T.heap = h) (E : Exa Z h a C) (w1 : (Cond.methodLink own index x').before a0 Z = true) (w1' : (Cond.sameMethod x'.cls owner x'.name x'.desc).before a0 Z = true) (w2 : (Cond.declares ⟨owner, x'.name, x'.desc⟩).before a0 Z = true) (w2' : (Cond.selects C x' z).before a0 Z = true) (w2'' : (Cond.instanceMethod z).before a0 Z = true) (w3 : (Cond.initialized z.cls).before a0 Z = true) (w4 : (Cond.code z bytes maxL ret).before a0 Z = true)
    (hy : owner ≠ "java/lang/invoke/MethodHandle" ∧ owner ≠ "java/lang/invoke/VarHandle") (hg : g.method = m) (hsize : g.locals.size = c.maxLocals) (hlen : ∀ sig, parseMethodDescriptor x'.desc = some sig → argsL.length = sig.parameters.length)
    (hstack : g.stack = argsL.reverse ++ .ref a :: rest) (hd : decode c.code g.pc = .ok (.invokevirtual index, 3)) {W : Nat} (hW : 2 * g.monitorRoom + (rest.map fun v => v.category).sum ≤ W) (hf : rm.frames + 1 ≤ R.frames) (hl : W + (maxL + 11) + rm.locals ≤ R.locals) (hc : cells + rm.cells ≤ R.cells) (hs : slots + rm.slots ≤ R.slots) :
    ∃ v T' L, Stand p l e R s m args below meth c T' (locs ++ L) (cells + rm.cells) (slots + rm.slots) ∧ P v T'.heap L ∧ ∀ target, Steps p.tables e below (T'.setTop { g with pc := g.pc + 3, stack := v.toList ++ rest }) target → Steps p.tables e below (T.setTop g) target := by
  obtain ⟨cB, kB, q1, -, q3⟩ := isOf hZ eT E
  obtain ⟨v, vm₁, ⟨T', L', k', n'⟩, -, X', ⟨L, hQ, q1, q2, q3⟩, st⟩ := X.virtualBackUp hx (x := x') (y := z) hown (mvT hZ w1) (mvT hZ w1') (mvT hZ w2) hy (mvT hZ w2') (mvT hZ w2'') (backOf (W := W) D hZ w4 w3 hf hl) q1 q3 hg hsize (Steps.refl _) (argsL := argsL) (rest := rest) hlen hstack hW hd (fun _ _ => ⟨rfl, eT, hc, hs⟩)
  dsimp only [Pt.U, Pt.locs, Pt.cells, Pt.slots] at X' q1 q2 q3 st hQ
  subst q1 q2 q3
  exact ⟨v, T', L, X', hQ, fun _ k => st.trans k⟩
/-- a call that leaves the heap as it was and returns w -/
abbrev Val (w : Option Value) (h : Heap) : Option Value → Heap → List Loc → Prop := fun v h' L => v = w ∧ L = [] ∧ h' = h
theorem own_still {w : Option Value} {rm : Room} {rest : List Value} (hc : rm.cells = 0) (hs : rm.slots = 0)
    (H : ∃ v T' L, Stand p l e R s m args below meth c T' (locs ++ L) (cells + rm.cells) (slots + rm.slots) ∧ Val w h v T'.heap L ∧ ∀ target, Steps p.tables e below (T'.setTop { g with pc := g.pc + 3, stack := v.toList ++ rest }) target → Steps p.tables e below (T.setTop g) target) :
    ∃ T', Stand p l e R s m args below meth c T' locs cells slots ∧ T'.heap = h ∧ ∀ target, Steps p.tables e below (T'.setTop { g with pc := g.pc + 3, stack := w.toList ++ rest }) target → Steps p.tables e below (T.setTop g) target := by
  obtain ⟨v, T', L, X', ⟨rfl, rfl, e'⟩, st⟩ := H
  rw [hc, hs, List.append_nil] at X'
  exact ⟨T', X', e', st⟩
theorem own_Llt {x y : Int64} (h : x < y) : XT.cmpL x y < 0 := (lw_lt x y).mpr h
theorem own_Lnlt {x y : Int64} (h : ¬ x < y) : ¬ XT.cmpL x y < 0 := fun q => h ((lw_lt x y).mp q)
theorem own_Lgt {x y : Int64} (h : y < x) : 0 < XT.cmpL x y := (lw_gt x y).mpr h
theorem own_Lngt {x y : Int64} (h : ¬ y < x) : ¬ 0 < XT.cmpL x y := fun q => h ((lw_gt x y).mp q)
theorem own_Leq {x y : Int64} (h : x = y) : XT.cmpL x y = 0 := (lw_eq x y).mpr h
theorem own_Lneq {x y : Int64} (h : ¬ x = y) : ¬ XT.cmpL x y = 0 := fun q => h ((lw_eq x y).mp q)
theorem own_aeq {a b : Addr} (h : a = b) : XT.acmp .eq (.ref a) (.ref b) = true ∧ XT.acmp .ne (.ref a) (.ref b) = false := by subst h; exact ⟨decide_eq_true rfl, decide_eq_false (fun q => q rfl)⟩
theorem own_ane {a b : Addr} (h : ¬ a = b) : XT.acmp .eq (.ref a) (.ref b) = false ∧ XT.acmp .ne (.ref a) (.ref b) = true := ⟨decide_eq_false (fun q => h (by cases q; rfl)), decide_eq_true (fun q => h (by cases q; rfl))⟩
theorem own_ext {h0 h : Heap} (K : Keep h0 h []) : Ext h0 h := ⟨K.1, fun x c q => K.2.1 x c q nin0⟩
end GoKit
theorem own_sta {Z : State} {args : Array Value} {C f d K : String} (h : (Jvm.Cond.exactly (.static C f d) K).value args Z none Z [] = some true) (wi : (Jvm.Cond.initialized C).before args Z = true) (wl : (Jvm.Cond.laysStatic C f d).before args Z = true) :
    ∃ x, (Term.static C f d).eval args Z none [] Z = some (.ref x) ∧ Sta Z Z.heap C f d (.ref x) ∧ Exa Z Z.heap x K := by
  obtain ⟨x, ev⟩ := exa_v h
  exact ⟨x, ev, Sta.start ev (Or.inr ⟨wi, wl⟩), Exa.start ev h⟩
theorem own_fldI {Z : State} {args : Array Value} {t : Term} {O n d : String} {k : Int32} {x : Addr} (ev : t.eval args Z none [] Z = some (.ref x)) (h : (Jvm.Cond.eq (.field t O n d) (.int k)).value args Z none Z [] = some true) : Fld Z Z.heap x O n d (.int k) := by
  obtain ⟨u, v, e1, e2, k1, -⟩ := cmp_v (Or.inl h)
  have e3 : v = .int k := by simpa [Term.eval] using e2.symm
  subst e3
  obtain ⟨z, rfl⟩ : ∃ z, u = .int z := by cases u <;> simp [Kin, Value.isRef] at k1 ⊢
  have q : z = k := gotT (Cond.eq_ints e1 e2) h
  subst q
  exact Fld.start ((fld_at ev).symm.trans e1)
def own_h0 (p : Int32) : Int32 := if p = 0 then 1 else 0
theorem own_h0n {p : Int32} (h : p < (0 : Int32)) : own_h0 p = 0 := by
  simp only [own_h0, Int32.lt_iff_toInt_lt, ← Int32.toInt_inj, Int32.reduceToInt] at *
  (repeat' split) <;> first | rfl | omega
theorem own_h0z {p : Int32} (g : ¬ p < (0 : Int32)) (h : p = (0 : Int32)) : own_h0 p = 1 := by
  simp only [own_h0, Int32.lt_iff_toInt_lt, ← Int32.toInt_inj, Int32.reduceToInt] at *
  (repeat' split) <;> first | rfl | omega
theorem own_h0p {p : Int32} (g : ¬ p < (0 : Int32)) (h : ¬ p = (0 : Int32)) : own_h0 p = 0 := by
  simp only [own_h0, Int32.lt_iff_toInt_lt, ← Int32.toInt_inj, Int32.reduceToInt] at *
  (repeat' split) <;> first | rfl | omega
def own_h1 (p : Int32) : Int32 := if p = 0 then 0 else 1
theorem own_h1n {p : Int32} (h : p < (0 : Int32)) : own_h1 p = 1 := by
  simp only [own_h1, Int32.lt_iff_toInt_lt, ← Int32.toInt_inj, Int32.reduceToInt] at *
  (repeat' split) <;> first | rfl | omega
theorem own_h1z {p : Int32} (g : ¬ p < (0 : Int32)) (h : p = (0 : Int32)) : own_h1 p = 0 := by
  simp only [own_h1, Int32.lt_iff_toInt_lt, ← Int32.toInt_inj, Int32.reduceToInt] at *
  (repeat' split) <;> first | rfl | omega
theorem own_h1p {p : Int32} (g : ¬ p < (0 : Int32)) (h : ¬ p = (0 : Int32)) : own_h1 p = 1 := by
  simp only [own_h1, Int32.lt_iff_toInt_lt, ← Int32.toInt_inj, Int32.reduceToInt] at *
  (repeat' split) <;> first | rfl | omega
def own_h2 (p : Int32) : Int32 := if p < 0 then 1 else 0
theorem own_h2n {p : Int32} (h : p < (0 : Int32)) : own_h2 p = 1 := by
  simp only [own_h2, Int32.lt_iff_toInt_lt, ← Int32.toInt_inj, Int32.reduceToInt] at *
  (repeat' split) <;> first | rfl | omega
theorem own_h2z {p : Int32} (g : ¬ p < (0 : Int32)) (h : p = (0 : Int32)) : own_h2 p = 0 := by
  simp only [own_h2, Int32.lt_iff_toInt_lt, ← Int32.toInt_inj, Int32.reduceToInt] at *
  (repeat' split) <;> first | rfl | omega
theorem own_h2p {p : Int32} (g : ¬ p < (0 : Int32)) (h : ¬ p = (0 : Int32)) : own_h2 p = 0 := by
  simp only [own_h2, Int32.lt_iff_toInt_lt, ← Int32.toInt_inj, Int32.reduceToInt] at *
  (repeat' split) <;> first | rfl | omega
def own_h3 (p : Int32) : Int32 := if 0 < p then 0 else 1
theorem own_h3n {p : Int32} (h : p < (0 : Int32)) : own_h3 p = 1 := by
  simp only [own_h3, Int32.lt_iff_toInt_lt, ← Int32.toInt_inj, Int32.reduceToInt] at *
  (repeat' split) <;> first | rfl | omega
theorem own_h3z {p : Int32} (g : ¬ p < (0 : Int32)) (h : p = (0 : Int32)) : own_h3 p = 1 := by
  simp only [own_h3, Int32.lt_iff_toInt_lt, ← Int32.toInt_inj, Int32.reduceToInt] at *
  (repeat' split) <;> first | rfl | omega
theorem own_h3p {p : Int32} (g : ¬ p < (0 : Int32)) (h : ¬ p = (0 : Int32)) : own_h3 p = 0 := by
  simp only [own_h3, Int32.lt_iff_toInt_lt, ← Int32.toInt_inj, Int32.reduceToInt] at *
  (repeat' split) <;> first | rfl | omega
def own_h4 (p : Int32) : Int32 := if 0 < p then 1 else 0
theorem own_h4n {p : Int32} (h : p < (0 : Int32)) : own_h4 p = 0 := by
  simp only [own_h4, Int32.lt_iff_toInt_lt, ← Int32.toInt_inj, Int32.reduceToInt] at *
  (repeat' split) <;> first | rfl | omega
theorem own_h4z {p : Int32} (g : ¬ p < (0 : Int32)) (h : p = (0 : Int32)) : own_h4 p = 0 := by
  simp only [own_h4, Int32.lt_iff_toInt_lt, ← Int32.toInt_inj, Int32.reduceToInt] at *
  (repeat' split) <;> first | rfl | omega
theorem own_h4p {p : Int32} (g : ¬ p < (0 : Int32)) (h : ¬ p = (0 : Int32)) : own_h4 p = 1 := by
  simp only [own_h4, Int32.lt_iff_toInt_lt, ← Int32.toInt_inj, Int32.reduceToInt] at *
  (repeat' split) <;> first | rfl | omega
def own_h5 (p : Int32) : Int32 := if p < 0 then 0 else 1
theorem own_h5n {p : Int32} (h : p < (0 : Int32)) : own_h5 p = 0 := by
  simp only [own_h5, Int32.lt_iff_toInt_lt, ← Int32.toInt_inj, Int32.reduceToInt] at *
  (repeat' split) <;> first | rfl | omega
theorem own_h5z {p : Int32} (g : ¬ p < (0 : Int32)) (h : p = (0 : Int32)) : own_h5 p = 1 := by
  simp only [own_h5, Int32.lt_iff_toInt_lt, ← Int32.toInt_inj, Int32.reduceToInt] at *
  (repeat' split) <;> first | rfl | omega
theorem own_h5p {p : Int32} (g : ¬ p < (0 : Int32)) (h : ¬ p = (0 : Int32)) : own_h5 p = 1 := by
  simp only [own_h5, Int32.lt_iff_toInt_lt, ← Int32.toInt_inj, Int32.reduceToInt] at *
  (repeat' split) <;> first | rfl | omega
theorem d_jdk_37_method_2_code_0 : decode jdk_37_method_2_code 0 = .ok (.aload_n 0, 1) := by decide +kernel
theorem d_jdk_37_method_2_code_1 : decode jdk_37_method_2_code 1 = .ok (.getfield 7, 3) := by decide +kernel
theorem d_jdk_37_method_2_code_4 : decode jdk_37_method_2_code 4 = .ok (.ireturn, 1) := by decide +kernel
theorem pn_java_lang_Enum : plainName "java/lang/Enum" = true := by first | (simp [plainName, overriddenIn]; done) | decide +kernel
theorem d_prog_9_method_7_code_0 : decode prog_9_method_7_code 0 = .ok (.aload_n 0, 1) := by decide +kernel
theorem d_prog_9_method_7_code_1 : decode prog_9_method_7_code 1 = .ok (.invokevirtual 86, 3) := by decide +kernel
theorem pd_2829I : parseMethodDescriptor "()I" = some ⟨[], some .int⟩ := by decide +kernel
theorem d_prog_9_method_7_code_4 : decode prog_9_method_7_code 4 = .ok (.tableswitch 112 0 5 #[40, 52, 64, 76, 88, 100], 40) := by decide +kernel
theorem d_prog_9_method_7_code_44 : decode prog_9_method_7_code 44 = .ok (.iload_n 1, 1) := by decide +kernel
theorem d_prog_9_method_7_code_45 : decode prog_9_method_7_code 45 = .ok (.ifCond .ne 7, 3) := by decide +kernel
theorem d_prog_9_method_7_code_48 : decode prog_9_method_7_code 48 = .ok (.iconst 1, 1) := by decide +kernel
theorem d_prog_9_method_7_code_49 : decode prog_9_method_7_code 49 = .ok (.goto 84, 3) := by decide +kernel
theorem d_prog_9_method_7_code_133 : decode prog_9_method_7_code 133 = .ok (.ireturn, 1) := by decide +kernel
theorem d_prog_9_method_7_code_52 : decode prog_9_method_7_code 52 = .ok (.iconst 0, 1) := by decide +kernel
theorem d_prog_9_method_7_code_53 : decode prog_9_method_7_code 53 = .ok (.goto 80, 3) := by decide +kernel
theorem pn_com_example_intended_use_intendeduse_condition_Operator : plainName "com/example/intended_use/intendeduse/condition/Operator" = true := by first | (simp [plainName, overriddenIn]; done) | decide +kernel
theorem d_prog_9_method_7_code_56 : decode prog_9_method_7_code 56 = .ok (.iload_n 1, 1) := by decide +kernel
theorem d_prog_9_method_7_code_57 : decode prog_9_method_7_code 57 = .ok (.ifCond .eq 7, 3) := by decide +kernel
theorem d_prog_9_method_7_code_64 : decode prog_9_method_7_code 64 = .ok (.iconst 0, 1) := by decide +kernel
theorem d_prog_9_method_7_code_65 : decode prog_9_method_7_code 65 = .ok (.goto 68, 3) := by decide +kernel
theorem d_prog_9_method_7_code_60 : decode prog_9_method_7_code 60 = .ok (.iconst 1, 1) := by decide +kernel
theorem d_prog_9_method_7_code_61 : decode prog_9_method_7_code 61 = .ok (.goto 72, 3) := by decide +kernel
theorem d_prog_9_method_7_code_68 : decode prog_9_method_7_code 68 = .ok (.iload_n 1, 1) := by decide +kernel
theorem d_prog_9_method_7_code_69 : decode prog_9_method_7_code 69 = .ok (.ifCond .ge 7, 3) := by decide +kernel
theorem d_prog_9_method_7_code_72 : decode prog_9_method_7_code 72 = .ok (.iconst 1, 1) := by decide +kernel
theorem d_prog_9_method_7_code_73 : decode prog_9_method_7_code 73 = .ok (.goto 60, 3) := by decide +kernel
theorem d_prog_9_method_7_code_76 : decode prog_9_method_7_code 76 = .ok (.iconst 0, 1) := by decide +kernel
theorem d_prog_9_method_7_code_77 : decode prog_9_method_7_code 77 = .ok (.goto 56, 3) := by decide +kernel
theorem d_prog_9_method_7_code_80 : decode prog_9_method_7_code 80 = .ok (.iload_n 1, 1) := by decide +kernel
theorem d_prog_9_method_7_code_81 : decode prog_9_method_7_code 81 = .ok (.ifCond .gt 7, 3) := by decide +kernel
theorem d_prog_9_method_7_code_88 : decode prog_9_method_7_code 88 = .ok (.iconst 0, 1) := by decide +kernel
theorem d_prog_9_method_7_code_89 : decode prog_9_method_7_code 89 = .ok (.goto 44, 3) := by decide +kernel
theorem d_prog_9_method_7_code_84 : decode prog_9_method_7_code 84 = .ok (.iconst 1, 1) := by decide +kernel
theorem d_prog_9_method_7_code_85 : decode prog_9_method_7_code 85 = .ok (.goto 48, 3) := by decide +kernel
theorem d_prog_9_method_7_code_92 : decode prog_9_method_7_code 92 = .ok (.iload_n 1, 1) := by decide +kernel
theorem d_prog_9_method_7_code_93 : decode prog_9_method_7_code 93 = .ok (.ifCond .le 7, 3) := by decide +kernel
theorem d_prog_9_method_7_code_96 : decode prog_9_method_7_code 96 = .ok (.iconst 1, 1) := by decide +kernel
theorem d_prog_9_method_7_code_97 : decode prog_9_method_7_code 97 = .ok (.goto 36, 3) := by decide +kernel
theorem d_prog_9_method_7_code_100 : decode prog_9_method_7_code 100 = .ok (.iconst 0, 1) := by decide +kernel
theorem d_prog_9_method_7_code_101 : decode prog_9_method_7_code 101 = .ok (.goto 32, 3) := by decide +kernel
theorem d_prog_9_method_7_code_104 : decode prog_9_method_7_code 104 = .ok (.iload_n 1, 1) := by decide +kernel
theorem d_prog_9_method_7_code_105 : decode prog_9_method_7_code 105 = .ok (.ifCond .lt 7, 3) := by decide +kernel
theorem d_prog_9_method_7_code_112 : decode prog_9_method_7_code 112 = .ok (.iconst 0, 1) := by decide +kernel
theorem d_prog_9_method_7_code_113 : decode prog_9_method_7_code 113 = .ok (.goto 20, 3) := by decide +kernel
theorem d_prog_9_method_7_code_108 : decode prog_9_method_7_code 108 = .ok (.iconst 1, 1) := by decide +kernel
theorem d_prog_9_method_7_code_109 : decode prog_9_method_7_code 109 = .ok (.goto 24, 3) := by decide +kernel
theorem pd_28I29Z : parseMethodDescriptor "(I)Z" = some ⟨[.int], some .boolean⟩ := by decide +kernel
theorem pn_com_example_intended_use_intendeduse_condition_OperatorHoldsPinLaw : plainName "com/example/intended_use/intendeduse/condition/OperatorHoldsPinLaw" = true := by first | (simp [plainName, overriddenIn]; done) | decide +kernel
theorem ef_rmOrd (x0 : Addr) (m : MethodId) : entryFrame m #[(.ref x0)] 1 = mkF m 0 #[.val (.ref x0)] [] := by first | (simp [entryFrame, mkF, argsToLocals, Value.category]; done) | rfl
set_option maxRecDepth 65536 in
set_option maxHeartbeats 40000000 in
theorem rmOrd (l : Launch) (Z : State) (a0 : Array Value) (hw : ∀ d ∈ tables_1, d.before a0 Z = true) (a1 : Addr) (o : Int32) (h0 : Heap) (F1 : Fld Z h0 a1 "java/lang/Enum" "ordinal" "I" (.int o)) :
    Does l Z (⟨"java/lang/Enum", "ordinal", "()I"⟩ : MethodName) jdk_37_method_2_code 1 (some .int) [] ({ frames := 0, cells := 0, slots := 0, locals := 0 } : Room) #[(.ref a1)] h0 (Val (some (.int o)) h0) := by
  refine Does.intro pn_java_lang_Enum (ef_rmOrd a1) ?_
  intro p e s m below meth c s₁ hx hby hml hown hnm hret hlk hZ e0 X0
  show Go p e below _ s₁ (mkF m 0 #[.val (.ref a1)] [])
  refine Go.st (fun _ h => XS.aloadN X0.here hx rfl (hb hby d_jdk_37_method_2_code_0) rfl rfl h) ?_
  show Go p e below _ s₁ (mkF m 1 #[.val (.ref a1)] [(.ref a1)])
  obtain ⟨T1, X1, e1, st1⟩ := getF X0 hx hZ hown (host := "") (Or.inl (hw _ (List.mem_of_getElem? (i := 16) rfl))) Via.refl e0 F1 (g := (mkF m 1 #[.val (.ref a1)] [(.ref a1)])) rfl rfl (hb hby d_jdk_37_method_2_code_1)
  refine Go.st st1 ?_
  show Go p e below _ T1 (mkF m 4 #[.val (.ref a1)] [(.int o)])
  refine Go.retI X1 hx hlk hret (hb hby d_jdk_37_method_2_code_4) (by decide) (by decide) ?_
  exact ⟨rfl, rfl, e1⟩
theorem ef_rmHolds0 (x0 : Addr) (x1 : Int32) (m : MethodId) : entryFrame m #[(.ref x0), (.int x1)] 2 = mkF m 0 #[.val (.ref x0), .val (.int x1)] [] := by first | (simp [entryFrame, mkF, argsToLocals, Value.category]; done) | rfl
set_option maxRecDepth 65536 in
set_option maxHeartbeats 40000000 in
theorem rmHolds0 (l : Launch) (Z : State) (a0 : Array Value) (hw : ∀ d ∈ tables_1, d.before a0 Z = true) (a1 : Addr) (p1 : Int32) (h0 : Heap) (E1 : Exa Z h0 a1 "com/example/intended_use/intendeduse/condition/Operator") (F1 : Fld Z h0 a1 "java/lang/Enum" "ordinal" "I" (.int (0 : Int32))) :
    Does l Z (⟨"com/example/intended_use/intendeduse/condition/Operator", "holds", "(I)Z"⟩ : MethodName) prog_9_method_7_code 2 (some .boolean) [] ({ frames := 1, cells := 0, slots := 0, locals := 13 } : Room) #[(.ref a1), (.int p1)] h0 (Val (some (.int (own_h0 p1))) h0) := by
  refine Does.intro pn_com_example_intended_use_intendeduse_condition_Operator (ef_rmHolds0 a1 p1) ?_
  intro p e s m below meth c s₁ hx hby hml hown hnm hret hlk hZ e0 X0
  show Go p e below _ s₁ (mkF m 0 #[.val (.ref a1), .val (.int p1)] [])
  refine Go.st (fun _ h => XS.aloadN X0.here hx rfl (hb hby d_prog_9_method_7_code_0) rfl rfl h) ?_
  show Go p e below _ s₁ (mkF m 1 #[.val (.ref a1), .val (.int p1)] [(.ref a1)])
  obtain ⟨T1, X1, e1, st1⟩ := own_still rfl rfl (Does.virtualUp (x' := (⟨"com/example/intended_use/intendeduse/condition/Operator", "ordinal", "()I"⟩ : MethodName)) (z := (⟨"java/lang/Enum", "ordinal", "()I"⟩ : MethodName)) (owner := "java/lang/Enum") (g := (mkF m 1 #[.val (.ref a1), .val (.int p1)] [(.ref a1)])) (a := a1) (rmOrd l Z a0 hw a1 (0 : Int32) h0 F1) X0 hx hZ hown e0 E1 (hw _ (List.mem_of_getElem? (i := 9) rfl)) (hw _ (List.mem_of_getElem? (i := 10) rfl)) (hw _ (List.mem_of_getElem? (i := 11) rfl)) (hw _ (List.mem_of_getElem? (i := 13) rfl)) (hw _ (List.mem_of_getElem? (i := 12) rfl)) (hw _ (List.mem_of_getElem? (i := 14) rfl)) (hw _ (List.mem_of_getElem? (i := 15) rfl)) (by decide) rfl (by rw [hml]; rfl) (argsL := []) (rest := []) (lenOf pd_2829I rfl) rfl (hb hby d_prog_9_method_7_code_1) (W := 0) (by show 2 * 0 + _ ≤ _; exact Nat.le_of_eq rfl) (by decide) (by decide) (by decide) (by decide))
  refine Go.st st1 ?_
  show Go p e below _ T1 (mkF m 4 #[.val (.ref a1), .val (.int p1)] [(.int (0 : Int32))])
  refine Go.st (fun _ h => XS.tswIn X1.here hx rfl (o := 40) (pc0 := 4) (pc' := 44) rfl (hb hby d_prog_9_method_7_code_4) rfl (by decide) (by decide) (by decide) (by decide) h) ?_
  show Go p e below _ T1 (mkF m 44 #[.val (.ref a1), .val (.int p1)] [])
  refine Go.st (fun _ h => XS.iloadN X1.here hx rfl (hb hby d_prog_9_method_7_code_44) rfl h) ?_
  show Go p e below _ T1 (mkF m 45 #[.val (.ref a1), .val (.int p1)] [(.int p1)])
  by_cases hc2 : p1 = (0 : Int32)
  · refine Go.st (fun _ h => XS.ifNo X1.here hx rfl (hb hby d_prog_9_method_7_code_45) rfl ((if0 _ _).trans (teq hc2).2) h) ?_
    show Go p e below _ T1 (mkF m 48 #[.val (.ref a1), .val (.int p1)] [])
    refine Go.st (fun _ h => XT.iconstV X1.here hx rfl (1 : Int32) (hb hby d_prog_9_method_7_code_48) (by decide) h) ?_
    show Go p e below _ T1 (mkF m 49 #[.val (.ref a1), .val (.int p1)] [(.int (1 : Int32))])
    refine Go.st (fun _ h => XS.goto X1.here hx rfl (pc0 := 49) (pc' := 133) rfl (hb hby d_prog_9_method_7_code_49) (by decide) (by decide) h) ?_
    show Go p e below _ T1 (mkF m 133 #[.val (.ref a1), .val (.int p1)] [(.int (1 : Int32))])
    refine Go.retZ X1 hx hlk hret rfl (hb hby d_prog_9_method_7_code_133) (by decide) (by decide) ?_
    exact ⟨by simp only [own_h0, hc2, if_true, if_false], rfl, e1⟩
  · refine Go.st (fun _ h => XS.ifYes X1.here hx rfl (pc0 := 45) (pc' := 52) rfl (hb hby d_prog_9_method_7_code_45) rfl ((if0 _ _).trans (feq hc2).2) (by decide) (by decide) h) ?_
    show Go p e below _ T1 (mkF m 52 #[.val (.ref a1), .val (.int p1)] [])
    refine Go.st (fun _ h => XT.iconstV X1.here hx rfl (0 : Int32) (hb hby d_prog_9_method_7_code_52) (by decide) h) ?_
    show Go p e below _ T1 (mkF m 53 #[.val (.ref a1), .val (.int p1)] [(.int (0 : Int32))])
    refine Go.st (fun _ h => XS.goto X1.here hx rfl (pc0 := 53) (pc' := 133) rfl (hb hby d_prog_9_method_7_code_53) (by decide) (by decide) h) ?_
    show Go p e below _ T1 (mkF m 133 #[.val (.ref a1), .val (.int p1)] [(.int (0 : Int32))])
    refine Go.retZ X1 hx hlk hret rfl (hb hby d_prog_9_method_7_code_133) (by decide) (by decide) ?_
    exact ⟨by simp only [own_h0, hc2, if_true, if_false], rfl, e1⟩
theorem ef_rmHolds1 (x0 : Addr) (x1 : Int32) (m : MethodId) : entryFrame m #[(.ref x0), (.int x1)] 2 = mkF m 0 #[.val (.ref x0), .val (.int x1)] [] := by first | (simp [entryFrame, mkF, argsToLocals, Value.category]; done) | rfl
set_option maxRecDepth 65536 in
set_option maxHeartbeats 40000000 in
theorem rmHolds1 (l : Launch) (Z : State) (a0 : Array Value) (hw : ∀ d ∈ tables_1, d.before a0 Z = true) (a1 : Addr) (p1 : Int32) (h0 : Heap) (E1 : Exa Z h0 a1 "com/example/intended_use/intendeduse/condition/Operator") (F1 : Fld Z h0 a1 "java/lang/Enum" "ordinal" "I" (.int (1 : Int32))) :
    Does l Z (⟨"com/example/intended_use/intendeduse/condition/Operator", "holds", "(I)Z"⟩ : MethodName) prog_9_method_7_code 2 (some .boolean) [] ({ frames := 1, cells := 0, slots := 0, locals := 13 } : Room) #[(.ref a1), (.int p1)] h0 (Val (some (.int (own_h1 p1))) h0) := by
  refine Does.intro pn_com_example_intended_use_intendeduse_condition_Operator (ef_rmHolds1 a1 p1) ?_
  intro p e s m below meth c s₁ hx hby hml hown hnm hret hlk hZ e0 X0
  show Go p e below _ s₁ (mkF m 0 #[.val (.ref a1), .val (.int p1)] [])
  refine Go.st (fun _ h => XS.aloadN X0.here hx rfl (hb hby d_prog_9_method_7_code_0) rfl rfl h) ?_
  show Go p e below _ s₁ (mkF m 1 #[.val (.ref a1), .val (.int p1)] [(.ref a1)])
  obtain ⟨T1, X1, e1, st1⟩ := own_still rfl rfl (Does.virtualUp (x' := (⟨"com/example/intended_use/intendeduse/condition/Operator", "ordinal", "()I"⟩ : MethodName)) (z := (⟨"java/lang/Enum", "ordinal", "()I"⟩ : MethodName)) (owner := "java/lang/Enum") (g := (mkF m 1 #[.val (.ref a1), .val (.int p1)] [(.ref a1)])) (a := a1) (rmOrd l Z a0 hw a1 (1 : Int32) h0 F1) X0 hx hZ hown e0 E1 (hw _ (List.mem_of_getElem? (i := 9) rfl)) (hw _ (List.mem_of_getElem? (i := 10) rfl)) (hw _ (List.mem_of_getElem? (i := 11) rfl)) (hw _ (List.mem_of_getElem? (i := 13) rfl)) (hw _ (List.mem_of_getElem? (i := 12) rfl)) (hw _ (List.mem_of_getElem? (i := 14) rfl)) (hw _ (List.mem_of_getElem? (i := 15) rfl)) (by decide) rfl (by rw [hml]; rfl) (argsL := []) (rest := []) (lenOf pd_2829I rfl) rfl (hb hby d_prog_9_method_7_code_1) (W := 0) (by show 2 * 0 + _ ≤ _; exact Nat.le_of_eq rfl) (by decide) (by decide) (by decide) (by decide))
  refine Go.st st1 ?_
  show Go p e below _ T1 (mkF m 4 #[.val (.ref a1), .val (.int p1)] [(.int (1 : Int32))])
  refine Go.st (fun _ h => XS.tswIn X1.here hx rfl (o := 52) (pc0 := 4) (pc' := 56) rfl (hb hby d_prog_9_method_7_code_4) rfl (by decide) (by decide) (by decide) (by decide) h) ?_
  show Go p e below _ T1 (mkF m 56 #[.val (.ref a1), .val (.int p1)] [])
  refine Go.st (fun _ h => XS.iloadN X1.here hx rfl (hb hby d_prog_9_method_7_code_56) rfl h) ?_
  show Go p e below _ T1 (mkF m 57 #[.val (.ref a1), .val (.int p1)] [(.int p1)])
  by_cases hc2 : p1 = (0 : Int32)
  · refine Go.st (fun _ h => XS.ifYes X1.here hx rfl (pc0 := 57) (pc' := 64) rfl (hb hby d_prog_9_method_7_code_57) rfl ((if0 _ _).trans (teq hc2).1) (by decide) (by decide) h) ?_
    show Go p e below _ T1 (mkF m 64 #[.val (.ref a1), .val (.int p1)] [])
    refine Go.st (fun _ h => XT.iconstV X1.here hx rfl (0 : Int32) (hb hby d_prog_9_method_7_code_64) (by decide) h) ?_
    show Go p e below _ T1 (mkF m 65 #[.val (.ref a1), .val (.int p1)] [(.int (0 : Int32))])
    refine Go.st (fun _ h => XS.goto X1.here hx rfl (pc0 := 65) (pc' := 133) rfl (hb hby d_prog_9_method_7_code_65) (by decide) (by decide) h) ?_
    show Go p e below _ T1 (mkF m 133 #[.val (.ref a1), .val (.int p1)] [(.int (0 : Int32))])
    refine Go.retZ X1 hx hlk hret rfl (hb hby d_prog_9_method_7_code_133) (by decide) (by decide) ?_
    exact ⟨by simp only [own_h1, hc2, if_true, if_false], rfl, e1⟩
  · refine Go.st (fun _ h => XS.ifNo X1.here hx rfl (hb hby d_prog_9_method_7_code_57) rfl ((if0 _ _).trans (feq hc2).1) h) ?_
    show Go p e below _ T1 (mkF m 60 #[.val (.ref a1), .val (.int p1)] [])
    refine Go.st (fun _ h => XT.iconstV X1.here hx rfl (1 : Int32) (hb hby d_prog_9_method_7_code_60) (by decide) h) ?_
    show Go p e below _ T1 (mkF m 61 #[.val (.ref a1), .val (.int p1)] [(.int (1 : Int32))])
    refine Go.st (fun _ h => XS.goto X1.here hx rfl (pc0 := 61) (pc' := 133) rfl (hb hby d_prog_9_method_7_code_61) (by decide) (by decide) h) ?_
    show Go p e below _ T1 (mkF m 133 #[.val (.ref a1), .val (.int p1)] [(.int (1 : Int32))])
    refine Go.retZ X1 hx hlk hret rfl (hb hby d_prog_9_method_7_code_133) (by decide) (by decide) ?_
    exact ⟨by simp only [own_h1, hc2, if_true, if_false], rfl, e1⟩
theorem ef_rmHolds2 (x0 : Addr) (x1 : Int32) (m : MethodId) : entryFrame m #[(.ref x0), (.int x1)] 2 = mkF m 0 #[.val (.ref x0), .val (.int x1)] [] := by first | (simp [entryFrame, mkF, argsToLocals, Value.category]; done) | rfl
set_option maxRecDepth 65536 in
set_option maxHeartbeats 40000000 in
theorem rmHolds2 (l : Launch) (Z : State) (a0 : Array Value) (hw : ∀ d ∈ tables_1, d.before a0 Z = true) (a1 : Addr) (p1 : Int32) (h0 : Heap) (E1 : Exa Z h0 a1 "com/example/intended_use/intendeduse/condition/Operator") (F1 : Fld Z h0 a1 "java/lang/Enum" "ordinal" "I" (.int (2 : Int32))) :
    Does l Z (⟨"com/example/intended_use/intendeduse/condition/Operator", "holds", "(I)Z"⟩ : MethodName) prog_9_method_7_code 2 (some .boolean) [] ({ frames := 1, cells := 0, slots := 0, locals := 13 } : Room) #[(.ref a1), (.int p1)] h0 (Val (some (.int (own_h2 p1))) h0) := by
  refine Does.intro pn_com_example_intended_use_intendeduse_condition_Operator (ef_rmHolds2 a1 p1) ?_
  intro p e s m below meth c s₁ hx hby hml hown hnm hret hlk hZ e0 X0
  show Go p e below _ s₁ (mkF m 0 #[.val (.ref a1), .val (.int p1)] [])
  refine Go.st (fun _ h => XS.aloadN X0.here hx rfl (hb hby d_prog_9_method_7_code_0) rfl rfl h) ?_
  show Go p e below _ s₁ (mkF m 1 #[.val (.ref a1), .val (.int p1)] [(.ref a1)])
  obtain ⟨T1, X1, e1, st1⟩ := own_still rfl rfl (Does.virtualUp (x' := (⟨"com/example/intended_use/intendeduse/condition/Operator", "ordinal", "()I"⟩ : MethodName)) (z := (⟨"java/lang/Enum", "ordinal", "()I"⟩ : MethodName)) (owner := "java/lang/Enum") (g := (mkF m 1 #[.val (.ref a1), .val (.int p1)] [(.ref a1)])) (a := a1) (rmOrd l Z a0 hw a1 (2 : Int32) h0 F1) X0 hx hZ hown e0 E1 (hw _ (List.mem_of_getElem? (i := 9) rfl)) (hw _ (List.mem_of_getElem? (i := 10) rfl)) (hw _ (List.mem_of_getElem? (i := 11) rfl)) (hw _ (List.mem_of_getElem? (i := 13) rfl)) (hw _ (List.mem_of_getElem? (i := 12) rfl)) (hw _ (List.mem_of_getElem? (i := 14) rfl)) (hw _ (List.mem_of_getElem? (i := 15) rfl)) (by decide) rfl (by rw [hml]; rfl) (argsL := []) (rest := []) (lenOf pd_2829I rfl) rfl (hb hby d_prog_9_method_7_code_1) (W := 0) (by show 2 * 0 + _ ≤ _; exact Nat.le_of_eq rfl) (by decide) (by decide) (by decide) (by decide))
  refine Go.st st1 ?_
  show Go p e below _ T1 (mkF m 4 #[.val (.ref a1), .val (.int p1)] [(.int (2 : Int32))])
  refine Go.st (fun _ h => XS.tswIn X1.here hx rfl (o := 64) (pc0 := 4) (pc' := 68) rfl (hb hby d_prog_9_method_7_code_4) rfl (by decide) (by decide) (by decide) (by decide) h) ?_
  show Go p e below _ T1 (mkF m 68 #[.val (.ref a1), .val (.int p1)] [])
  refine Go.st (fun _ h => XS.iloadN X1.here hx rfl (hb hby d_prog_9_method_7_code_68) rfl h) ?_
  show Go p e below _ T1 (mkF m 69 #[.val (.ref a1), .val (.int p1)] [(.int p1)])
  by_cases hc2 : p1 < (0 : Int32)
  · refine Go.st (fun _ h => XS.ifNo X1.here hx rfl (hb hby d_prog_9_method_7_code_69) rfl ((if0 _ _).trans (tlt hc2).2.1) h) ?_
    show Go p e below _ T1 (mkF m 72 #[.val (.ref a1), .val (.int p1)] [])
    refine Go.st (fun _ h => XT.iconstV X1.here hx rfl (1 : Int32) (hb hby d_prog_9_method_7_code_72) (by decide) h) ?_
    show Go p e below _ T1 (mkF m 73 #[.val (.ref a1), .val (.int p1)] [(.int (1 : Int32))])
    refine Go.st (fun _ h => XS.goto X1.here hx rfl (pc0 := 73) (pc' := 133) rfl (hb hby d_prog_9_method_7_code_73) (by decide) (by decide) h) ?_
    show Go p e below _ T1 (mkF m 133 #[.val (.ref a1), .val (.int p1)] [(.int (1 : Int32))])
    refine Go.retZ X1 hx hlk hret rfl (hb hby d_prog_9_method_7_code_133) (by decide) (by decide) ?_
    exact ⟨by simp only [own_h2, hc2, if_true, if_false], rfl, e1⟩
  · refine Go.st (fun _ h => XS.ifYes X1.here hx rfl (pc0 := 69) (pc' := 76) rfl (hb hby d_prog_9_method_7_code_69) rfl ((if0 _ _).trans (flt hc2).2.1) (by decide) (by decide) h) ?_
    show Go p e below _ T1 (mkF m 76 #[.val (.ref a1), .val (.int p1)] [])
    refine Go.st (fun _ h => XT.iconstV X1.here hx rfl (0 : Int32) (hb hby d_prog_9_method_7_code_76) (by decide) h) ?_
    show Go p e below _ T1 (mkF m 77 #[.val (.ref a1), .val (.int p1)] [(.int (0 : Int32))])
    refine Go.st (fun _ h => XS.goto X1.here hx rfl (pc0 := 77) (pc' := 133) rfl (hb hby d_prog_9_method_7_code_77) (by decide) (by decide) h) ?_
    show Go p e below _ T1 (mkF m 133 #[.val (.ref a1), .val (.int p1)] [(.int (0 : Int32))])
    refine Go.retZ X1 hx hlk hret rfl (hb hby d_prog_9_method_7_code_133) (by decide) (by decide) ?_
    exact ⟨by simp only [own_h2, hc2, if_true, if_false], rfl, e1⟩
theorem ef_rmHolds3 (x0 : Addr) (x1 : Int32) (m : MethodId) : entryFrame m #[(.ref x0), (.int x1)] 2 = mkF m 0 #[.val (.ref x0), .val (.int x1)] [] := by first | (simp [entryFrame, mkF, argsToLocals, Value.category]; done) | rfl
set_option maxRecDepth 65536 in
set_option maxHeartbeats 40000000 in
theorem rmHolds3 (l : Launch) (Z : State) (a0 : Array Value) (hw : ∀ d ∈ tables_1, d.before a0 Z = true) (a1 : Addr) (p1 : Int32) (h0 : Heap) (E1 : Exa Z h0 a1 "com/example/intended_use/intendeduse/condition/Operator") (F1 : Fld Z h0 a1 "java/lang/Enum" "ordinal" "I" (.int (3 : Int32))) :
    Does l Z (⟨"com/example/intended_use/intendeduse/condition/Operator", "holds", "(I)Z"⟩ : MethodName) prog_9_method_7_code 2 (some .boolean) [] ({ frames := 1, cells := 0, slots := 0, locals := 13 } : Room) #[(.ref a1), (.int p1)] h0 (Val (some (.int (own_h3 p1))) h0) := by
  refine Does.intro pn_com_example_intended_use_intendeduse_condition_Operator (ef_rmHolds3 a1 p1) ?_
  intro p e s m below meth c s₁ hx hby hml hown hnm hret hlk hZ e0 X0
  show Go p e below _ s₁ (mkF m 0 #[.val (.ref a1), .val (.int p1)] [])
  refine Go.st (fun _ h => XS.aloadN X0.here hx rfl (hb hby d_prog_9_method_7_code_0) rfl rfl h) ?_
  show Go p e below _ s₁ (mkF m 1 #[.val (.ref a1), .val (.int p1)] [(.ref a1)])
  obtain ⟨T1, X1, e1, st1⟩ := own_still rfl rfl (Does.virtualUp (x' := (⟨"com/example/intended_use/intendeduse/condition/Operator", "ordinal", "()I"⟩ : MethodName)) (z := (⟨"java/lang/Enum", "ordinal", "()I"⟩ : MethodName)) (owner := "java/lang/Enum") (g := (mkF m 1 #[.val (.ref a1), .val (.int p1)] [(.ref a1)])) (a := a1) (rmOrd l Z a0 hw a1 (3 : Int32) h0 F1) X0 hx hZ hown e0 E1 (hw _ (List.mem_of_getElem? (i := 9) rfl)) (hw _ (List.mem_of_getElem? (i := 10) rfl)) (hw _ (List.mem_of_getElem? (i := 11) rfl)) (hw _ (List.mem_of_getElem? (i := 13) rfl)) (hw _ (List.mem_of_getElem? (i := 12) rfl)) (hw _ (List.mem_of_getElem? (i := 14) rfl)) (hw _ (List.mem_of_getElem? (i := 15) rfl)) (by decide) rfl (by rw [hml]; rfl) (argsL := []) (rest := []) (lenOf pd_2829I rfl) rfl (hb hby d_prog_9_method_7_code_1) (W := 0) (by show 2 * 0 + _ ≤ _; exact Nat.le_of_eq rfl) (by decide) (by decide) (by decide) (by decide))
  refine Go.st st1 ?_
  show Go p e below _ T1 (mkF m 4 #[.val (.ref a1), .val (.int p1)] [(.int (3 : Int32))])
  refine Go.st (fun _ h => XS.tswIn X1.here hx rfl (o := 76) (pc0 := 4) (pc' := 80) rfl (hb hby d_prog_9_method_7_code_4) rfl (by decide) (by decide) (by decide) (by decide) h) ?_
  show Go p e below _ T1 (mkF m 80 #[.val (.ref a1), .val (.int p1)] [])
  refine Go.st (fun _ h => XS.iloadN X1.here hx rfl (hb hby d_prog_9_method_7_code_80) rfl h) ?_
  show Go p e below _ T1 (mkF m 81 #[.val (.ref a1), .val (.int p1)] [(.int p1)])
  by_cases hc2 : (0 : Int32) < p1
  · refine Go.st (fun _ h => XS.ifYes X1.here hx rfl (pc0 := 81) (pc' := 88) rfl (hb hby d_prog_9_method_7_code_81) rfl ((if0 _ _).trans (tlt hc2).2.2.1) (by decide) (by decide) h) ?_
    show Go p e below _ T1 (mkF m 88 #[.val (.ref a1), .val (.int p1)] [])
    refine Go.st (fun _ h => XT.iconstV X1.here hx rfl (0 : Int32) (hb hby d_prog_9_method_7_code_88) (by decide) h) ?_
    show Go p e below _ T1 (mkF m 89 #[.val (.ref a1), .val (.int p1)] [(.int (0 : Int32))])
    refine Go.st (fun _ h => XS.goto X1.here hx rfl (pc0 := 89) (pc' := 133) rfl (hb hby d_prog_9_method_7_code_89) (by decide) (by decide) h) ?_
    show Go p e below _ T1 (mkF m 133 #[.val (.ref a1), .val (.int p1)] [(.int (0 : Int32))])
    refine Go.retZ X1 hx hlk hret rfl (hb hby d_prog_9_method_7_code_133) (by decide) (by decide) ?_
    exact ⟨by simp only [own_h3, hc2, if_true, if_false], rfl, e1⟩
  · refine Go.st (fun _ h => XS.ifNo X1.here hx rfl (hb hby d_prog_9_method_7_code_81) rfl ((if0 _ _).trans (flt hc2).2.2.1) h) ?_
    show Go p e below _ T1 (mkF m 84 #[.val (.ref a1), .val (.int p1)] [])
    refine Go.st (fun _ h => XT.iconstV X1.here hx rfl (1 : Int32) (hb hby d_prog_9_method_7_code_84) (by decide) h) ?_
    show Go p e below _ T1 (mkF m 85 #[.val (.ref a1), .val (.int p1)] [(.int (1 : Int32))])
    refine Go.st (fun _ h => XS.goto X1.here hx rfl (pc0 := 85) (pc' := 133) rfl (hb hby d_prog_9_method_7_code_85) (by decide) (by decide) h) ?_
    show Go p e below _ T1 (mkF m 133 #[.val (.ref a1), .val (.int p1)] [(.int (1 : Int32))])
    refine Go.retZ X1 hx hlk hret rfl (hb hby d_prog_9_method_7_code_133) (by decide) (by decide) ?_
    exact ⟨by simp only [own_h3, hc2, if_true, if_false], rfl, e1⟩
theorem ef_rmHolds4 (x0 : Addr) (x1 : Int32) (m : MethodId) : entryFrame m #[(.ref x0), (.int x1)] 2 = mkF m 0 #[.val (.ref x0), .val (.int x1)] [] := by first | (simp [entryFrame, mkF, argsToLocals, Value.category]; done) | rfl
set_option maxRecDepth 65536 in
set_option maxHeartbeats 40000000 in
theorem rmHolds4 (l : Launch) (Z : State) (a0 : Array Value) (hw : ∀ d ∈ tables_1, d.before a0 Z = true) (a1 : Addr) (p1 : Int32) (h0 : Heap) (E1 : Exa Z h0 a1 "com/example/intended_use/intendeduse/condition/Operator") (F1 : Fld Z h0 a1 "java/lang/Enum" "ordinal" "I" (.int (4 : Int32))) :
    Does l Z (⟨"com/example/intended_use/intendeduse/condition/Operator", "holds", "(I)Z"⟩ : MethodName) prog_9_method_7_code 2 (some .boolean) [] ({ frames := 1, cells := 0, slots := 0, locals := 13 } : Room) #[(.ref a1), (.int p1)] h0 (Val (some (.int (own_h4 p1))) h0) := by
  refine Does.intro pn_com_example_intended_use_intendeduse_condition_Operator (ef_rmHolds4 a1 p1) ?_
  intro p e s m below meth c s₁ hx hby hml hown hnm hret hlk hZ e0 X0
  show Go p e below _ s₁ (mkF m 0 #[.val (.ref a1), .val (.int p1)] [])
  refine Go.st (fun _ h => XS.aloadN X0.here hx rfl (hb hby d_prog_9_method_7_code_0) rfl rfl h) ?_
  show Go p e below _ s₁ (mkF m 1 #[.val (.ref a1), .val (.int p1)] [(.ref a1)])
  obtain ⟨T1, X1, e1, st1⟩ := own_still rfl rfl (Does.virtualUp (x' := (⟨"com/example/intended_use/intendeduse/condition/Operator", "ordinal", "()I"⟩ : MethodName)) (z := (⟨"java/lang/Enum", "ordinal", "()I"⟩ : MethodName)) (owner := "java/lang/Enum") (g := (mkF m 1 #[.val (.ref a1), .val (.int p1)] [(.ref a1)])) (a := a1) (rmOrd l Z a0 hw a1 (4 : Int32) h0 F1) X0 hx hZ hown e0 E1 (hw _ (List.mem_of_getElem? (i := 9) rfl)) (hw _ (List.mem_of_getElem? (i := 10) rfl)) (hw _ (List.mem_of_getElem? (i := 11) rfl)) (hw _ (List.mem_of_getElem? (i := 13) rfl)) (hw _ (List.mem_of_getElem? (i := 12) rfl)) (hw _ (List.mem_of_getElem? (i := 14) rfl)) (hw _ (List.mem_of_getElem? (i := 15) rfl)) (by decide) rfl (by rw [hml]; rfl) (argsL := []) (rest := []) (lenOf pd_2829I rfl) rfl (hb hby d_prog_9_method_7_code_1) (W := 0) (by show 2 * 0 + _ ≤ _; exact Nat.le_of_eq rfl) (by decide) (by decide) (by decide) (by decide))
  refine Go.st st1 ?_
  show Go p e below _ T1 (mkF m 4 #[.val (.ref a1), .val (.int p1)] [(.int (4 : Int32))])
  refine Go.st (fun _ h => XS.tswIn X1.here hx rfl (o := 88) (pc0 := 4) (pc' := 92) rfl (hb hby d_prog_9_method_7_code_4) rfl (by decide) (by decide) (by decide) (by decide) h) ?_
  show Go p e below _ T1 (mkF m 92 #[.val (.ref a1), .val (.int p1)] [])
  refine Go.st (fun _ h => XS.iloadN X1.here hx rfl (hb hby d_prog_9_method_7_code_92) rfl h) ?_
  show Go p e below _ T1 (mkF m 93 #[.val (.ref a1), .val (.int p1)] [(.int p1)])
  by_cases hc2 : (0 : Int32) < p1
  · refine Go.st (fun _ h => XS.ifNo X1.here hx rfl (hb hby d_prog_9_method_7_code_93) rfl ((if0 _ _).trans (tlt hc2).2.2.2) h) ?_
    show Go p e below _ T1 (mkF m 96 #[.val (.ref a1), .val (.int p1)] [])
    refine Go.st (fun _ h => XT.iconstV X1.here hx rfl (1 : Int32) (hb hby d_prog_9_method_7_code_96) (by decide) h) ?_
    show Go p e below _ T1 (mkF m 97 #[.val (.ref a1), .val (.int p1)] [(.int (1 : Int32))])
    refine Go.st (fun _ h => XS.goto X1.here hx rfl (pc0 := 97) (pc' := 133) rfl (hb hby d_prog_9_method_7_code_97) (by decide) (by decide) h) ?_
    show Go p e below _ T1 (mkF m 133 #[.val (.ref a1), .val (.int p1)] [(.int (1 : Int32))])
    refine Go.retZ X1 hx hlk hret rfl (hb hby d_prog_9_method_7_code_133) (by decide) (by decide) ?_
    exact ⟨by simp only [own_h4, hc2, if_true, if_false], rfl, e1⟩
  · refine Go.st (fun _ h => XS.ifYes X1.here hx rfl (pc0 := 93) (pc' := 100) rfl (hb hby d_prog_9_method_7_code_93) rfl ((if0 _ _).trans (flt hc2).2.2.2) (by decide) (by decide) h) ?_
    show Go p e below _ T1 (mkF m 100 #[.val (.ref a1), .val (.int p1)] [])
    refine Go.st (fun _ h => XT.iconstV X1.here hx rfl (0 : Int32) (hb hby d_prog_9_method_7_code_100) (by decide) h) ?_
    show Go p e below _ T1 (mkF m 101 #[.val (.ref a1), .val (.int p1)] [(.int (0 : Int32))])
    refine Go.st (fun _ h => XS.goto X1.here hx rfl (pc0 := 101) (pc' := 133) rfl (hb hby d_prog_9_method_7_code_101) (by decide) (by decide) h) ?_
    show Go p e below _ T1 (mkF m 133 #[.val (.ref a1), .val (.int p1)] [(.int (0 : Int32))])
    refine Go.retZ X1 hx hlk hret rfl (hb hby d_prog_9_method_7_code_133) (by decide) (by decide) ?_
    exact ⟨by simp only [own_h4, hc2, if_true, if_false], rfl, e1⟩
theorem ef_rmHolds5 (x0 : Addr) (x1 : Int32) (m : MethodId) : entryFrame m #[(.ref x0), (.int x1)] 2 = mkF m 0 #[.val (.ref x0), .val (.int x1)] [] := by first | (simp [entryFrame, mkF, argsToLocals, Value.category]; done) | rfl
set_option maxRecDepth 65536 in
set_option maxHeartbeats 40000000 in
theorem rmHolds5 (l : Launch) (Z : State) (a0 : Array Value) (hw : ∀ d ∈ tables_1, d.before a0 Z = true) (a1 : Addr) (p1 : Int32) (h0 : Heap) (E1 : Exa Z h0 a1 "com/example/intended_use/intendeduse/condition/Operator") (F1 : Fld Z h0 a1 "java/lang/Enum" "ordinal" "I" (.int (5 : Int32))) :
    Does l Z (⟨"com/example/intended_use/intendeduse/condition/Operator", "holds", "(I)Z"⟩ : MethodName) prog_9_method_7_code 2 (some .boolean) [] ({ frames := 1, cells := 0, slots := 0, locals := 13 } : Room) #[(.ref a1), (.int p1)] h0 (Val (some (.int (own_h5 p1))) h0) := by
  refine Does.intro pn_com_example_intended_use_intendeduse_condition_Operator (ef_rmHolds5 a1 p1) ?_
  intro p e s m below meth c s₁ hx hby hml hown hnm hret hlk hZ e0 X0
  show Go p e below _ s₁ (mkF m 0 #[.val (.ref a1), .val (.int p1)] [])
  refine Go.st (fun _ h => XS.aloadN X0.here hx rfl (hb hby d_prog_9_method_7_code_0) rfl rfl h) ?_
  show Go p e below _ s₁ (mkF m 1 #[.val (.ref a1), .val (.int p1)] [(.ref a1)])
  obtain ⟨T1, X1, e1, st1⟩ := own_still rfl rfl (Does.virtualUp (x' := (⟨"com/example/intended_use/intendeduse/condition/Operator", "ordinal", "()I"⟩ : MethodName)) (z := (⟨"java/lang/Enum", "ordinal", "()I"⟩ : MethodName)) (owner := "java/lang/Enum") (g := (mkF m 1 #[.val (.ref a1), .val (.int p1)] [(.ref a1)])) (a := a1) (rmOrd l Z a0 hw a1 (5 : Int32) h0 F1) X0 hx hZ hown e0 E1 (hw _ (List.mem_of_getElem? (i := 9) rfl)) (hw _ (List.mem_of_getElem? (i := 10) rfl)) (hw _ (List.mem_of_getElem? (i := 11) rfl)) (hw _ (List.mem_of_getElem? (i := 13) rfl)) (hw _ (List.mem_of_getElem? (i := 12) rfl)) (hw _ (List.mem_of_getElem? (i := 14) rfl)) (hw _ (List.mem_of_getElem? (i := 15) rfl)) (by decide) rfl (by rw [hml]; rfl) (argsL := []) (rest := []) (lenOf pd_2829I rfl) rfl (hb hby d_prog_9_method_7_code_1) (W := 0) (by show 2 * 0 + _ ≤ _; exact Nat.le_of_eq rfl) (by decide) (by decide) (by decide) (by decide))
  refine Go.st st1 ?_
  show Go p e below _ T1 (mkF m 4 #[.val (.ref a1), .val (.int p1)] [(.int (5 : Int32))])
  refine Go.st (fun _ h => XS.tswIn X1.here hx rfl (o := 100) (pc0 := 4) (pc' := 104) rfl (hb hby d_prog_9_method_7_code_4) rfl (by decide) (by decide) (by decide) (by decide) h) ?_
  show Go p e below _ T1 (mkF m 104 #[.val (.ref a1), .val (.int p1)] [])
  refine Go.st (fun _ h => XS.iloadN X1.here hx rfl (hb hby d_prog_9_method_7_code_104) rfl h) ?_
  show Go p e below _ T1 (mkF m 105 #[.val (.ref a1), .val (.int p1)] [(.int p1)])
  by_cases hc2 : p1 < (0 : Int32)
  · refine Go.st (fun _ h => XS.ifYes X1.here hx rfl (pc0 := 105) (pc' := 112) rfl (hb hby d_prog_9_method_7_code_105) rfl ((if0 _ _).trans (tlt hc2).1) (by decide) (by decide) h) ?_
    show Go p e below _ T1 (mkF m 112 #[.val (.ref a1), .val (.int p1)] [])
    refine Go.st (fun _ h => XT.iconstV X1.here hx rfl (0 : Int32) (hb hby d_prog_9_method_7_code_112) (by decide) h) ?_
    show Go p e below _ T1 (mkF m 113 #[.val (.ref a1), .val (.int p1)] [(.int (0 : Int32))])
    refine Go.st (fun _ h => XS.goto X1.here hx rfl (pc0 := 113) (pc' := 133) rfl (hb hby d_prog_9_method_7_code_113) (by decide) (by decide) h) ?_
    show Go p e below _ T1 (mkF m 133 #[.val (.ref a1), .val (.int p1)] [(.int (0 : Int32))])
    refine Go.retZ X1 hx hlk hret rfl (hb hby d_prog_9_method_7_code_133) (by decide) (by decide) ?_
    exact ⟨by simp only [own_h5, hc2, if_true, if_false], rfl, e1⟩
  · refine Go.st (fun _ h => XS.ifNo X1.here hx rfl (hb hby d_prog_9_method_7_code_105) rfl ((if0 _ _).trans (flt hc2).1) h) ?_
    show Go p e below _ T1 (mkF m 108 #[.val (.ref a1), .val (.int p1)] [])
    refine Go.st (fun _ h => XT.iconstV X1.here hx rfl (1 : Int32) (hb hby d_prog_9_method_7_code_108) (by decide) h) ?_
    show Go p e below _ T1 (mkF m 109 #[.val (.ref a1), .val (.int p1)] [(.int (1 : Int32))])
    refine Go.st (fun _ h => XS.goto X1.here hx rfl (pc0 := 109) (pc' := 133) rfl (hb hby d_prog_9_method_7_code_109) (by decide) (by decide) h) ?_
    show Go p e below _ T1 (mkF m 133 #[.val (.ref a1), .val (.int p1)] [(.int (1 : Int32))])
    refine Go.retZ X1 hx hlk hret rfl (hb hby d_prog_9_method_7_code_133) (by decide) (by decide) ?_
    exact ⟨by simp only [own_h5, hc2, if_true, if_false], rfl, e1⟩
theorem ef_rmLaw (x0 : Int32) (x1 : Int32) (m : MethodId) : entryFrame m #[(.int x0), (.int x1)] maxLocals = mkF m 0 #[.val (.int x0), .val (.int x1), .unset, .unset, .unset, .unset, .unset] [] := by first | (simp [entryFrame, mkF, argsToLocals, Value.category, maxLocals]; done) | rfl
set_option maxRecDepth 65536 in
set_option maxHeartbeats 40000000 in
theorem rmLaw (l : Launch) (Z : State) (a0 : Array Value) (hw : ∀ d ∈ tables_1, d.before a0 Z = true) (p1 p2 : Int32) (b0 b1 b2 b3 b4 b5 : Addr) (h0 : Heap) (n0 : Nat) (S_EQUAL : Sta Z h0 "com/example/intended_use/intendeduse/condition/Operator" "EQUAL" "Lcom/example/intended_use/intendeduse/condition/Operator;" (.ref b0)) (E_EQUAL : Exa Z h0 b0 "com/example/intended_use/intendeduse/condition/Operator") (F_EQUAL : Fld Z h0 b0 "java/lang/Enum" "ordinal" "I" (.int (0 : Int32))) (S_NOT_EQUAL : Sta Z h0 "com/example/intended_use/intendeduse/condition/Operator" "NOT_EQUAL" "Lcom/example/intended_use/intendeduse/condition/Operator;" (.ref b1)) (E_NOT_EQUAL : Exa Z h0 b1 "com/example/intended_use/intendeduse/condition/Operator") (F_NOT_EQUAL : Fld Z h0 b1 "java/lang/Enum" "ordinal" "I" (.int (1 : Int32))) (S_LESS : Sta Z h0 "com/example/intended_use/intendeduse/condition/Operator" "LESS" "Lcom/example/intended_use/intendeduse/condition/Operator;" (.ref b2)) (E_LESS : Exa Z h0 b2 "com/example/intended_use/intendeduse/condition/Operator") (F_LESS : Fld Z h0 b2 "java/lang/Enum" "ordinal" "I" (.int (2 : Int32))) (S_LESS_OR_EQUAL : Sta Z h0 "com/example/intended_use/intendeduse/condition/Operator" "LESS_OR_EQUAL" "Lcom/example/intended_use/intendeduse/condition/Operator;" (.ref b3)) (E_LESS_OR_EQUAL : Exa Z h0 b3 "com/example/intended_use/intendeduse/condition/Operator") (F_LESS_OR_EQUAL : Fld Z h0 b3 "java/lang/Enum" "ordinal" "I" (.int (3 : Int32))) (S_GREATER : Sta Z h0 "com/example/intended_use/intendeduse/condition/Operator" "GREATER" "Lcom/example/intended_use/intendeduse/condition/Operator;" (.ref b4)) (E_GREATER : Exa Z h0 b4 "com/example/intended_use/intendeduse/condition/Operator") (F_GREATER : Fld Z h0 b4 "java/lang/Enum" "ordinal" "I" (.int (4 : Int32))) (S_GREATER_OR_EQUAL : Sta Z h0 "com/example/intended_use/intendeduse/condition/Operator" "GREATER_OR_EQUAL" "Lcom/example/intended_use/intendeduse/condition/Operator;" (.ref b5)) (E_GREATER_OR_EQUAL : Exa Z h0 b5 "com/example/intended_use/intendeduse/condition/Operator") (F_GREATER_OR_EQUAL : Fld Z h0 b5 "java/lang/Enum" "ordinal" "I" (.int (5 : Int32))) :
    Does l Z x code maxLocals ret tables_1 room_1 #[(.int p1), (.int p2)] h0 (fun v h L => v = some (.int 1) ∧ Fr n0 L) := by
  refine Does.intro pn_com_example_intended_use_intendeduse_condition_OperatorHoldsPinLaw (ef_rmLaw p1 p2) ?_
  intro p e s m below meth c s₁ hx hby hml hown hnm hret hlk hZ e0 X0
  show Go p e below _ s₁ (mkF m 0 #[.val (.int p1), .val (.int p2), .unset, .unset, .unset, .unset, .unset] [])
  refine Go.st (fun _ h => XS.iloadN X0.here hx rfl (hb hby at_0) rfl h) ?_
  show Go p e below _ s₁ (mkF m 1 #[.val (.int p1), .val (.int p2), .unset, .unset, .unset, .unset, .unset] [(.int p1)])
  refine Go.st (fun _ h => X0.ldcI hx hown (mvT hZ (hw _ (List.mem_of_getElem? (i := 0) rfl))) rfl (hb hby at_1) h) ?_
  show Go p e below _ s₁ (mkF m 3 #[.val (.int p1), .val (.int p2), .unset, .unset, .unset, .unset, .unset] [(.int (2147483647 : Int32)), (.int p1)])
  refine Go.st (fun _ h => XS.iand X0.here hx rfl (hb hby at_3) rfl h) ?_
  show Go p e below _ s₁ (mkF m 4 #[.val (.int p1), .val (.int p2), .unset, .unset, .unset, .unset, .unset] [(.int (p1 &&& (2147483647 : Int32)))])
  refine Go.st (fun _ h => XT.bipushV X0.here hx rfl (6 : Int32) (hb hby at_4) (by decide) h) ?_
  show Go p e below _ s₁ (mkF m 6 #[.val (.int p1), .val (.int p2), .unset, .unset, .unset, .unset, .unset] [(.int (6 : Int32)), (.int (p1 &&& (2147483647 : Int32)))])
  refine Go.st (fun _ h => iremM X0 hx rfl (hb hby at_6) rfl (by decide) h) ?_
  show Go p e below _ s₁ (mkF m 7 #[.val (.int p1), .val (.int p2), .unset, .unset, .unset, .unset, .unset] [(.int ((p1 &&& (2147483647 : Int32)) % (6 : Int32)))])
  refine Go.st (fun _ h => XS.istoreN X0.here hx rfl (hb hby at_7) rfl (l' := #[.val (.int p1), .val (.int p2), .val (.int ((p1 &&& (2147483647 : Int32)) % (6 : Int32))), .unset, .unset, .unset, .unset]) rfl h) ?_
  show Go p e below _ s₁ (mkF m 8 #[.val (.int p1), .val (.int p2), .val (.int ((p1 &&& (2147483647 : Int32)) % (6 : Int32))), .unset, .unset, .unset, .unset] [])
  refine Go.st (fun _ h => XS.iloadN X0.here hx rfl (hb hby at_8) rfl h) ?_
  show Go p e below _ s₁ (mkF m 9 #[.val (.int p1), .val (.int p2), .val (.int ((p1 &&& (2147483647 : Int32)) % (6 : Int32))), .unset, .unset, .unset, .unset] [(.int ((p1 &&& (2147483647 : Int32)) % (6 : Int32)))])
  by_cases hc1 : ((p1 &&& (2147483647 : Int32)) % (6 : Int32)) = (0 : Int32)
  · refine Go.st (fun _ h => XS.ifNo X0.here hx rfl (hb hby at_9) rfl ((if0 _ _).trans (teq hc1).2) h) ?_
    show Go p e below _ s₁ (mkF m 12 #[.val (.int p1), .val (.int p2), .val (.int ((p1 &&& (2147483647 : Int32)) % (6 : Int32))), .unset, .unset, .unset, .unset] [])
    obtain ⟨T2, X2, e2, st2⟩ := getS2 X0 hx hZ hown (host := "") (Or.inl (hw _ (List.mem_of_getElem? (i := 1) rfl))) Via.refl e0 S_EQUAL (g := (mkF m 12 #[.val (.int p1), .val (.int p2), .val (.int ((p1 &&& (2147483647 : Int32)) % (6 : Int32))), .unset, .unset, .unset, .unset] [])) rfl (hb hby at_12)
    refine Go.st st2 ?_
    show Go p e below _ T2 (mkF m 15 #[.val (.int p1), .val (.int p2), .val (.int ((p1 &&& (2147483647 : Int32)) % (6 : Int32))), .unset, .unset, .unset, .unset] [(.ref b0)])
    refine Go.st (fun _ h => XS.astoreN X2.here hx rfl (hb hby at_15) rfl rfl (l' := #[.val (.int p1), .val (.int p2), .val (.int ((p1 &&& (2147483647 : Int32)) % (6 : Int32))), .val (.ref b0), .unset, .unset, .unset]) rfl h) ?_
    show Go p e below _ T2 (mkF m 16 #[.val (.int p1), .val (.int p2), .val (.int ((p1 &&& (2147483647 : Int32)) % (6 : Int32))), .val (.ref b0), .unset, .unset, .unset] [])
    refine Go.st (fun _ h => XT.iconstV X2.here hx rfl (2 : Int32) (hb hby at_16) (by decide) h) ?_
    show Go p e below _ T2 (mkF m 17 #[.val (.int p1), .val (.int p2), .val (.int ((p1 &&& (2147483647 : Int32)) % (6 : Int32))), .val (.ref b0), .unset, .unset, .unset] [(.int (2 : Int32))])
    refine Go.st (fun _ h => XS.istore X2.here hx rfl (hb hby at_17) rfl (l' := #[.val (.int p1), .val (.int p2), .val (.int ((p1 &&& (2147483647 : Int32)) % (6 : Int32))), .val (.ref b0), .val (.int (2 : Int32)), .unset, .unset]) rfl h) ?_
    show Go p e below _ T2 (mkF m 19 #[.val (.int p1), .val (.int p2), .val (.int ((p1 &&& (2147483647 : Int32)) % (6 : Int32))), .val (.ref b0), .val (.int (2 : Int32)), .unset, .unset] [])
    refine Go.st (fun _ h => XS.goto X2.here hx rfl (pc0 := 19) (pc' := 90) rfl (hb hby at_19) (by decide) (by decide) h) ?_
    show Go p e below _ T2 (mkF m 90 #[.val (.int p1), .val (.int p2), .val (.int ((p1 &&& (2147483647 : Int32)) % (6 : Int32))), .val (.ref b0), .val (.int (2 : Int32)), .unset, .unset] [])
    refine Go.st (fun _ h => XS.iloadN X2.here hx rfl (hb hby at_90) rfl h) ?_
    show Go p e below _ T2 (mkF m 91 #[.val (.int p1), .val (.int p2), .val (.int ((p1 &&& (2147483647 : Int32)) % (6 : Int32))), .val (.ref b0), .val (.int (2 : Int32)), .unset, .unset] [(.int p2)])
    by_cases hc3 : p2 < (0 : Int32)
    · refine Go.st (fun _ h => XS.ifNo X2.here hx rfl (hb hby at_91) rfl ((if0 _ _).trans (tlt hc3).2.1) h) ?_
      show Go p e below _ T2 (mkF m 94 #[.val (.int p1), .val (.int p2), .val (.int ((p1 &&& (2147483647 : Int32)) % (6 : Int32))), .val (.ref b0), .val (.int (2 : Int32)), .unset, .unset] [])
      refine Go.st (fun _ h => XT.iconstV X2.here hx rfl (1 : Int32) (hb hby at_94) (by decide) h) ?_
      show Go p e below _ T2 (mkF m 95 #[.val (.int p1), .val (.int p2), .val (.int ((p1 &&& (2147483647 : Int32)) % (6 : Int32))), .val (.ref b0), .val (.int (2 : Int32)), .unset, .unset] [(.int (1 : Int32))])
      refine Go.st (fun _ h => XS.istore X2.here hx rfl (hb hby at_95) rfl (l' := #[.val (.int p1), .val (.int p2), .val (.int ((p1 &&& (2147483647 : Int32)) % (6 : Int32))), .val (.ref b0), .val (.int (2 : Int32)), .val (.int (1 : Int32)), .unset]) rfl h) ?_
      show Go p e below _ T2 (mkF m 97 #[.val (.int p1), .val (.int p2), .val (.int ((p1 &&& (2147483647 : Int32)) % (6 : Int32))), .val (.ref b0), .val (.int (2 : Int32)), .val (.int (1 : Int32)), .unset] [])
      refine Go.st (fun _ h => XS.goto X2.here hx rfl (pc0 := 97) (pc' := 113) rfl (hb hby at_97) (by decide) (by decide) h) ?_
      show Go p e below _ T2 (mkF m 113 #[.val (.int p1), .val (.int p2), .val (.int ((p1 &&& (2147483647 : Int32)) % (6 : Int32))), .val (.ref b0), .val (.int (2 : Int32)), .val (.int (1 : Int32)), .unset] [])
      refine Go.st (fun _ h => XS.iload X2.here hx rfl (hb hby at_113) rfl h) ?_
      show Go p e below _ T2 (mkF m 115 #[.val (.int p1), .val (.int p2), .val (.int ((p1 &&& (2147483647 : Int32)) % (6 : Int32))), .val (.ref b0), .val (.int (2 : Int32)), .val (.int (1 : Int32)), .unset] [(.int (2 : Int32))])
      refine Go.st (fun _ h => XS.iload X2.here hx rfl (hb hby at_115) rfl h) ?_
      show Go p e below _ T2 (mkF m 117 #[.val (.int p1), .val (.int p2), .val (.int ((p1 &&& (2147483647 : Int32)) % (6 : Int32))), .val (.ref b0), .val (.int (2 : Int32)), .val (.int (1 : Int32)), .unset] [(.int (1 : Int32)), (.int (2 : Int32))])
      refine Go.st (fun _ h => XS.iand X2.here hx rfl (hb hby at_117) rfl h) ?_
      show Go p e below _ T2 (mkF m 118 #[.val (.int p1), .val (.int p2), .val (.int ((p1 &&& (2147483647 : Int32)) % (6 : Int32))), .val (.ref b0), .val (.int (2 : Int32)), .val (.int (1 : Int32)), .unset] [(.int ((2 : Int32) &&& (1 : Int32)))])
      refine Go.st (fun _ h => XS.ifYes X2.here hx rfl (pc0 := 118) (pc' := 125) rfl (hb hby at_118) rfl (by decide) (by decide) (by decide) h) ?_
      show Go p e below _ T2 (mkF m 125 #[.val (.int p1), .val (.int p2), .val (.int ((p1 &&& (2147483647 : Int32)) % (6 : Int32))), .val (.ref b0), .val (.int (2 : Int32)), .val (.int (1 : Int32)), .unset] [])
      refine Go.st (fun _ h => XT.iconstV X2.here hx rfl (0 : Int32) (hb hby at_125) (by decide) h) ?_
      show Go p e below _ T2 (mkF m 126 #[.val (.int p1), .val (.int p2), .val (.int ((p1 &&& (2147483647 : Int32)) % (6 : Int32))), .val (.ref b0), .val (.int (2 : Int32)), .val (.int (1 : Int32)), .unset] [(.int (0 : Int32))])
      refine Go.st (fun _ h => XS.istore X2.here hx rfl (hb hby at_126) rfl (l' := #[.val (.int p1), .val (.int p2), .val (.int ((p1 &&& (2147483647 : Int32)) % (6 : Int32))), .val (.ref b0), .val (.int (2 : Int32)), .val (.int (1 : Int32)), .val (.int (0 : Int32))]) rfl h) ?_
      show Go p e below _ T2 (mkF m 128 #[.val (.int p1), .val (.int p2), .val (.int ((p1 &&& (2147483647 : Int32)) % (6 : Int32))), .val (.ref b0), .val (.int (2 : Int32)), .val (.int (1 : Int32)), .val (.int (0 : Int32))] [])
      refine Go.st (fun _ h => XS.aloadN X2.here hx rfl (hb hby at_128) rfl rfl h) ?_
      show Go p e below _ T2 (mkF m 129 #[.val (.int p1), .val (.int p2), .val (.int ((p1 &&& (2147483647 : Int32)) % (6 : Int32))), .val (.ref b0), .val (.int (2 : Int32)), .val (.int (1 : Int32)), .val (.int (0 : Int32))] [(.ref b0)])
      refine Go.st (fun _ h => XS.iloadN X2.here hx rfl (hb hby at_129) rfl h) ?_
      show Go p e below _ T2 (mkF m 130 #[.val (.int p1), .val (.int p2), .val (.int ((p1 &&& (2147483647 : Int32)) % (6 : Int32))), .val (.ref b0), .val (.int (2 : Int32)), .val (.int (1 : Int32)), .val (.int (0 : Int32))] [(.int p2), (.ref b0)])
      obtain ⟨T4, X4, e4, st4⟩ := own_still rfl rfl (Does.virtual (y := (⟨"com/example/intended_use/intendeduse/condition/Operator", "holds", "(I)Z"⟩ : MethodName)) (g := (mkF m 130 #[.val (.int p1), .val (.int p2), .val (.int ((p1 &&& (2147483647 : Int32)) % (6 : Int32))), .val (.ref b0), .val (.int (2 : Int32)), .val (.int (1 : Int32)), .val (.int (0 : Int32))] [(.int p2), (.ref b0)])) (a := b0) (rmHolds0 l Z a0 hw b0 p2 h0 E_EQUAL F_EQUAL) X2 hx hZ hown e2 E_EQUAL (hw _ (List.mem_of_getElem? (i := 4) rfl)) (hw _ (List.mem_of_getElem? (i := 5) rfl)) (hw _ (List.mem_of_getElem? (i := 7) rfl)) (hw _ (List.mem_of_getElem? (i := 6) rfl)) (hw _ (List.mem_of_getElem? (i := 2) rfl)) (hw _ (List.mem_of_getElem? (i := 8) rfl)) (by decide) rfl (by rw [hml]; rfl) (argsL := [(.int p2)]) (rest := []) (lenOf pd_28I29Z rfl) rfl (hb hby at_130) (W := 0) (by show 2 * 0 + _ ≤ _; exact Nat.le_of_eq rfl) (by decide) (by decide) (by decide) (by decide))
      refine Go.st st4 ?_
      show Go p e below _ T4 (mkF m 133 #[.val (.int p1), .val (.int p2), .val (.int ((p1 &&& (2147483647 : Int32)) % (6 : Int32))), .val (.ref b0), .val (.int (2 : Int32)), .val (.int (1 : Int32)), .val (.int (0 : Int32))] [(.int (own_h0 p2))])
      refine Go.st (fun _ h => XS.iload X4.here hx rfl (hb hby at_133) rfl h) ?_
      show Go p e below _ T4 (mkF m 135 #[.val (.int p1), .val (.int p2), .val (.int ((p1 &&& (2147483647 : Int32)) % (6 : Int32))), .val (.ref b0), .val (.int (2 : Int32)), .val (.int (1 : Int32)), .val (.int (0 : Int32))] [(.int (0 : Int32)), (.int (own_h0 p2))])
      refine Go.st (fun _ h => XS.icmpNo X4.here hx rfl (hb hby at_135) rfl ((teq (own_h0n hc3 : (own_h0 p2) = (0 : Int32))).2) h) ?_
      show Go p e below _ T4 (mkF m 138 #[.val (.int p1), .val (.int p2), .val (.int ((p1 &&& (2147483647 : Int32)) % (6 : Int32))), .val (.ref b0), .val (.int (2 : Int32)), .val (.int (1 : Int32)), .val (.int (0 : Int32))] [])
      refine Go.st (fun _ h => XT.iconstV X4.here hx rfl (1 : Int32) (hb hby at_138) (by decide) h) ?_
      show Go p e below _ T4 (mkF m 139 #[.val (.int p1), .val (.int p2), .val (.int ((p1 &&& (2147483647 : Int32)) % (6 : Int32))), .val (.ref b0), .val (.int (2 : Int32)), .val (.int (1 : Int32)), .val (.int (0 : Int32))] [(.int (1 : Int32))])
      refine Go.st (fun _ h => XS.goto X4.here hx rfl (pc0 := 139) (pc' := 143) rfl (hb hby at_139) (by decide) (by decide) h) ?_
      show Go p e below _ T4 (mkF m 143 #[.val (.int p1), .val (.int p2), .val (.int ((p1 &&& (2147483647 : Int32)) % (6 : Int32))), .val (.ref b0), .val (.int (2 : Int32)), .val (.int (1 : Int32)), .val (.int (0 : Int32))] [(.int (1 : Int32))])
      refine Go.retZ X4 hx hlk hret rfl (hb hby at_143) (by decide) (by decide) ?_
      exact ⟨rfl, Fr.nil _⟩
    · refine Go.st (fun _ h => XS.ifYes X2.here hx rfl (pc0 := 91) (pc' := 100) rfl (hb hby at_91) rfl ((if0 _ _).trans (flt hc3).2.1) (by decide) (by decide) h) ?_
      show Go p e below _ T2 (mkF m 100 #[.val (.int p1), .val (.int p2), .val (.int ((p1 &&& (2147483647 : Int32)) % (6 : Int32))), .val (.ref b0), .val (.int (2 : Int32)), .unset, .unset] [])
      refine Go.st (fun _ h => XS.iloadN X2.here hx rfl (hb hby at_100) rfl h) ?_
      show Go p e below _ T2 (mkF m 101 #[.val (.int p1), .val (.int p2), .val (.int ((p1 &&& (2147483647 : Int32)) % (6 : Int32))), .val (.ref b0), .val (.int (2 : Int32)), .unset, .unset] [(.int p2)])
      by_cases hc5 : p2 = (0 : Int32)
      · refine Go.st (fun _ h => XS.ifNo X2.here hx rfl (hb hby at_101) rfl ((if0 _ _).trans (teq hc5).2) h) ?_
        show Go p e below _ T2 (mkF m 104 #[.val (.int p1), .val (.int p2), .val (.int ((p1 &&& (2147483647 : Int32)) % (6 : Int32))), .val (.ref b0), .val (.int (2 : Int32)), .unset, .unset] [])
        refine Go.st (fun _ h => XT.iconstV X2.here hx rfl (2 : Int32) (hb hby at_104) (by decide) h) ?_
        show Go p e below _ T2 (mkF m 105 #[.val (.int p1), .val (.int p2), .val (.int ((p1 &&& (2147483647 : Int32)) % (6 : Int32))), .val (.ref b0), .val (.int (2 : Int32)), .unset, .unset] [(.int (2 : Int32))])
        refine Go.st (fun _ h => XS.istore X2.here hx rfl (hb hby at_105) rfl (l' := #[.val (.int p1), .val (.int p2), .val (.int ((p1 &&& (2147483647 : Int32)) % (6 : Int32))), .val (.ref b0), .val (.int (2 : Int32)), .val (.int (2 : Int32)), .unset]) rfl h) ?_
        show Go p e below _ T2 (mkF m 107 #[.val (.int p1), .val (.int p2), .val (.int ((p1 &&& (2147483647 : Int32)) % (6 : Int32))), .val (.ref b0), .val (.int (2 : Int32)), .val (.int (2 : Int32)), .unset] [])
        refine Go.st (fun _ h => XS.goto X2.here hx rfl (pc0 := 107) (pc' := 113) rfl (hb hby at_107) (by decide) (by decide) h) ?_
        show Go p e below _ T2 (mkF m 113 #[.val (.int p1), .val (.int p2), .val (.int ((p1 &&& (2147483647 : Int32)) % (6 : Int32))), .val (.ref b0), .val (.int (2 : Int32)), .val (.int (2 : Int32)), .unset] [])
        refine Go.st (fun _ h => XS.iload X2.here hx rfl (hb hby at_113) rfl h) ?_
        show Go p e below _ T2 (mkF m 115 #[.val (.int p1), .val (.int p2), .val (.int ((p1 &&& (2147483647 : Int32)) % (6 : Int32))), .val (.ref b0), .val (.int (2 : Int32)), .val (.int (2 : Int32)), .unset] [(.int (2 : Int32))])
        refine Go.st (fun _ h => XS.iload X2.here hx rfl (hb hby at_115) rfl h) ?_
        show Go p e below _ T2 (mkF m 117 #[.val (.int p1), .val (.int p2), .val (.int ((p1 &&& (2147483647 : Int32)) % (6 : Int32))), .val (.ref b0), .val (.int (2 : Int32)), .val (.int (2 : Int32)), .unset] [(.int (2 : Int32)), (.int (2 : Int32))])
        refine Go.st (fun _ h => XS.iand X2.here hx rfl (hb hby at_117) rfl h) ?_
        show Go p e below _ T2 (mkF m 118 #[.val (.int p1), .val (.int p2), .val (.int ((p1 &&& (2147483647 : Int32)) % (6 : Int32))), .val (.ref b0), .val (.int (2 : Int32)), .val (.int (2 : Int32)), .unset] [(.int ((2 : Int32) &&& (2 : Int32)))])
        refine Go.st (fun _ h => XS.ifNo X2.here hx rfl (hb hby at_118) rfl (by decide) h) ?_
        show Go p e below _ T2 (mkF m 121 #[.val (.int p1), .val (.int p2), .val (.int ((p1 &&& (2147483647 : Int32)) % (6 : Int32))), .val (.ref b0), .val (.int (2 : Int32)), .val (.int (2 : Int32)), .unset] [])
        refine Go.st (fun _ h => XT.iconstV X2.here hx rfl (1 : Int32) (hb hby at_121) (by decide) h) ?_
        show Go p e below _ T2 (mkF m 122 #[.val (.int p1), .val (.int p2), .val (.int ((p1 &&& (2147483647 : Int32)) % (6 : Int32))), .val (.ref b0), .val (.int (2 : Int32)), .val (.int (2 : Int32)), .unset] [(.int (1 : Int32))])
        refine Go.st (fun _ h => XS.goto X2.here hx rfl (pc0 := 122) (pc' := 126) rfl (hb hby at_122) (by decide) (by decide) h) ?_
        show Go p e below _ T2 (mkF m 126 #[.val (.int p1), .val (.int p2), .val (.int ((p1 &&& (2147483647 : Int32)) % (6 : Int32))), .val (.ref b0), .val (.int (2 : Int32)), .val (.int (2 : Int32)), .unset] [(.int (1 : Int32))])
        refine Go.st (fun _ h => XS.istore X2.here hx rfl (hb hby at_126) rfl (l' := #[.val (.int p1), .val (.int p2), .val (.int ((p1 &&& (2147483647 : Int32)) % (6 : Int32))), .val (.ref b0), .val (.int (2 : Int32)), .val (.int (2 : Int32)), .val (.int (1 : Int32))]) rfl h) ?_
        show Go p e below _ T2 (mkF m 128 #[.val (.int p1), .val (.int p2), .val (.int ((p1 &&& (2147483647 : Int32)) % (6 : Int32))), .val (.ref b0), .val (.int (2 : Int32)), .val (.int (2 : Int32)), .val (.int (1 : Int32))] [])
        refine Go.st (fun _ h => XS.aloadN X2.here hx rfl (hb hby at_128) rfl rfl h) ?_
        show Go p e below _ T2 (mkF m 129 #[.val (.int p1), .val (.int p2), .val (.int ((p1 &&& (2147483647 : Int32)) % (6 : Int32))), .val (.ref b0), .val (.int (2 : Int32)), .val (.int (2 : Int32)), .val (.int (1 : Int32))] [(.ref b0)])
        refine Go.st (fun _ h => XS.iloadN X2.here hx rfl (hb hby at_129) rfl h) ?_
        show Go p e below _ T2 (mkF m 130 #[.val (.int p1), .val (.int p2), .val (.int ((p1 &&& (2147483647 : Int32)) % (6 : Int32))), .val (.ref b0), .val (.int (2 : Int32)), .val (.int (2 : Int32)), .val (.int (1 : Int32))] [(.int p2), (.ref b0)])
        obtain ⟨T6, X6, e6, st6⟩ := own_still rfl rfl (Does.virtual (y := (⟨"com/example/intended_use/intendeduse/condition/Operator", "holds", "(I)Z"⟩ : MethodName)) (g := (mkF m 130 #[.val (.int p1), .val (.int p2), .val (.int ((p1 &&& (2147483647 : Int32)) % (6 : Int32))), .val (.ref b0), .val (.int (2 : Int32)), .val (.int (2 : Int32)), .val (.int (1 : Int32))] [(.int p2), (.ref b0)])) (a := b0) (rmHolds0 l Z a0 hw b0 p2 h0 E_EQUAL F_EQUAL) X2 hx hZ hown e2 E_EQUAL (hw _ (List.mem_of_getElem? (i := 4) rfl)) (hw _ (List.mem_of_getElem? (i := 5) rfl)) (hw _ (List.mem_of_getElem? (i := 7) rfl)) (hw _ (List.mem_of_getElem? (i := 6) rfl)) (hw _ (List.mem_of_getElem? (i := 2) rfl)) (hw _ (List.mem_of_getElem? (i := 8) rfl)) (by decide) rfl (by rw [hml]; rfl) (argsL := [(.int p2)]) (rest := []) (lenOf pd_28I29Z rfl) rfl (hb hby at_130) (W := 0) (by show 2 * 0 + _ ≤ _; exact Nat.le_of_eq rfl) (by decide) (by decide) (by decide) (by decide))
        refine Go.st st6 ?_
        show Go p e below _ T6 (mkF m 133 #[.val (.int p1), .val (.int p2), .val (.int ((p1 &&& (2147483647 : Int32)) % (6 : Int32))), .val (.ref b0), .val (.int (2 : Int32)), .val (.int (2 : Int32)), .val (.int (1 : Int32))] [(.int (own_h0 p2))])
        refine Go.st (fun _ h => XS.iload X6.here hx rfl (hb hby at_133) rfl h) ?_
        show Go p e below _ T6 (mkF m 135 #[.val (.int p1), .val (.int p2), .val (.int ((p1 &&& (2147483647 : Int32)) % (6 : Int32))), .val (.ref b0), .val (.int (2 : Int32)), .val (.int (2 : Int32)), .val (.int (1 : Int32))] [(.int (1 : Int32)), (.int (own_h0 p2))])
        refine Go.st (fun _ h => XS.icmpNo X6.here hx rfl (hb hby at_135) rfl ((teq (own_h0z hc3 hc5 : (own_h0 p2) = (1 : Int32))).2) h) ?_
        show Go p e below _ T6 (mkF m 138 #[.val (.int p1), .val (.int p2), .val (.int ((p1 &&& (2147483647 : Int32)) % (6 : Int32))), .val (.ref b0), .val (.int (2 : Int32)), .val (.int (2 : Int32)), .val (.int (1 : Int32))] [])
        refine Go.st (fun _ h => XT.iconstV X6.here hx rfl (1 : Int32) (hb hby at_138) (by decide) h) ?_
        show Go p e below _ T6 (mkF m 139 #[.val (.int p1), .val (.int p2), .val (.int ((p1 &&& (2147483647 : Int32)) % (6 : Int32))), .val (.ref b0), .val (.int (2 : Int32)), .val (.int (2 : Int32)), .val (.int (1 : Int32))] [(.int (1 : Int32))])
        refine Go.st (fun _ h => XS.goto X6.here hx rfl (pc0 := 139) (pc' := 143) rfl (hb hby at_139) (by decide) (by decide) h) ?_
        show Go p e below _ T6 (mkF m 143 #[.val (.int p1), .val (.int p2), .val (.int ((p1 &&& (2147483647 : Int32)) % (6 : Int32))), .val (.ref b0), .val (.int (2 : Int32)), .val (.int (2 : Int32)), .val (.int (1 : Int32))] [(.int (1 : Int32))])
        refine Go.retZ X6 hx hlk hret rfl (hb hby at_143) (by decide) (by decide) ?_
        exact ⟨rfl, Fr.nil _⟩
      · refine Go.st (fun _ h => XS.ifYes X2.here hx rfl (pc0 := 101) (pc' := 110) rfl (hb hby at_101) rfl ((if0 _ _).trans (feq hc5).2) (by decide) (by decide) h) ?_
        show Go p e below _ T2 (mkF m 110 #[.val (.int p1), .val (.int p2), .val (.int ((p1 &&& (2147483647 : Int32)) % (6 : Int32))), .val (.ref b0), .val (.int (2 : Int32)), .unset, .unset] [])
        refine Go.st (fun _ h => XT.iconstV X2.here hx rfl (4 : Int32) (hb hby at_110) (by decide) h) ?_
        show Go p e below _ T2 (mkF m 111 #[.val (.int p1), .val (.int p2), .val (.int ((p1 &&& (2147483647 : Int32)) % (6 : Int32))), .val (.ref b0), .val (.int (2 : Int32)), .unset, .unset] [(.int (4 : Int32))])
        refine Go.st (fun _ h => XS.istore X2.here hx rfl (hb hby at_111) rfl (l' := #[.val (.int p1), .val (.int p2), .val (.int ((p1 &&& (2147483647 : Int32)) % (6 : Int32))), .val (.ref b0), .val (.int (2 : Int32)), .val (.int (4 : Int32)), .unset]) rfl h) ?_
        show Go p e below _ T2 (mkF m 113 #[.val (.int p1), .val (.int p2), .val (.int ((p1 &&& (2147483647 : Int32)) % (6 : Int32))), .val (.ref b0), .val (.int (2 : Int32)), .val (.int (4 : Int32)), .unset] [])
        refine Go.st (fun _ h => XS.iload X2.here hx rfl (hb hby at_113) rfl h) ?_
        show Go p e below _ T2 (mkF m 115 #[.val (.int p1), .val (.int p2), .val (.int ((p1 &&& (2147483647 : Int32)) % (6 : Int32))), .val (.ref b0), .val (.int (2 : Int32)), .val (.int (4 : Int32)), .unset] [(.int (2 : Int32))])
        refine Go.st (fun _ h => XS.iload X2.here hx rfl (hb hby at_115) rfl h) ?_
        show Go p e below _ T2 (mkF m 117 #[.val (.int p1), .val (.int p2), .val (.int ((p1 &&& (2147483647 : Int32)) % (6 : Int32))), .val (.ref b0), .val (.int (2 : Int32)), .val (.int (4 : Int32)), .unset] [(.int (4 : Int32)), (.int (2 : Int32))])
        refine Go.st (fun _ h => XS.iand X2.here hx rfl (hb hby at_117) rfl h) ?_
        show Go p e below _ T2 (mkF m 118 #[.val (.int p1), .val (.int p2), .val (.int ((p1 &&& (2147483647 : Int32)) % (6 : Int32))), .val (.ref b0), .val (.int (2 : Int32)), .val (.int (4 : Int32)), .unset] [(.int ((2 : Int32) &&& (4 : Int32)))])
        refine Go.st (fun _ h => XS.ifYes X2.here hx rfl (pc0 := 118) (pc' := 125) rfl (hb hby at_118) rfl (by decide) (by decide) (by decide) h) ?_
        show Go p e below _ T2 (mkF m 125 #[.val (.int p1), .val (.int p2), .val (.int ((p1 &&& (2147483647 : Int32)) % (6 : Int32))), .val (.ref b0), .val (.int (2 : Int32)), .val (.int (4 : Int32)), .unset] [])
        refine Go.st (fun _ h => XT.iconstV X2.here hx rfl (0 : Int32) (hb hby at_125) (by decide) h) ?_
        show Go p e below _ T2 (mkF m 126 #[.val (.int p1), .val (.int p2), .val (.int ((p1 &&& (2147483647 : Int32)) % (6 : Int32))), .val (.ref b0), .val (.int (2 : Int32)), .val (.int (4 : Int32)), .unset] [(.int (0 : Int32))])
        refine Go.st (fun _ h => XS.istore X2.here hx rfl (hb hby at_126) rfl (l' := #[.val (.int p1), .val (.int p2), .val (.int ((p1 &&& (2147483647 : Int32)) % (6 : Int32))), .val (.ref b0), .val (.int (2 : Int32)), .val (.int (4 : Int32)), .val (.int (0 : Int32))]) rfl h) ?_
        show Go p e below _ T2 (mkF m 128 #[.val (.int p1), .val (.int p2), .val (.int ((p1 &&& (2147483647 : Int32)) % (6 : Int32))), .val (.ref b0), .val (.int (2 : Int32)), .val (.int (4 : Int32)), .val (.int (0 : Int32))] [])
        refine Go.st (fun _ h => XS.aloadN X2.here hx rfl (hb hby at_128) rfl rfl h) ?_
        show Go p e below _ T2 (mkF m 129 #[.val (.int p1), .val (.int p2), .val (.int ((p1 &&& (2147483647 : Int32)) % (6 : Int32))), .val (.ref b0), .val (.int (2 : Int32)), .val (.int (4 : Int32)), .val (.int (0 : Int32))] [(.ref b0)])
        refine Go.st (fun _ h => XS.iloadN X2.here hx rfl (hb hby at_129) rfl h) ?_
        show Go p e below _ T2 (mkF m 130 #[.val (.int p1), .val (.int p2), .val (.int ((p1 &&& (2147483647 : Int32)) % (6 : Int32))), .val (.ref b0), .val (.int (2 : Int32)), .val (.int (4 : Int32)), .val (.int (0 : Int32))] [(.int p2), (.ref b0)])
        obtain ⟨T7, X7, e7, st7⟩ := own_still rfl rfl (Does.virtual (y := (⟨"com/example/intended_use/intendeduse/condition/Operator", "holds", "(I)Z"⟩ : MethodName)) (g := (mkF m 130 #[.val (.int p1), .val (.int p2), .val (.int ((p1 &&& (2147483647 : Int32)) % (6 : Int32))), .val (.ref b0), .val (.int (2 : Int32)), .val (.int (4 : Int32)), .val (.int (0 : Int32))] [(.int p2), (.ref b0)])) (a := b0) (rmHolds0 l Z a0 hw b0 p2 h0 E_EQUAL F_EQUAL) X2 hx hZ hown e2 E_EQUAL (hw _ (List.mem_of_getElem? (i := 4) rfl)) (hw _ (List.mem_of_getElem? (i := 5) rfl)) (hw _ (List.mem_of_getElem? (i := 7) rfl)) (hw _ (List.mem_of_getElem? (i := 6) rfl)) (hw _ (List.mem_of_getElem? (i := 2) rfl)) (hw _ (List.mem_of_getElem? (i := 8) rfl)) (by decide) rfl (by rw [hml]; rfl) (argsL := [(.int p2)]) (rest := []) (lenOf pd_28I29Z rfl) rfl (hb hby at_130) (W := 0) (by show 2 * 0 + _ ≤ _; exact Nat.le_of_eq rfl) (by decide) (by decide) (by decide) (by decide))
        refine Go.st st7 ?_
        show Go p e below _ T7 (mkF m 133 #[.val (.int p1), .val (.int p2), .val (.int ((p1 &&& (2147483647 : Int32)) % (6 : Int32))), .val (.ref b0), .val (.int (2 : Int32)), .val (.int (4 : Int32)), .val (.int (0 : Int32))] [(.int (own_h0 p2))])
        refine Go.st (fun _ h => XS.iload X7.here hx rfl (hb hby at_133) rfl h) ?_
        show Go p e below _ T7 (mkF m 135 #[.val (.int p1), .val (.int p2), .val (.int ((p1 &&& (2147483647 : Int32)) % (6 : Int32))), .val (.ref b0), .val (.int (2 : Int32)), .val (.int (4 : Int32)), .val (.int (0 : Int32))] [(.int (0 : Int32)), (.int (own_h0 p2))])
        refine Go.st (fun _ h => XS.icmpNo X7.here hx rfl (hb hby at_135) rfl ((teq (own_h0p hc3 hc5 : (own_h0 p2) = (0 : Int32))).2) h) ?_
        show Go p e below _ T7 (mkF m 138 #[.val (.int p1), .val (.int p2), .val (.int ((p1 &&& (2147483647 : Int32)) % (6 : Int32))), .val (.ref b0), .val (.int (2 : Int32)), .val (.int (4 : Int32)), .val (.int (0 : Int32))] [])
        refine Go.st (fun _ h => XT.iconstV X7.here hx rfl (1 : Int32) (hb hby at_138) (by decide) h) ?_
        show Go p e below _ T7 (mkF m 139 #[.val (.int p1), .val (.int p2), .val (.int ((p1 &&& (2147483647 : Int32)) % (6 : Int32))), .val (.ref b0), .val (.int (2 : Int32)), .val (.int (4 : Int32)), .val (.int (0 : Int32))] [(.int (1 : Int32))])
        refine Go.st (fun _ h => XS.goto X7.here hx rfl (pc0 := 139) (pc' := 143) rfl (hb hby at_139) (by decide) (by decide) h) ?_
        show Go p e below _ T7 (mkF m 143 #[.val (.int p1), .val (.int p2), .val (.int ((p1 &&& (2147483647 : Int32)) % (6 : Int32))), .val (.ref b0), .val (.int (2 : Int32)), .val (.int (4 : Int32)), .val (.int (0 : Int32))] [(.int (1 : Int32))])
        refine Go.retZ X7 hx hlk hret rfl (hb hby at_143) (by decide) (by decide) ?_
        exact ⟨rfl, Fr.nil _⟩
  · refine Go.st (fun _ h => XS.ifYes X0.here hx rfl (pc0 := 9) (pc' := 22) rfl (hb hby at_9) rfl ((if0 _ _).trans (feq hc1).2) (by decide) (by decide) h) ?_
    show Go p e below _ s₁ (mkF m 22 #[.val (.int p1), .val (.int p2), .val (.int ((p1 &&& (2147483647 : Int32)) % (6 : Int32))), .unset, .unset, .unset, .unset] [])
    refine Go.st (fun _ h => XS.iloadN X0.here hx rfl (hb hby at_22) rfl h) ?_
    show Go p e below _ s₁ (mkF m 23 #[.val (.int p1), .val (.int p2), .val (.int ((p1 &&& (2147483647 : Int32)) % (6 : Int32))), .unset, .unset, .unset, .unset] [(.int ((p1 &&& (2147483647 : Int32)) % (6 : Int32)))])
    refine Go.st (fun _ h => XT.iconstV X0.here hx rfl (1 : Int32) (hb hby at_23) (by decide) h) ?_
    show Go p e below _ s₁ (mkF m 24 #[.val (.int p1), .val (.int p2), .val (.int ((p1 &&& (2147483647 : Int32)) % (6 : Int32))), .unset, .unset, .unset, .unset] [(.int (1 : Int32)), (.int ((p1 &&& (2147483647 : Int32)) % (6 : Int32)))])
    by_cases hc8 : ((p1 &&& (2147483647 : Int32)) % (6 : Int32)) = (1 : Int32)
    · refine Go.st (fun _ h => XS.icmpNo X0.here hx rfl (hb hby at_24) rfl ((teq hc8).2) h) ?_
      show Go p e below _ s₁ (mkF m 27 #[.val (.int p1), .val (.int p2), .val (.int ((p1 &&& (2147483647 : Int32)) % (6 : Int32))), .unset, .unset, .unset, .unset] [])
      obtain ⟨T9, X9, e9, st9⟩ := getS2 X0 hx hZ hown (host := "") (Or.inl (hw _ (List.mem_of_getElem? (i := 22) rfl))) Via.refl e0 S_NOT_EQUAL (g := (mkF m 27 #[.val (.int p1), .val (.int p2), .val (.int ((p1 &&& (2147483647 : Int32)) % (6 : Int32))), .unset, .unset, .unset, .unset] [])) rfl (hb hby at_27)
      refine Go.st st9 ?_
      show Go p e below _ T9 (mkF m 30 #[.val (.int p1), .val (.int p2), .val (.int ((p1 &&& (2147483647 : Int32)) % (6 : Int32))), .unset, .unset, .unset, .unset] [(.ref b1)])
      refine Go.st (fun _ h => XS.astoreN X9.here hx rfl (hb hby at_30) rfl rfl (l' := #[.val (.int p1), .val (.int p2), .val (.int ((p1 &&& (2147483647 : Int32)) % (6 : Int32))), .val (.ref b1), .unset, .unset, .unset]) rfl h) ?_
      show Go p e below _ T9 (mkF m 31 #[.val (.int p1), .val (.int p2), .val (.int ((p1 &&& (2147483647 : Int32)) % (6 : Int32))), .val (.ref b1), .unset, .unset, .unset] [])
      refine Go.st (fun _ h => XT.iconstV X9.here hx rfl (5 : Int32) (hb hby at_31) (by decide) h) ?_
      show Go p e below _ T9 (mkF m 32 #[.val (.int p1), .val (.int p2), .val (.int ((p1 &&& (2147483647 : Int32)) % (6 : Int32))), .val (.ref b1), .unset, .unset, .unset] [(.int (5 : Int32))])
      refine Go.st (fun _ h => XS.istore X9.here hx rfl (hb hby at_32) rfl (l' := #[.val (.int p1), .val (.int p2), .val (.int ((p1 &&& (2147483647 : Int32)) % (6 : Int32))), .val (.ref b1), .val (.int (5 : Int32)), .unset, .unset]) rfl h) ?_
      show Go p e below _ T9 (mkF m 34 #[.val (.int p1), .val (.int p2), .val (.int ((p1 &&& (2147483647 : Int32)) % (6 : Int32))), .val (.ref b1), .val (.int (5 : Int32)), .unset, .unset] [])
      refine Go.st (fun _ h => XS.goto X9.here hx rfl (pc0 := 34) (pc' := 90) rfl (hb hby at_34) (by decide) (by decide) h) ?_
      show Go p e below _ T9 (mkF m 90 #[.val (.int p1), .val (.int p2), .val (.int ((p1 &&& (2147483647 : Int32)) % (6 : Int32))), .val (.ref b1), .val (.int (5 : Int32)), .unset, .unset] [])
      refine Go.st (fun _ h => XS.iloadN X9.here hx rfl (hb hby at_90) rfl h) ?_
      show Go p e below _ T9 (mkF m 91 #[.val (.int p1), .val (.int p2), .val (.int ((p1 &&& (2147483647 : Int32)) % (6 : Int32))), .val (.ref b1), .val (.int (5 : Int32)), .unset, .unset] [(.int p2)])
      by_cases hc10 : p2 < (0 : Int32)
      · refine Go.st (fun _ h => XS.ifNo X9.here hx rfl (hb hby at_91) rfl ((if0 _ _).trans (tlt hc10).2.1) h) ?_
        show Go p e below _ T9 (mkF m 94 #[.val (.int p1), .val (.int p2), .val (.int ((p1 &&& (2147483647 : Int32)) % (6 : Int32))), .val (.ref b1), .val (.int (5 : Int32)), .unset, .unset] [])
        refine Go.st (fun _ h => XT.iconstV X9.here hx rfl (1 : Int32) (hb hby at_94) (by decide) h) ?_
        show Go p e below _ T9 (mkF m 95 #[.val (.int p1), .val (.int p2), .val (.int ((p1 &&& (2147483647 : Int32)) % (6 : Int32))), .val (.ref b1), .val (.int (5 : Int32)), .unset, .unset] [(.int (1 : Int32))])
        refine Go.st (fun _ h => XS.istore X9.here hx rfl (hb hby at_95) rfl (l' := #[.val (.int p1), .val (.int p2), .val (.int ((p1 &&& (2147483647 : Int32)) % (6 : Int32))), .val (.ref b1), .val (.int (5 : Int32)), .val (.int (1 : Int32)), .unset]) rfl h) ?_
        show Go p e below _ T9 (mkF m 97 #[.val (.int p1), .val (.int p2), .val (.int ((p1 &&& (2147483647 : Int32)) % (6 : Int32))), .val (.ref b1), .val (.int (5 : Int32)), .val (.int (1 : Int32)), .unset] [])
        refine Go.st (fun _ h => XS.goto X9.here hx rfl (pc0 := 97) (pc' := 113) rfl (hb hby at_97) (by decide) (by decide) h) ?_
        show Go p e below _ T9 (mkF m 113 #[.val (.int p1), .val (.int p2), .val (.int ((p1 &&& (2147483647 : Int32)) % (6 : Int32))), .val (.ref b1), .val (.int (5 : Int32)), .val (.int (1 : Int32)), .unset] [])
        refine Go.st (fun _ h => XS.iload X9.here hx rfl (hb hby at_113) rfl h) ?_
        show Go p e below _ T9 (mkF m 115 #[.val (.int p1), .val (.int p2), .val (.int ((p1 &&& (2147483647 : Int32)) % (6 : Int32))), .val (.ref b1), .val (.int (5 : Int32)), .val (.int (1 : Int32)), .unset] [(.int (5 : Int32))])
        refine Go.st (fun _ h => XS.iload X9.here hx rfl (hb hby at_115) rfl h) ?_
        show Go p e below _ T9 (mkF m 117 #[.val (.int p1), .val (.int p2), .val (.int ((p1 &&& (2147483647 : Int32)) % (6 : Int32))), .val (.ref b1), .val (.int (5 : Int32)), .val (.int (1 : Int32)), .unset] [(.int (1 : Int32)), (.int (5 : Int32))])
        refine Go.st (fun _ h => XS.iand X9.here hx rfl (hb hby at_117) rfl h) ?_
        show Go p e below _ T9 (mkF m 118 #[.val (.int p1), .val (.int p2), .val (.int ((p1 &&& (2147483647 : Int32)) % (6 : Int32))), .val (.ref b1), .val (.int (5 : Int32)), .val (.int (1 : Int32)), .unset] [(.int ((5 : Int32) &&& (1 : Int32)))])
        refine Go.st (fun _ h => XS.ifNo X9.here hx rfl (hb hby at_118) rfl (by decide) h) ?_
        show Go p e below _ T9 (mkF m 121 #[.val (.int p1), .val (.int p2), .val (.int ((p1 &&& (2147483647 : Int32)) % (6 : Int32))), .val (.ref b1), .val (.int (5 : Int32)), .val (.int (1 : Int32)), .unset] [])
        refine Go.st (fun _ h => XT.iconstV X9.here hx rfl (1 : Int32) (hb hby at_121) (by decide) h) ?_
        show Go p e below _ T9 (mkF m 122 #[.val (.int p1), .val (.int p2), .val (.int ((p1 &&& (2147483647 : Int32)) % (6 : Int32))), .val (.ref b1), .val (.int (5 : Int32)), .val (.int (1 : Int32)), .unset] [(.int (1 : Int32))])
        refine Go.st (fun _ h => XS.goto X9.here hx rfl (pc0 := 122) (pc' := 126) rfl (hb hby at_122) (by decide) (by decide) h) ?_
        show Go p e below _ T9 (mkF m 126 #[.val (.int p1), .val (.int p2), .val (.int ((p1 &&& (2147483647 : Int32)) % (6 : Int32))), .val (.ref b1), .val (.int (5 : Int32)), .val (.int (1 : Int32)), .unset] [(.int (1 : Int32))])
        refine Go.st (fun _ h => XS.istore X9.here hx rfl (hb hby at_126) rfl (l' := #[.val (.int p1), .val (.int p2), .val (.int ((p1 &&& (2147483647 : Int32)) % (6 : Int32))), .val (.ref b1), .val (.int (5 : Int32)), .val (.int (1 : Int32)), .val (.int (1 : Int32))]) rfl h) ?_
        show Go p e below _ T9 (mkF m 128 #[.val (.int p1), .val (.int p2), .val (.int ((p1 &&& (2147483647 : Int32)) % (6 : Int32))), .val (.ref b1), .val (.int (5 : Int32)), .val (.int (1 : Int32)), .val (.int (1 : Int32))] [])
        refine Go.st (fun _ h => XS.aloadN X9.here hx rfl (hb hby at_128) rfl rfl h) ?_
        show Go p e below _ T9 (mkF m 129 #[.val (.int p1), .val (.int p2), .val (.int ((p1 &&& (2147483647 : Int32)) % (6 : Int32))), .val (.ref b1), .val (.int (5 : Int32)), .val (.int (1 : Int32)), .val (.int (1 : Int32))] [(.ref b1)])
        refine Go.st (fun _ h => XS.iloadN X9.here hx rfl (hb hby at_129) rfl h) ?_
        show Go p e below _ T9 (mkF m 130 #[.val (.int p1), .val (.int p2), .val (.int ((p1 &&& (2147483647 : Int32)) % (6 : Int32))), .val (.ref b1), .val (.int (5 : Int32)), .val (.int (1 : Int32)), .val (.int (1 : Int32))] [(.int p2), (.ref b1)])
        obtain ⟨T11, X11, e11, st11⟩ := own_still rfl rfl (Does.virtual (y := (⟨"com/example/intended_use/intendeduse/condition/Operator", "holds", "(I)Z"⟩ : MethodName)) (g := (mkF m 130 #[.val (.int p1), .val (.int p2), .val (.int ((p1 &&& (2147483647 : Int32)) % (6 : Int32))), .val (.ref b1), .val (.int (5 : Int32)), .val (.int (1 : Int32)), .val (.int (1 : Int32))] [(.int p2), (.ref b1)])) (a := b1) (rmHolds1 l Z a0 hw b1 p2 h0 E_NOT_EQUAL F_NOT_EQUAL) X9 hx hZ hown e9 E_NOT_EQUAL (hw _ (List.mem_of_getElem? (i := 4) rfl)) (hw _ (List.mem_of_getElem? (i := 5) rfl)) (hw _ (List.mem_of_getElem? (i := 7) rfl)) (hw _ (List.mem_of_getElem? (i := 6) rfl)) (hw _ (List.mem_of_getElem? (i := 2) rfl)) (hw _ (List.mem_of_getElem? (i := 8) rfl)) (by decide) rfl (by rw [hml]; rfl) (argsL := [(.int p2)]) (rest := []) (lenOf pd_28I29Z rfl) rfl (hb hby at_130) (W := 0) (by show 2 * 0 + _ ≤ _; exact Nat.le_of_eq rfl) (by decide) (by decide) (by decide) (by decide))
        refine Go.st st11 ?_
        show Go p e below _ T11 (mkF m 133 #[.val (.int p1), .val (.int p2), .val (.int ((p1 &&& (2147483647 : Int32)) % (6 : Int32))), .val (.ref b1), .val (.int (5 : Int32)), .val (.int (1 : Int32)), .val (.int (1 : Int32))] [(.int (own_h1 p2))])
        refine Go.st (fun _ h => XS.iload X11.here hx rfl (hb hby at_133) rfl h) ?_
        show Go p e below _ T11 (mkF m 135 #[.val (.int p1), .val (.int p2), .val (.int ((p1 &&& (2147483647 : Int32)) % (6 : Int32))), .val (.ref b1), .val (.int (5 : Int32)), .val (.int (1 : Int32)), .val (.int (1 : Int32))] [(.int (1 : Int32)), (.int (own_h1 p2))])
        refine Go.st (fun _ h => XS.icmpNo X11.here hx rfl (hb hby at_135) rfl ((teq (own_h1n hc10 : (own_h1 p2) = (1 : Int32))).2) h) ?_
        show Go p e below _ T11 (mkF m 138 #[.val (.int p1), .val (.int p2), .val (.int ((p1 &&& (2147483647 : Int32)) % (6 : Int32))), .val (.ref b1), .val (.int (5 : Int32)), .val (.int (1 : Int32)), .val (.int (1 : Int32))] [])
        refine Go.st (fun _ h => XT.iconstV X11.here hx rfl (1 : Int32) (hb hby at_138) (by decide) h) ?_
        show Go p e below _ T11 (mkF m 139 #[.val (.int p1), .val (.int p2), .val (.int ((p1 &&& (2147483647 : Int32)) % (6 : Int32))), .val (.ref b1), .val (.int (5 : Int32)), .val (.int (1 : Int32)), .val (.int (1 : Int32))] [(.int (1 : Int32))])
        refine Go.st (fun _ h => XS.goto X11.here hx rfl (pc0 := 139) (pc' := 143) rfl (hb hby at_139) (by decide) (by decide) h) ?_
        show Go p e below _ T11 (mkF m 143 #[.val (.int p1), .val (.int p2), .val (.int ((p1 &&& (2147483647 : Int32)) % (6 : Int32))), .val (.ref b1), .val (.int (5 : Int32)), .val (.int (1 : Int32)), .val (.int (1 : Int32))] [(.int (1 : Int32))])
        refine Go.retZ X11 hx hlk hret rfl (hb hby at_143) (by decide) (by decide) ?_
        exact ⟨rfl, Fr.nil _⟩
      · refine Go.st (fun _ h => XS.ifYes X9.here hx rfl (pc0 := 91) (pc' := 100) rfl (hb hby at_91) rfl ((if0 _ _).trans (flt hc10).2.1) (by decide) (by decide) h) ?_
        show Go p e below _ T9 (mkF m 100 #[.val (.int p1), .val (.int p2), .val (.int ((p1 &&& (2147483647 : Int32)) % (6 : Int32))), .val (.ref b1), .val (.int (5 : Int32)), .unset, .unset] [])
        refine Go.st (fun _ h => XS.iloadN X9.here hx rfl (hb hby at_100) rfl h) ?_
        show Go p e below _ T9 (mkF m 101 #[.val (.int p1), .val (.int p2), .val (.int ((p1 &&& (2147483647 : Int32)) % (6 : Int32))), .val (.ref b1), .val (.int (5 : Int32)), .unset, .unset] [(.int p2)])
        by_cases hc12 : p2 = (0 : Int32)
        · refine Go.st (fun _ h => XS.ifNo X9.here hx rfl (hb hby at_101) rfl ((if0 _ _).trans (teq hc12).2) h) ?_
          show Go p e below _ T9 (mkF m 104 #[.val (.int p1), .val (.int p2), .val (.int ((p1 &&& (2147483647 : Int32)) % (6 : Int32))), .val (.ref b1), .val (.int (5 : Int32)), .unset, .unset] [])
          refine Go.st (fun _ h => XT.iconstV X9.here hx rfl (2 : Int32) (hb hby at_104) (by decide) h) ?_
          show Go p e below _ T9 (mkF m 105 #[.val (.int p1), .val (.int p2), .val (.int ((p1 &&& (2147483647 : Int32)) % (6 : Int32))), .val (.ref b1), .val (.int (5 : Int32)), .unset, .unset] [(.int (2 : Int32))])
          refine Go.st (fun _ h => XS.istore X9.here hx rfl (hb hby at_105) rfl (l' := #[.val (.int p1), .val (.int p2), .val (.int ((p1 &&& (2147483647 : Int32)) % (6 : Int32))), .val (.ref b1), .val (.int (5 : Int32)), .val (.int (2 : Int32)), .unset]) rfl h) ?_
          show Go p e below _ T9 (mkF m 107 #[.val (.int p1), .val (.int p2), .val (.int ((p1 &&& (2147483647 : Int32)) % (6 : Int32))), .val (.ref b1), .val (.int (5 : Int32)), .val (.int (2 : Int32)), .unset] [])
          refine Go.st (fun _ h => XS.goto X9.here hx rfl (pc0 := 107) (pc' := 113) rfl (hb hby at_107) (by decide) (by decide) h) ?_
          show Go p e below _ T9 (mkF m 113 #[.val (.int p1), .val (.int p2), .val (.int ((p1 &&& (2147483647 : Int32)) % (6 : Int32))), .val (.ref b1), .val (.int (5 : Int32)), .val (.int (2 : Int32)), .unset] [])
          refine Go.st (fun _ h => XS.iload X9.here hx rfl (hb hby at_113) rfl h) ?_
          show Go p e below _ T9 (mkF m 115 #[.val (.int p1), .val (.int p2), .val (.int ((p1 &&& (2147483647 : Int32)) % (6 : Int32))), .val (.ref b1), .val (.int (5 : Int32)), .val (.int (2 : Int32)), .unset] [(.int (5 : Int32))])
          refine Go.st (fun _ h => XS.iload X9.here hx rfl (hb hby at_115) rfl h) ?_
          show Go p e below _ T9 (mkF m 117 #[.val (.int p1), .val (.int p2), .val (.int ((p1 &&& (2147483647 : Int32)) % (6 : Int32))), .val (.ref b1), .val (.int (5 : Int32)), .val (.int (2 : Int32)), .unset] [(.int (2 : Int32)), (.int (5 : Int32))])
          refine Go.st (fun _ h => XS.iand X9.here hx rfl (hb hby at_117) rfl h) ?_
          show Go p e below _ T9 (mkF m 118 #[.val (.int p1), .val (.int p2), .val (.int ((p1 &&& (2147483647 : Int32)) % (6 : Int32))), .val (.ref b1), .val (.int (5 : Int32)), .val (.int (2 : Int32)), .unset] [(.int ((5 : Int32) &&& (2 : Int32)))])
          refine Go.st (fun _ h => XS.ifYes X9.here hx rfl (pc0 := 118) (pc' := 125) rfl (hb hby at_118) rfl (by decide) (by decide) (by decide) h) ?_
          show Go p e below _ T9 (mkF m 125 #[.val (.int p1), .val (.int p2), .val (.int ((p1 &&& (2147483647 : Int32)) % (6 : Int32))), .val (.ref b1), .val (.int (5 : Int32)), .val (.int (2 : Int32)), .unset] [])
          refine Go.st (fun _ h => XT.iconstV X9.here hx rfl (0 : Int32) (hb hby at_125) (by decide) h) ?_
          show Go p e below _ T9 (mkF m 126 #[.val (.int p1), .val (.int p2), .val (.int ((p1 &&& (2147483647 : Int32)) % (6 : Int32))), .val (.ref b1), .val (.int (5 : Int32)), .val (.int (2 : Int32)), .unset] [(.int (0 : Int32))])
          refine Go.st (fun _ h => XS.istore X9.here hx rfl (hb hby at_126) rfl (l' := #[.val (.int p1), .val (.int p2), .val (.int ((p1 &&& (2147483647 : Int32)) % (6 : Int32))), .val (.ref b1), .val (.int (5 : Int32)), .val (.int (2 : Int32)), .val (.int (0 : Int32))]) rfl h) ?_
          show Go p e below _ T9 (mkF m 128 #[.val (.int p1), .val (.int p2), .val (.int ((p1 &&& (2147483647 : Int32)) % (6 : Int32))), .val (.ref b1), .val (.int (5 : Int32)), .val (.int (2 : Int32)), .val (.int (0 : Int32))] [])
          refine Go.st (fun _ h => XS.aloadN X9.here hx rfl (hb hby at_128) rfl rfl h) ?_
          show Go p e below _ T9 (mkF m 129 #[.val (.int p1), .val (.int p2), .val (.int ((p1 &&& (2147483647 : Int32)) % (6 : Int32))), .val (.ref b1), .val (.int (5 : Int32)), .val (.int (2 : Int32)), .val (.int (0 : Int32))] [(.ref b1)])
          refine Go.st (fun _ h => XS.iloadN X9.here hx rfl (hb hby at_129) rfl h) ?_
          show Go p e below _ T9 (mkF m 130 #[.val (.int p1), .val (.int p2), .val (.int ((p1 &&& (2147483647 : Int32)) % (6 : Int32))), .val (.ref b1), .val (.int (5 : Int32)), .val (.int (2 : Int32)), .val (.int (0 : Int32))] [(.int p2), (.ref b1)])
          obtain ⟨T13, X13, e13, st13⟩ := own_still rfl rfl (Does.virtual (y := (⟨"com/example/intended_use/intendeduse/condition/Operator", "holds", "(I)Z"⟩ : MethodName)) (g := (mkF m 130 #[.val (.int p1), .val (.int p2), .val (.int ((p1 &&& (2147483647 : Int32)) % (6 : Int32))), .val (.ref b1), .val (.int (5 : Int32)), .val (.int (2 : Int32)), .val (.int (0 : Int32))] [(.int p2), (.ref b1)])) (a := b1) (rmHolds1 l Z a0 hw b1 p2 h0 E_NOT_EQUAL F_NOT_EQUAL) X9 hx hZ hown e9 E_NOT_EQUAL (hw _ (List.mem_of_getElem? (i := 4) rfl)) (hw _ (List.mem_of_getElem? (i := 5) rfl)) (hw _ (List.mem_of_getElem? (i := 7) rfl)) (hw _ (List.mem_of_getElem? (i := 6) rfl)) (hw _ (List.mem_of_getElem? (i := 2) rfl)) (hw _ (List.mem_of_getElem? (i := 8) rfl)) (by decide) rfl (by rw [hml]; rfl) (argsL := [(.int p2)]) (rest := []) (lenOf pd_28I29Z rfl) rfl (hb hby at_130) (W := 0) (by show 2 * 0 + _ ≤ _; exact Nat.le_of_eq rfl) (by decide) (by decide) (by decide) (by decide))
          refine Go.st st13 ?_
          show Go p e below _ T13 (mkF m 133 #[.val (.int p1), .val (.int p2), .val (.int ((p1 &&& (2147483647 : Int32)) % (6 : Int32))), .val (.ref b1), .val (.int (5 : Int32)), .val (.int (2 : Int32)), .val (.int (0 : Int32))] [(.int (own_h1 p2))])
          refine Go.st (fun _ h => XS.iload X13.here hx rfl (hb hby at_133) rfl h) ?_
          show Go p e below _ T13 (mkF m 135 #[.val (.int p1), .val (.int p2), .val (.int ((p1 &&& (2147483647 : Int32)) % (6 : Int32))), .val (.ref b1), .val (.int (5 : Int32)), .val (.int (2 : Int32)), .val (.int (0 : Int32))] [(.int (0 : Int32)), (.int (own_h1 p2))])
          refine Go.st (fun _ h => XS.icmpNo X13.here hx rfl (hb hby at_135) rfl ((teq (own_h1z hc10 hc12 : (own_h1 p2) = (0 : Int32))).2) h) ?_
          show Go p e below _ T13 (mkF m 138 #[.val (.int p1), .val (.int p2), .val (.int ((p1 &&& (2147483647 : Int32)) % (6 : Int32))), .val (.ref b1), .val (.int (5 : Int32)), .val (.int (2 : Int32)), .val (.int (0 : Int32))] [])
          refine Go.st (fun _ h => XT.iconstV X13.here hx rfl (1 : Int32) (hb hby at_138) (by decide) h) ?_
          show Go p e below _ T13 (mkF m 139 #[.val (.int p1), .val (.int p2), .val (.int ((p1 &&& (2147483647 : Int32)) % (6 : Int32))), .val (.ref b1), .val (.int (5 : Int32)), .val (.int (2 : Int32)), .val (.int (0 : Int32))] [(.int (1 : Int32))])
          refine Go.st (fun _ h => XS.goto X13.here hx rfl (pc0 := 139) (pc' := 143) rfl (hb hby at_139) (by decide) (by decide) h) ?_
          show Go p e below _ T13 (mkF m 143 #[.val (.int p1), .val (.int p2), .val (.int ((p1 &&& (2147483647 : Int32)) % (6 : Int32))), .val (.ref b1), .val (.int (5 : Int32)), .val (.int (2 : Int32)), .val (.int (0 : Int32))] [(.int (1 : Int32))])
          refine Go.retZ X13 hx hlk hret rfl (hb hby at_143) (by decide) (by decide) ?_
          exact ⟨rfl, Fr.nil _⟩
        · refine Go.st (fun _ h => XS.ifYes X9.here hx rfl (pc0 := 101) (pc' := 110) rfl (hb hby at_101) rfl ((if0 _ _).trans (feq hc12).2) (by decide) (by decide) h) ?_
          show Go p e below _ T9 (mkF m 110 #[.val (.int p1), .val (.int p2), .val (.int ((p1 &&& (2147483647 : Int32)) % (6 : Int32))), .val (.ref b1), .val (.int (5 : Int32)), .unset, .unset] [])
          refine Go.st (fun _ h => XT.iconstV X9.here hx rfl (4 : Int32) (hb hby at_110) (by decide) h) ?_
          show Go p e below _ T9 (mkF m 111 #[.val (.int p1), .val (.int p2), .val (.int ((p1 &&& (2147483647 : Int32)) % (6 : Int32))), .val (.ref b1), .val (.int (5 : Int32)), .unset, .unset] [(.int (4 : Int32))])
          refine Go.st (fun _ h => XS.istore X9.here hx rfl (hb hby at_111) rfl (l' := #[.val (.int p1), .val (.int p2), .val (.int ((p1 &&& (2147483647 : Int32)) % (6 : Int32))), .val (.ref b1), .val (.int (5 : Int32)), .val (.int (4 : Int32)), .unset]) rfl h) ?_
          show Go p e below _ T9 (mkF m 113 #[.val (.int p1), .val (.int p2), .val (.int ((p1 &&& (2147483647 : Int32)) % (6 : Int32))), .val (.ref b1), .val (.int (5 : Int32)), .val (.int (4 : Int32)), .unset] [])
          refine Go.st (fun _ h => XS.iload X9.here hx rfl (hb hby at_113) rfl h) ?_
          show Go p e below _ T9 (mkF m 115 #[.val (.int p1), .val (.int p2), .val (.int ((p1 &&& (2147483647 : Int32)) % (6 : Int32))), .val (.ref b1), .val (.int (5 : Int32)), .val (.int (4 : Int32)), .unset] [(.int (5 : Int32))])
          refine Go.st (fun _ h => XS.iload X9.here hx rfl (hb hby at_115) rfl h) ?_
          show Go p e below _ T9 (mkF m 117 #[.val (.int p1), .val (.int p2), .val (.int ((p1 &&& (2147483647 : Int32)) % (6 : Int32))), .val (.ref b1), .val (.int (5 : Int32)), .val (.int (4 : Int32)), .unset] [(.int (4 : Int32)), (.int (5 : Int32))])
          refine Go.st (fun _ h => XS.iand X9.here hx rfl (hb hby at_117) rfl h) ?_
          show Go p e below _ T9 (mkF m 118 #[.val (.int p1), .val (.int p2), .val (.int ((p1 &&& (2147483647 : Int32)) % (6 : Int32))), .val (.ref b1), .val (.int (5 : Int32)), .val (.int (4 : Int32)), .unset] [(.int ((5 : Int32) &&& (4 : Int32)))])
          refine Go.st (fun _ h => XS.ifNo X9.here hx rfl (hb hby at_118) rfl (by decide) h) ?_
          show Go p e below _ T9 (mkF m 121 #[.val (.int p1), .val (.int p2), .val (.int ((p1 &&& (2147483647 : Int32)) % (6 : Int32))), .val (.ref b1), .val (.int (5 : Int32)), .val (.int (4 : Int32)), .unset] [])
          refine Go.st (fun _ h => XT.iconstV X9.here hx rfl (1 : Int32) (hb hby at_121) (by decide) h) ?_
          show Go p e below _ T9 (mkF m 122 #[.val (.int p1), .val (.int p2), .val (.int ((p1 &&& (2147483647 : Int32)) % (6 : Int32))), .val (.ref b1), .val (.int (5 : Int32)), .val (.int (4 : Int32)), .unset] [(.int (1 : Int32))])
          refine Go.st (fun _ h => XS.goto X9.here hx rfl (pc0 := 122) (pc' := 126) rfl (hb hby at_122) (by decide) (by decide) h) ?_
          show Go p e below _ T9 (mkF m 126 #[.val (.int p1), .val (.int p2), .val (.int ((p1 &&& (2147483647 : Int32)) % (6 : Int32))), .val (.ref b1), .val (.int (5 : Int32)), .val (.int (4 : Int32)), .unset] [(.int (1 : Int32))])
          refine Go.st (fun _ h => XS.istore X9.here hx rfl (hb hby at_126) rfl (l' := #[.val (.int p1), .val (.int p2), .val (.int ((p1 &&& (2147483647 : Int32)) % (6 : Int32))), .val (.ref b1), .val (.int (5 : Int32)), .val (.int (4 : Int32)), .val (.int (1 : Int32))]) rfl h) ?_
          show Go p e below _ T9 (mkF m 128 #[.val (.int p1), .val (.int p2), .val (.int ((p1 &&& (2147483647 : Int32)) % (6 : Int32))), .val (.ref b1), .val (.int (5 : Int32)), .val (.int (4 : Int32)), .val (.int (1 : Int32))] [])
          refine Go.st (fun _ h => XS.aloadN X9.here hx rfl (hb hby at_128) rfl rfl h) ?_
          show Go p e below _ T9 (mkF m 129 #[.val (.int p1), .val (.int p2), .val (.int ((p1 &&& (2147483647 : Int32)) % (6 : Int32))), .val (.ref b1), .val (.int (5 : Int32)), .val (.int (4 : Int32)), .val (.int (1 : Int32))] [(.ref b1)])
          refine Go.st (fun _ h => XS.iloadN X9.here hx rfl (hb hby at_129) rfl h) ?_
          show Go p e below _ T9 (mkF m 130 #[.val (.int p1), .val (.int p2), .val (.int ((p1 &&& (2147483647 : Int32)) % (6 : Int32))), .val (.ref b1), .val (.int (5 : Int32)), .val (.int (4 : Int32)), .val (.int (1 : Int32))] [(.int p2), (.ref b1)])
          obtain ⟨T14, X14, e14, st14⟩ := own_still rfl rfl (Does.virtual (y := (⟨"com/example/intended_use/intendeduse/condition/Operator", "holds", "(I)Z"⟩ : MethodName)) (g := (mkF m 130 #[.val (.int p1), .val (.int p2), .val (.int ((p1 &&& (2147483647 : Int32)) % (6 : Int32))), .val (.ref b1), .val (.int (5 : Int32)), .val (.int (4 : Int32)), .val (.int (1 : Int32))] [(.int p2), (.ref b1)])) (a := b1) (rmHolds1 l Z a0 hw b1 p2 h0 E_NOT_EQUAL F_NOT_EQUAL) X9 hx hZ hown e9 E_NOT_EQUAL (hw _ (List.mem_of_getElem? (i := 4) rfl)) (hw _ (List.mem_of_getElem? (i := 5) rfl)) (hw _ (List.mem_of_getElem? (i := 7) rfl)) (hw _ (List.mem_of_getElem? (i := 6) rfl)) (hw _ (List.mem_of_getElem? (i := 2) rfl)) (hw _ (List.mem_of_getElem? (i := 8) rfl)) (by decide) rfl (by rw [hml]; rfl) (argsL := [(.int p2)]) (rest := []) (lenOf pd_28I29Z rfl) rfl (hb hby at_130) (W := 0) (by show 2 * 0 + _ ≤ _; exact Nat.le_of_eq rfl) (by decide) (by decide) (by decide) (by decide))
          refine Go.st st14 ?_
          show Go p e below _ T14 (mkF m 133 #[.val (.int p1), .val (.int p2), .val (.int ((p1 &&& (2147483647 : Int32)) % (6 : Int32))), .val (.ref b1), .val (.int (5 : Int32)), .val (.int (4 : Int32)), .val (.int (1 : Int32))] [(.int (own_h1 p2))])
          refine Go.st (fun _ h => XS.iload X14.here hx rfl (hb hby at_133) rfl h) ?_
          show Go p e below _ T14 (mkF m 135 #[.val (.int p1), .val (.int p2), .val (.int ((p1 &&& (2147483647 : Int32)) % (6 : Int32))), .val (.ref b1), .val (.int (5 : Int32)), .val (.int (4 : Int32)), .val (.int (1 : Int32))] [(.int (1 : Int32)), (.int (own_h1 p2))])
          refine Go.st (fun _ h => XS.icmpNo X14.here hx rfl (hb hby at_135) rfl ((teq (own_h1p hc10 hc12 : (own_h1 p2) = (1 : Int32))).2) h) ?_
          show Go p e below _ T14 (mkF m 138 #[.val (.int p1), .val (.int p2), .val (.int ((p1 &&& (2147483647 : Int32)) % (6 : Int32))), .val (.ref b1), .val (.int (5 : Int32)), .val (.int (4 : Int32)), .val (.int (1 : Int32))] [])
          refine Go.st (fun _ h => XT.iconstV X14.here hx rfl (1 : Int32) (hb hby at_138) (by decide) h) ?_
          show Go p e below _ T14 (mkF m 139 #[.val (.int p1), .val (.int p2), .val (.int ((p1 &&& (2147483647 : Int32)) % (6 : Int32))), .val (.ref b1), .val (.int (5 : Int32)), .val (.int (4 : Int32)), .val (.int (1 : Int32))] [(.int (1 : Int32))])
          refine Go.st (fun _ h => XS.goto X14.here hx rfl (pc0 := 139) (pc' := 143) rfl (hb hby at_139) (by decide) (by decide) h) ?_
          show Go p e below _ T14 (mkF m 143 #[.val (.int p1), .val (.int p2), .val (.int ((p1 &&& (2147483647 : Int32)) % (6 : Int32))), .val (.ref b1), .val (.int (5 : Int32)), .val (.int (4 : Int32)), .val (.int (1 : Int32))] [(.int (1 : Int32))])
          refine Go.retZ X14 hx hlk hret rfl (hb hby at_143) (by decide) (by decide) ?_
          exact ⟨rfl, Fr.nil _⟩
    · refine Go.st (fun _ h => XS.icmpYes X0.here hx rfl (pc0 := 24) (pc' := 37) rfl (hb hby at_24) rfl ((feq hc8).2) (by decide) (by decide) h) ?_
      show Go p e below _ s₁ (mkF m 37 #[.val (.int p1), .val (.int p2), .val (.int ((p1 &&& (2147483647 : Int32)) % (6 : Int32))), .unset, .unset, .unset, .unset] [])
      refine Go.st (fun _ h => XS.iloadN X0.here hx rfl (hb hby at_37) rfl h) ?_
      show Go p e below _ s₁ (mkF m 38 #[.val (.int p1), .val (.int p2), .val (.int ((p1 &&& (2147483647 : Int32)) % (6 : Int32))), .unset, .unset, .unset, .unset] [(.int ((p1 &&& (2147483647 : Int32)) % (6 : Int32)))])
      refine Go.st (fun _ h => XT.iconstV X0.here hx rfl (2 : Int32) (hb hby at_38) (by decide) h) ?_
      show Go p e below _ s₁ (mkF m 39 #[.val (.int p1), .val (.int p2), .val (.int ((p1 &&& (2147483647 : Int32)) % (6 : Int32))), .unset, .unset, .unset, .unset] [(.int (2 : Int32)), (.int ((p1 &&& (2147483647 : Int32)) % (6 : Int32)))])
      by_cases hc15 : ((p1 &&& (2147483647 : Int32)) % (6 : Int32)) = (2 : Int32)
      · refine Go.st (fun _ h => XS.icmpNo X0.here hx rfl (hb hby at_39) rfl ((teq hc15).2) h) ?_
        show Go p e below _ s₁ (mkF m 42 #[.val (.int p1), .val (.int p2), .val (.int ((p1 &&& (2147483647 : Int32)) % (6 : Int32))), .unset, .unset, .unset, .unset] [])
        obtain ⟨T16, X16, e16, st16⟩ := getS2 X0 hx hZ hown (host := "") (Or.inl (hw _ (List.mem_of_getElem? (i := 18) rfl))) Via.refl e0 S_LESS (g := (mkF m 42 #[.val (.int p1), .val (.int p2), .val (.int ((p1 &&& (2147483647 : Int32)) % (6 : Int32))), .unset, .unset, .unset, .unset] [])) rfl (hb hby at_42)
        refine Go.st st16 ?_
        show Go p e below _ T16 (mkF m 45 #[.val (.int p1), .val (.int p2), .val (.int ((p1 &&& (2147483647 : Int32)) % (6 : Int32))), .unset, .unset, .unset, .unset] [(.ref b2)])
        refine Go.st (fun _ h => XS.astoreN X16.here hx rfl (hb hby at_45) rfl rfl (l' := #[.val (.int p1), .val (.int p2), .val (.int ((p1 &&& (2147483647 : Int32)) % (6 : Int32))), .val (.ref b2), .unset, .unset, .unset]) rfl h) ?_
        show Go p e below _ T16 (mkF m 46 #[.val (.int p1), .val (.int p2), .val (.int ((p1 &&& (2147483647 : Int32)) % (6 : Int32))), .val (.ref b2), .unset, .unset, .unset] [])
        refine Go.st (fun _ h => XT.iconstV X16.here hx rfl (1 : Int32) (hb hby at_46) (by decide) h) ?_
        show Go p e below _ T16 (mkF m 47 #[.val (.int p1), .val (.int p2), .val (.int ((p1 &&& (2147483647 : Int32)) % (6 : Int32))), .val (.ref b2), .unset, .unset, .unset] [(.int (1 : Int32))])
        refine Go.st (fun _ h => XS.istore X16.here hx rfl (hb hby at_47) rfl (l' := #[.val (.int p1), .val (.int p2), .val (.int ((p1 &&& (2147483647 : Int32)) % (6 : Int32))), .val (.ref b2), .val (.int (1 : Int32)), .unset, .unset]) rfl h) ?_
        show Go p e below _ T16 (mkF m 49 #[.val (.int p1), .val (.int p2), .val (.int ((p1 &&& (2147483647 : Int32)) % (6 : Int32))), .val (.ref b2), .val (.int (1 : Int32)), .unset, .unset] [])
        refine Go.st (fun _ h => XS.goto X16.here hx rfl (pc0 := 49) (pc' := 90) rfl (hb hby at_49) (by decide) (by decide) h) ?_
        show Go p e below _ T16 (mkF m 90 #[.val (.int p1), .val (.int p2), .val (.int ((p1 &&& (2147483647 : Int32)) % (6 : Int32))), .val (.ref b2), .val (.int (1 : Int32)), .unset, .unset] [])
        refine Go.st (fun _ h => XS.iloadN X16.here hx rfl (hb hby at_90) rfl h) ?_
        show Go p e below _ T16 (mkF m 91 #[.val (.int p1), .val (.int p2), .val (.int ((p1 &&& (2147483647 : Int32)) % (6 : Int32))), .val (.ref b2), .val (.int (1 : Int32)), .unset, .unset] [(.int p2)])
        by_cases hc17 : p2 < (0 : Int32)
        · refine Go.st (fun _ h => XS.ifNo X16.here hx rfl (hb hby at_91) rfl ((if0 _ _).trans (tlt hc17).2.1) h) ?_
          show Go p e below _ T16 (mkF m 94 #[.val (.int p1), .val (.int p2), .val (.int ((p1 &&& (2147483647 : Int32)) % (6 : Int32))), .val (.ref b2), .val (.int (1 : Int32)), .unset, .unset] [])
          refine Go.st (fun _ h => XT.iconstV X16.here hx rfl (1 : Int32) (hb hby at_94) (by decide) h) ?_
          show Go p e below _ T16 (mkF m 95 #[.val (.int p1), .val (.int p2), .val (.int ((p1 &&& (2147483647 : Int32)) % (6 : Int32))), .val (.ref b2), .val (.int (1 : Int32)), .unset, .unset] [(.int (1 : Int32))])
          refine Go.st (fun _ h => XS.istore X16.here hx rfl (hb hby at_95) rfl (l' := #[.val (.int p1), .val (.int p2), .val (.int ((p1 &&& (2147483647 : Int32)) % (6 : Int32))), .val (.ref b2), .val (.int (1 : Int32)), .val (.int (1 : Int32)), .unset]) rfl h) ?_
          show Go p e below _ T16 (mkF m 97 #[.val (.int p1), .val (.int p2), .val (.int ((p1 &&& (2147483647 : Int32)) % (6 : Int32))), .val (.ref b2), .val (.int (1 : Int32)), .val (.int (1 : Int32)), .unset] [])
          refine Go.st (fun _ h => XS.goto X16.here hx rfl (pc0 := 97) (pc' := 113) rfl (hb hby at_97) (by decide) (by decide) h) ?_
          show Go p e below _ T16 (mkF m 113 #[.val (.int p1), .val (.int p2), .val (.int ((p1 &&& (2147483647 : Int32)) % (6 : Int32))), .val (.ref b2), .val (.int (1 : Int32)), .val (.int (1 : Int32)), .unset] [])
          refine Go.st (fun _ h => XS.iload X16.here hx rfl (hb hby at_113) rfl h) ?_
          show Go p e below _ T16 (mkF m 115 #[.val (.int p1), .val (.int p2), .val (.int ((p1 &&& (2147483647 : Int32)) % (6 : Int32))), .val (.ref b2), .val (.int (1 : Int32)), .val (.int (1 : Int32)), .unset] [(.int (1 : Int32))])
          refine Go.st (fun _ h => XS.iload X16.here hx rfl (hb hby at_115) rfl h) ?_
          show Go p e below _ T16 (mkF m 117 #[.val (.int p1), .val (.int p2), .val (.int ((p1 &&& (2147483647 : Int32)) % (6 : Int32))), .val (.ref b2), .val (.int (1 : Int32)), .val (.int (1 : Int32)), .unset] [(.int (1 : Int32)), (.int (1 : Int32))])
          refine Go.st (fun _ h => XS.iand X16.here hx rfl (hb hby at_117) rfl h) ?_
          show Go p e below _ T16 (mkF m 118 #[.val (.int p1), .val (.int p2), .val (.int ((p1 &&& (2147483647 : Int32)) % (6 : Int32))), .val (.ref b2), .val (.int (1 : Int32)), .val (.int (1 : Int32)), .unset] [(.int ((1 : Int32) &&& (1 : Int32)))])
          refine Go.st (fun _ h => XS.ifNo X16.here hx rfl (hb hby at_118) rfl (by decide) h) ?_
          show Go p e below _ T16 (mkF m 121 #[.val (.int p1), .val (.int p2), .val (.int ((p1 &&& (2147483647 : Int32)) % (6 : Int32))), .val (.ref b2), .val (.int (1 : Int32)), .val (.int (1 : Int32)), .unset] [])
          refine Go.st (fun _ h => XT.iconstV X16.here hx rfl (1 : Int32) (hb hby at_121) (by decide) h) ?_
          show Go p e below _ T16 (mkF m 122 #[.val (.int p1), .val (.int p2), .val (.int ((p1 &&& (2147483647 : Int32)) % (6 : Int32))), .val (.ref b2), .val (.int (1 : Int32)), .val (.int (1 : Int32)), .unset] [(.int (1 : Int32))])
          refine Go.st (fun _ h => XS.goto X16.here hx rfl (pc0 := 122) (pc' := 126) rfl (hb hby at_122) (by decide) (by decide) h) ?_
          show Go p e below _ T16 (mkF m 126 #[.val (.int p1), .val (.int p2), .val (.int ((p1 &&& (2147483647 : Int32)) % (6 : Int32))), .val (.ref b2), .val (.int (1 : Int32)), .val (.int (1 : Int32)), .unset] [(.int (1 : Int32))])
          refine Go.st (fun _ h => XS.istore X16.here hx rfl (hb hby at_126) rfl (l' := #[.val (.int p1), .val (.int p2), .val (.int ((p1 &&& (2147483647 : Int32)) % (6 : Int32))), .val (.ref b2), .val (.int (1 : Int32)), .val (.int (1 : Int32)), .val (.int (1 : Int32))]) rfl h) ?_
          show Go p e below _ T16 (mkF m 128 #[.val (.int p1), .val (.int p2), .val (.int ((p1 &&& (2147483647 : Int32)) % (6 : Int32))), .val (.ref b2), .val (.int (1 : Int32)), .val (.int (1 : Int32)), .val (.int (1 : Int32))] [])
          refine Go.st (fun _ h => XS.aloadN X16.here hx rfl (hb hby at_128) rfl rfl h) ?_
          show Go p e below _ T16 (mkF m 129 #[.val (.int p1), .val (.int p2), .val (.int ((p1 &&& (2147483647 : Int32)) % (6 : Int32))), .val (.ref b2), .val (.int (1 : Int32)), .val (.int (1 : Int32)), .val (.int (1 : Int32))] [(.ref b2)])
          refine Go.st (fun _ h => XS.iloadN X16.here hx rfl (hb hby at_129) rfl h) ?_
          show Go p e below _ T16 (mkF m 130 #[.val (.int p1), .val (.int p2), .val (.int ((p1 &&& (2147483647 : Int32)) % (6 : Int32))), .val (.ref b2), .val (.int (1 : Int32)), .val (.int (1 : Int32)), .val (.int (1 : Int32))] [(.int p2), (.ref b2)])
          obtain ⟨T18, X18, e18, st18⟩ := own_still rfl rfl (Does.virtual (y := (⟨"com/example/intended_use/intendeduse/condition/Operator", "holds", "(I)Z"⟩ : MethodName)) (g := (mkF m 130 #[.val (.int p1), .val (.int p2), .val (.int ((p1 &&& (2147483647 : Int32)) % (6 : Int32))), .val (.ref b2), .val (.int (1 : Int32)), .val (.int (1 : Int32)), .val (.int (1 : Int32))] [(.int p2), (.ref b2)])) (a := b2) (rmHolds2 l Z a0 hw b2 p2 h0 E_LESS F_LESS) X16 hx hZ hown e16 E_LESS (hw _ (List.mem_of_getElem? (i := 4) rfl)) (hw _ (List.mem_of_getElem? (i := 5) rfl)) (hw _ (List.mem_of_getElem? (i := 7) rfl)) (hw _ (List.mem_of_getElem? (i := 6) rfl)) (hw _ (List.mem_of_getElem? (i := 2) rfl)) (hw _ (List.mem_of_getElem? (i := 8) rfl)) (by decide) rfl (by rw [hml]; rfl) (argsL := [(.int p2)]) (rest := []) (lenOf pd_28I29Z rfl) rfl (hb hby at_130) (W := 0) (by show 2 * 0 + _ ≤ _; exact Nat.le_of_eq rfl) (by decide) (by decide) (by decide) (by decide))
          refine Go.st st18 ?_
          show Go p e below _ T18 (mkF m 133 #[.val (.int p1), .val (.int p2), .val (.int ((p1 &&& (2147483647 : Int32)) % (6 : Int32))), .val (.ref b2), .val (.int (1 : Int32)), .val (.int (1 : Int32)), .val (.int (1 : Int32))] [(.int (own_h2 p2))])
          refine Go.st (fun _ h => XS.iload X18.here hx rfl (hb hby at_133) rfl h) ?_
          show Go p e below _ T18 (mkF m 135 #[.val (.int p1), .val (.int p2), .val (.int ((p1 &&& (2147483647 : Int32)) % (6 : Int32))), .val (.ref b2), .val (.int (1 : Int32)), .val (.int (1 : Int32)), .val (.int (1 : Int32))] [(.int (1 : Int32)), (.int (own_h2 p2))])
          refine Go.st (fun _ h => XS.icmpNo X18.here hx rfl (hb hby at_135) rfl ((teq (own_h2n hc17 : (own_h2 p2) = (1 : Int32))).2) h) ?_
          show Go p e below _ T18 (mkF m 138 #[.val (.int p1), .val (.int p2), .val (.int ((p1 &&& (2147483647 : Int32)) % (6 : Int32))), .val (.ref b2), .val (.int (1 : Int32)), .val (.int (1 : Int32)), .val (.int (1 : Int32))] [])
          refine Go.st (fun _ h => XT.iconstV X18.here hx rfl (1 : Int32) (hb hby at_138) (by decide) h) ?_
          show Go p e below _ T18 (mkF m 139 #[.val (.int p1), .val (.int p2), .val (.int ((p1 &&& (2147483647 : Int32)) % (6 : Int32))), .val (.ref b2), .val (.int (1 : Int32)), .val (.int (1 : Int32)), .val (.int (1 : Int32))] [(.int (1 : Int32))])
          refine Go.st (fun _ h => XS.goto X18.here hx rfl (pc0 := 139) (pc' := 143) rfl (hb hby at_139) (by decide) (by decide) h) ?_
          show Go p e below _ T18 (mkF m 143 #[.val (.int p1), .val (.int p2), .val (.int ((p1 &&& (2147483647 : Int32)) % (6 : Int32))), .val (.ref b2), .val (.int (1 : Int32)), .val (.int (1 : Int32)), .val (.int (1 : Int32))] [(.int (1 : Int32))])
          refine Go.retZ X18 hx hlk hret rfl (hb hby at_143) (by decide) (by decide) ?_
          exact ⟨rfl, Fr.nil _⟩
        · refine Go.st (fun _ h => XS.ifYes X16.here hx rfl (pc0 := 91) (pc' := 100) rfl (hb hby at_91) rfl ((if0 _ _).trans (flt hc17).2.1) (by decide) (by decide) h) ?_
          show Go p e below _ T16 (mkF m 100 #[.val (.int p1), .val (.int p2), .val (.int ((p1 &&& (2147483647 : Int32)) % (6 : Int32))), .val (.ref b2), .val (.int (1 : Int32)), .unset, .unset] [])
          refine Go.st (fun _ h => XS.iloadN X16.here hx rfl (hb hby at_100) rfl h) ?_
          show Go p e below _ T16 (mkF m 101 #[.val (.int p1), .val (.int p2), .val (.int ((p1 &&& (2147483647 : Int32)) % (6 : Int32))), .val (.ref b2), .val (.int (1 : Int32)), .unset, .unset] [(.int p2)])
          by_cases hc19 : p2 = (0 : Int32)
          · refine Go.st (fun _ h => XS.ifNo X16.here hx rfl (hb hby at_101) rfl ((if0 _ _).trans (teq hc19).2) h) ?_
            show Go p e below _ T16 (mkF m 104 #[.val (.int p1), .val (.int p2), .val (.int ((p1 &&& (2147483647 : Int32)) % (6 : Int32))), .val (.ref b2), .val (.int (1 : Int32)), .unset, .unset] [])
            refine Go.st (fun _ h => XT.iconstV X16.here hx rfl (2 : Int32) (hb hby at_104) (by decide) h) ?_
            show Go p e below _ T16 (mkF m 105 #[.val (.int p1), .val (.int p2), .val (.int ((p1 &&& (2147483647 : Int32)) % (6 : Int32))), .val (.ref b2), .val (.int (1 : Int32)), .unset, .unset] [(.int (2 : Int32))])
            refine Go.st (fun _ h => XS.istore X16.here hx rfl (hb hby at_105) rfl (l' := #[.val (.int p1), .val (.int p2), .val (.int ((p1 &&& (2147483647 : Int32)) % (6 : Int32))), .val (.ref b2), .val (.int (1 : Int32)), .val (.int (2 : Int32)), .unset]) rfl h) ?_
            show Go p e below _ T16 (mkF m 107 #[.val (.int p1), .val (.int p2), .val (.int ((p1 &&& (2147483647 : Int32)) % (6 : Int32))), .val (.ref b2), .val (.int (1 : Int32)), .val (.int (2 : Int32)), .unset] [])
            refine Go.st (fun _ h => XS.goto X16.here hx rfl (pc0 := 107) (pc' := 113) rfl (hb hby at_107) (by decide) (by decide) h) ?_
            show Go p e below _ T16 (mkF m 113 #[.val (.int p1), .val (.int p2), .val (.int ((p1 &&& (2147483647 : Int32)) % (6 : Int32))), .val (.ref b2), .val (.int (1 : Int32)), .val (.int (2 : Int32)), .unset] [])
            refine Go.st (fun _ h => XS.iload X16.here hx rfl (hb hby at_113) rfl h) ?_
            show Go p e below _ T16 (mkF m 115 #[.val (.int p1), .val (.int p2), .val (.int ((p1 &&& (2147483647 : Int32)) % (6 : Int32))), .val (.ref b2), .val (.int (1 : Int32)), .val (.int (2 : Int32)), .unset] [(.int (1 : Int32))])
            refine Go.st (fun _ h => XS.iload X16.here hx rfl (hb hby at_115) rfl h) ?_
            show Go p e below _ T16 (mkF m 117 #[.val (.int p1), .val (.int p2), .val (.int ((p1 &&& (2147483647 : Int32)) % (6 : Int32))), .val (.ref b2), .val (.int (1 : Int32)), .val (.int (2 : Int32)), .unset] [(.int (2 : Int32)), (.int (1 : Int32))])
            refine Go.st (fun _ h => XS.iand X16.here hx rfl (hb hby at_117) rfl h) ?_
            show Go p e below _ T16 (mkF m 118 #[.val (.int p1), .val (.int p2), .val (.int ((p1 &&& (2147483647 : Int32)) % (6 : Int32))), .val (.ref b2), .val (.int (1 : Int32)), .val (.int (2 : Int32)), .unset] [(.int ((1 : Int32) &&& (2 : Int32)))])
            refine Go.st (fun _ h => XS.ifYes X16.here hx rfl (pc0 := 118) (pc' := 125) rfl (hb hby at_118) rfl (by decide) (by decide) (by decide) h) ?_
            show Go p e below _ T16 (mkF m 125 #[.val (.int p1), .val (.int p2), .val (.int ((p1 &&& (2147483647 : Int32)) % (6 : Int32))), .val (.ref b2), .val (.int (1 : Int32)), .val (.int (2 : Int32)), .unset] [])
            refine Go.st (fun _ h => XT.iconstV X16.here hx rfl (0 : Int32) (hb hby at_125) (by decide) h) ?_
            show Go p e below _ T16 (mkF m 126 #[.val (.int p1), .val (.int p2), .val (.int ((p1 &&& (2147483647 : Int32)) % (6 : Int32))), .val (.ref b2), .val (.int (1 : Int32)), .val (.int (2 : Int32)), .unset] [(.int (0 : Int32))])
            refine Go.st (fun _ h => XS.istore X16.here hx rfl (hb hby at_126) rfl (l' := #[.val (.int p1), .val (.int p2), .val (.int ((p1 &&& (2147483647 : Int32)) % (6 : Int32))), .val (.ref b2), .val (.int (1 : Int32)), .val (.int (2 : Int32)), .val (.int (0 : Int32))]) rfl h) ?_
            show Go p e below _ T16 (mkF m 128 #[.val (.int p1), .val (.int p2), .val (.int ((p1 &&& (2147483647 : Int32)) % (6 : Int32))), .val (.ref b2), .val (.int (1 : Int32)), .val (.int (2 : Int32)), .val (.int (0 : Int32))] [])
            refine Go.st (fun _ h => XS.aloadN X16.here hx rfl (hb hby at_128) rfl rfl h) ?_
            show Go p e below _ T16 (mkF m 129 #[.val (.int p1), .val (.int p2), .val (.int ((p1 &&& (2147483647 : Int32)) % (6 : Int32))), .val (.ref b2), .val (.int (1 : Int32)), .val (.int (2 : Int32)), .val (.int (0 : Int32))] [(.ref b2)])
            refine Go.st (fun _ h => XS.iloadN X16.here hx rfl (hb hby at_129) rfl h) ?_
            show Go p e below _ T16 (mkF m 130 #[.val (.int p1), .val (.int p2), .val (.int ((p1 &&& (2147483647 : Int32)) % (6 : Int32))), .val (.ref b2), .val (.int (1 : Int32)), .val (.int (2 : Int32)), .val (.int (0 : Int32))] [(.int p2), (.ref b2)])
            obtain ⟨T20, X20, e20, st20⟩ := own_still rfl rfl (Does.virtual (y := (⟨"com/example/intended_use/intendeduse/condition/Operator", "holds", "(I)Z"⟩ : MethodName)) (g := (mkF m 130 #[.val (.int p1), .val (.int p2), .val (.int ((p1 &&& (2147483647 : Int32)) % (6 : Int32))), .val (.ref b2), .val (.int (1 : Int32)), .val (.int (2 : Int32)), .val (.int (0 : Int32))] [(.int p2), (.ref b2)])) (a := b2) (rmHolds2 l Z a0 hw b2 p2 h0 E_LESS F_LESS) X16 hx hZ hown e16 E_LESS (hw _ (List.mem_of_getElem? (i := 4) rfl)) (hw _ (List.mem_of_getElem? (i := 5) rfl)) (hw _ (List.mem_of_getElem? (i := 7) rfl)) (hw _ (List.mem_of_getElem? (i := 6) rfl)) (hw _ (List.mem_of_getElem? (i := 2) rfl)) (hw _ (List.mem_of_getElem? (i := 8) rfl)) (by decide) rfl (by rw [hml]; rfl) (argsL := [(.int p2)]) (rest := []) (lenOf pd_28I29Z rfl) rfl (hb hby at_130) (W := 0) (by show 2 * 0 + _ ≤ _; exact Nat.le_of_eq rfl) (by decide) (by decide) (by decide) (by decide))
            refine Go.st st20 ?_
            show Go p e below _ T20 (mkF m 133 #[.val (.int p1), .val (.int p2), .val (.int ((p1 &&& (2147483647 : Int32)) % (6 : Int32))), .val (.ref b2), .val (.int (1 : Int32)), .val (.int (2 : Int32)), .val (.int (0 : Int32))] [(.int (own_h2 p2))])
            refine Go.st (fun _ h => XS.iload X20.here hx rfl (hb hby at_133) rfl h) ?_
            show Go p e below _ T20 (mkF m 135 #[.val (.int p1), .val (.int p2), .val (.int ((p1 &&& (2147483647 : Int32)) % (6 : Int32))), .val (.ref b2), .val (.int (1 : Int32)), .val (.int (2 : Int32)), .val (.int (0 : Int32))] [(.int (0 : Int32)), (.int (own_h2 p2))])
            refine Go.st (fun _ h => XS.icmpNo X20.here hx rfl (hb hby at_135) rfl ((teq (own_h2z hc17 hc19 : (own_h2 p2) = (0 : Int32))).2) h) ?_
            show Go p e below _ T20 (mkF m 138 #[.val (.int p1), .val (.int p2), .val (.int ((p1 &&& (2147483647 : Int32)) % (6 : Int32))), .val (.ref b2), .val (.int (1 : Int32)), .val (.int (2 : Int32)), .val (.int (0 : Int32))] [])
            refine Go.st (fun _ h => XT.iconstV X20.here hx rfl (1 : Int32) (hb hby at_138) (by decide) h) ?_
            show Go p e below _ T20 (mkF m 139 #[.val (.int p1), .val (.int p2), .val (.int ((p1 &&& (2147483647 : Int32)) % (6 : Int32))), .val (.ref b2), .val (.int (1 : Int32)), .val (.int (2 : Int32)), .val (.int (0 : Int32))] [(.int (1 : Int32))])
            refine Go.st (fun _ h => XS.goto X20.here hx rfl (pc0 := 139) (pc' := 143) rfl (hb hby at_139) (by decide) (by decide) h) ?_
            show Go p e below _ T20 (mkF m 143 #[.val (.int p1), .val (.int p2), .val (.int ((p1 &&& (2147483647 : Int32)) % (6 : Int32))), .val (.ref b2), .val (.int (1 : Int32)), .val (.int (2 : Int32)), .val (.int (0 : Int32))] [(.int (1 : Int32))])
            refine Go.retZ X20 hx hlk hret rfl (hb hby at_143) (by decide) (by decide) ?_
            exact ⟨rfl, Fr.nil _⟩
          · refine Go.st (fun _ h => XS.ifYes X16.here hx rfl (pc0 := 101) (pc' := 110) rfl (hb hby at_101) rfl ((if0 _ _).trans (feq hc19).2) (by decide) (by decide) h) ?_
            show Go p e below _ T16 (mkF m 110 #[.val (.int p1), .val (.int p2), .val (.int ((p1 &&& (2147483647 : Int32)) % (6 : Int32))), .val (.ref b2), .val (.int (1 : Int32)), .unset, .unset] [])
            refine Go.st (fun _ h => XT.iconstV X16.here hx rfl (4 : Int32) (hb hby at_110) (by decide) h) ?_
            show Go p e below _ T16 (mkF m 111 #[.val (.int p1), .val (.int p2), .val (.int ((p1 &&& (2147483647 : Int32)) % (6 : Int32))), .val (.ref b2), .val (.int (1 : Int32)), .unset, .unset] [(.int (4 : Int32))])
            refine Go.st (fun _ h => XS.istore X16.here hx rfl (hb hby at_111) rfl (l' := #[.val (.int p1), .val (.int p2), .val (.int ((p1 &&& (2147483647 : Int32)) % (6 : Int32))), .val (.ref b2), .val (.int (1 : Int32)), .val (.int (4 : Int32)), .unset]) rfl h) ?_
            show Go p e below _ T16 (mkF m 113 #[.val (.int p1), .val (.int p2), .val (.int ((p1 &&& (2147483647 : Int32)) % (6 : Int32))), .val (.ref b2), .val (.int (1 : Int32)), .val (.int (4 : Int32)), .unset] [])
            refine Go.st (fun _ h => XS.iload X16.here hx rfl (hb hby at_113) rfl h) ?_
            show Go p e below _ T16 (mkF m 115 #[.val (.int p1), .val (.int p2), .val (.int ((p1 &&& (2147483647 : Int32)) % (6 : Int32))), .val (.ref b2), .val (.int (1 : Int32)), .val (.int (4 : Int32)), .unset] [(.int (1 : Int32))])
            refine Go.st (fun _ h => XS.iload X16.here hx rfl (hb hby at_115) rfl h) ?_
            show Go p e below _ T16 (mkF m 117 #[.val (.int p1), .val (.int p2), .val (.int ((p1 &&& (2147483647 : Int32)) % (6 : Int32))), .val (.ref b2), .val (.int (1 : Int32)), .val (.int (4 : Int32)), .unset] [(.int (4 : Int32)), (.int (1 : Int32))])
            refine Go.st (fun _ h => XS.iand X16.here hx rfl (hb hby at_117) rfl h) ?_
            show Go p e below _ T16 (mkF m 118 #[.val (.int p1), .val (.int p2), .val (.int ((p1 &&& (2147483647 : Int32)) % (6 : Int32))), .val (.ref b2), .val (.int (1 : Int32)), .val (.int (4 : Int32)), .unset] [(.int ((1 : Int32) &&& (4 : Int32)))])
            refine Go.st (fun _ h => XS.ifYes X16.here hx rfl (pc0 := 118) (pc' := 125) rfl (hb hby at_118) rfl (by decide) (by decide) (by decide) h) ?_
            show Go p e below _ T16 (mkF m 125 #[.val (.int p1), .val (.int p2), .val (.int ((p1 &&& (2147483647 : Int32)) % (6 : Int32))), .val (.ref b2), .val (.int (1 : Int32)), .val (.int (4 : Int32)), .unset] [])
            refine Go.st (fun _ h => XT.iconstV X16.here hx rfl (0 : Int32) (hb hby at_125) (by decide) h) ?_
            show Go p e below _ T16 (mkF m 126 #[.val (.int p1), .val (.int p2), .val (.int ((p1 &&& (2147483647 : Int32)) % (6 : Int32))), .val (.ref b2), .val (.int (1 : Int32)), .val (.int (4 : Int32)), .unset] [(.int (0 : Int32))])
            refine Go.st (fun _ h => XS.istore X16.here hx rfl (hb hby at_126) rfl (l' := #[.val (.int p1), .val (.int p2), .val (.int ((p1 &&& (2147483647 : Int32)) % (6 : Int32))), .val (.ref b2), .val (.int (1 : Int32)), .val (.int (4 : Int32)), .val (.int (0 : Int32))]) rfl h) ?_
            show Go p e below _ T16 (mkF m 128 #[.val (.int p1), .val (.int p2), .val (.int ((p1 &&& (2147483647 : Int32)) % (6 : Int32))), .val (.ref b2), .val (.int (1 : Int32)), .val (.int (4 : Int32)), .val (.int (0 : Int32))] [])
            refine Go.st (fun _ h => XS.aloadN X16.here hx rfl (hb hby at_128) rfl rfl h) ?_
            show Go p e below _ T16 (mkF m 129 #[.val (.int p1), .val (.int p2), .val (.int ((p1 &&& (2147483647 : Int32)) % (6 : Int32))), .val (.ref b2), .val (.int (1 : Int32)), .val (.int (4 : Int32)), .val (.int (0 : Int32))] [(.ref b2)])
            refine Go.st (fun _ h => XS.iloadN X16.here hx rfl (hb hby at_129) rfl h) ?_
            show Go p e below _ T16 (mkF m 130 #[.val (.int p1), .val (.int p2), .val (.int ((p1 &&& (2147483647 : Int32)) % (6 : Int32))), .val (.ref b2), .val (.int (1 : Int32)), .val (.int (4 : Int32)), .val (.int (0 : Int32))] [(.int p2), (.ref b2)])
            obtain ⟨T21, X21, e21, st21⟩ := own_still rfl rfl (Does.virtual (y := (⟨"com/example/intended_use/intendeduse/condition/Operator", "holds", "(I)Z"⟩ : MethodName)) (g := (mkF m 130 #[.val (.int p1), .val (.int p2), .val (.int ((p1 &&& (2147483647 : Int32)) % (6 : Int32))), .val (.ref b2), .val (.int (1 : Int32)), .val (.int (4 : Int32)), .val (.int (0 : Int32))] [(.int p2), (.ref b2)])) (a := b2) (rmHolds2 l Z a0 hw b2 p2 h0 E_LESS F_LESS) X16 hx hZ hown e16 E_LESS (hw _ (List.mem_of_getElem? (i := 4) rfl)) (hw _ (List.mem_of_getElem? (i := 5) rfl)) (hw _ (List.mem_of_getElem? (i := 7) rfl)) (hw _ (List.mem_of_getElem? (i := 6) rfl)) (hw _ (List.mem_of_getElem? (i := 2) rfl)) (hw _ (List.mem_of_getElem? (i := 8) rfl)) (by decide) rfl (by rw [hml]; rfl) (argsL := [(.int p2)]) (rest := []) (lenOf pd_28I29Z rfl) rfl (hb hby at_130) (W := 0) (by show 2 * 0 + _ ≤ _; exact Nat.le_of_eq rfl) (by decide) (by decide) (by decide) (by decide))
            refine Go.st st21 ?_
            show Go p e below _ T21 (mkF m 133 #[.val (.int p1), .val (.int p2), .val (.int ((p1 &&& (2147483647 : Int32)) % (6 : Int32))), .val (.ref b2), .val (.int (1 : Int32)), .val (.int (4 : Int32)), .val (.int (0 : Int32))] [(.int (own_h2 p2))])
            refine Go.st (fun _ h => XS.iload X21.here hx rfl (hb hby at_133) rfl h) ?_
            show Go p e below _ T21 (mkF m 135 #[.val (.int p1), .val (.int p2), .val (.int ((p1 &&& (2147483647 : Int32)) % (6 : Int32))), .val (.ref b2), .val (.int (1 : Int32)), .val (.int (4 : Int32)), .val (.int (0 : Int32))] [(.int (0 : Int32)), (.int (own_h2 p2))])
            refine Go.st (fun _ h => XS.icmpNo X21.here hx rfl (hb hby at_135) rfl ((teq (own_h2p hc17 hc19 : (own_h2 p2) = (0 : Int32))).2) h) ?_
            show Go p e below _ T21 (mkF m 138 #[.val (.int p1), .val (.int p2), .val (.int ((p1 &&& (2147483647 : Int32)) % (6 : Int32))), .val (.ref b2), .val (.int (1 : Int32)), .val (.int (4 : Int32)), .val (.int (0 : Int32))] [])
            refine Go.st (fun _ h => XT.iconstV X21.here hx rfl (1 : Int32) (hb hby at_138) (by decide) h) ?_
            show Go p e below _ T21 (mkF m 139 #[.val (.int p1), .val (.int p2), .val (.int ((p1 &&& (2147483647 : Int32)) % (6 : Int32))), .val (.ref b2), .val (.int (1 : Int32)), .val (.int (4 : Int32)), .val (.int (0 : Int32))] [(.int (1 : Int32))])
            refine Go.st (fun _ h => XS.goto X21.here hx rfl (pc0 := 139) (pc' := 143) rfl (hb hby at_139) (by decide) (by decide) h) ?_
            show Go p e below _ T21 (mkF m 143 #[.val (.int p1), .val (.int p2), .val (.int ((p1 &&& (2147483647 : Int32)) % (6 : Int32))), .val (.ref b2), .val (.int (1 : Int32)), .val (.int (4 : Int32)), .val (.int (0 : Int32))] [(.int (1 : Int32))])
            refine Go.retZ X21 hx hlk hret rfl (hb hby at_143) (by decide) (by decide) ?_
            exact ⟨rfl, Fr.nil _⟩
      · refine Go.st (fun _ h => XS.icmpYes X0.here hx rfl (pc0 := 39) (pc' := 52) rfl (hb hby at_39) rfl ((feq hc15).2) (by decide) (by decide) h) ?_
        show Go p e below _ s₁ (mkF m 52 #[.val (.int p1), .val (.int p2), .val (.int ((p1 &&& (2147483647 : Int32)) % (6 : Int32))), .unset, .unset, .unset, .unset] [])
        refine Go.st (fun _ h => XS.iloadN X0.here hx rfl (hb hby at_52) rfl h) ?_
        show Go p e below _ s₁ (mkF m 53 #[.val (.int p1), .val (.int p2), .val (.int ((p1 &&& (2147483647 : Int32)) % (6 : Int32))), .unset, .unset, .unset, .unset] [(.int ((p1 &&& (2147483647 : Int32)) % (6 : Int32)))])
        refine Go.st (fun _ h => XT.iconstV X0.here hx rfl (3 : Int32) (hb hby at_53) (by decide) h) ?_
        show Go p e below _ s₁ (mkF m 54 #[.val (.int p1), .val (.int p2), .val (.int ((p1 &&& (2147483647 : Int32)) % (6 : Int32))), .unset, .unset, .unset, .unset] [(.int (3 : Int32)), (.int ((p1 &&& (2147483647 : Int32)) % (6 : Int32)))])
        by_cases hc22 : ((p1 &&& (2147483647 : Int32)) % (6 : Int32)) = (3 : Int32)
        · refine Go.st (fun _ h => XS.icmpNo X0.here hx rfl (hb hby at_54) rfl ((teq hc22).2) h) ?_
          show Go p e below _ s₁ (mkF m 57 #[.val (.int p1), .val (.int p2), .val (.int ((p1 &&& (2147483647 : Int32)) % (6 : Int32))), .unset, .unset, .unset, .unset] [])
          obtain ⟨T23, X23, e23, st23⟩ := getS2 X0 hx hZ hown (host := "") (Or.inl (hw _ (List.mem_of_getElem? (i := 26) rfl))) Via.refl e0 S_LESS_OR_EQUAL (g := (mkF m 57 #[.val (.int p1), .val (.int p2), .val (.int ((p1 &&& (2147483647 : Int32)) % (6 : Int32))), .unset, .unset, .unset, .unset] [])) rfl (hb hby at_57)
          refine Go.st st23 ?_
          show Go p e below _ T23 (mkF m 60 #[.val (.int p1), .val (.int p2), .val (.int ((p1 &&& (2147483647 : Int32)) % (6 : Int32))), .unset, .unset, .unset, .unset] [(.ref b3)])
          refine Go.st (fun _ h => XS.astoreN X23.here hx rfl (hb hby at_60) rfl rfl (l' := #[.val (.int p1), .val (.int p2), .val (.int ((p1 &&& (2147483647 : Int32)) % (6 : Int32))), .val (.ref b3), .unset, .unset, .unset]) rfl h) ?_
          show Go p e below _ T23 (mkF m 61 #[.val (.int p1), .val (.int p2), .val (.int ((p1 &&& (2147483647 : Int32)) % (6 : Int32))), .val (.ref b3), .unset, .unset, .unset] [])
          refine Go.st (fun _ h => XT.iconstV X23.here hx rfl (3 : Int32) (hb hby at_61) (by decide) h) ?_
          show Go p e below _ T23 (mkF m 62 #[.val (.int p1), .val (.int p2), .val (.int ((p1 &&& (2147483647 : Int32)) % (6 : Int32))), .val (.ref b3), .unset, .unset, .unset] [(.int (3 : Int32))])
          refine Go.st (fun _ h => XS.istore X23.here hx rfl (hb hby at_62) rfl (l' := #[.val (.int p1), .val (.int p2), .val (.int ((p1 &&& (2147483647 : Int32)) % (6 : Int32))), .val (.ref b3), .val (.int (3 : Int32)), .unset, .unset]) rfl h) ?_
          show Go p e below _ T23 (mkF m 64 #[.val (.int p1), .val (.int p2), .val (.int ((p1 &&& (2147483647 : Int32)) % (6 : Int32))), .val (.ref b3), .val (.int (3 : Int32)), .unset, .unset] [])
          refine Go.st (fun _ h => XS.goto X23.here hx rfl (pc0 := 64) (pc' := 90) rfl (hb hby at_64) (by decide) (by decide) h) ?_
          show Go p e below _ T23 (mkF m 90 #[.val (.int p1), .val (.int p2), .val (.int ((p1 &&& (2147483647 : Int32)) % (6 : Int32))), .val (.ref b3), .val (.int (3 : Int32)), .unset, .unset] [])
          refine Go.st (fun _ h => XS.iloadN X23.here hx rfl (hb hby at_90) rfl h) ?_
          show Go p e below _ T23 (mkF m 91 #[.val (.int p1), .val (.int p2), .val (.int ((p1 &&& (2147483647 : Int32)) % (6 : Int32))), .val (.ref b3), .val (.int (3 : Int32)), .unset, .unset] [(.int p2)])
          by_cases hc24 : p2 < (0 : Int32)
          · refine Go.st (fun _ h => XS.ifNo X23.here hx rfl (hb hby at_91) rfl ((if0 _ _).trans (tlt hc24).2.1) h) ?_
            show Go p e below _ T23 (mkF m 94 #[.val (.int p1), .val (.int p2), .val (.int ((p1 &&& (2147483647 : Int32)) % (6 : Int32))), .val (.ref b3), .val (.int (3 : Int32)), .unset, .unset] [])
            refine Go.st (fun _ h => XT.iconstV X23.here hx rfl (1 : Int32) (hb hby at_94) (by decide) h) ?_
            show Go p e below _ T23 (mkF m 95 #[.val (.int p1), .val (.int p2), .val (.int ((p1 &&& (2147483647 : Int32)) % (6 : Int32))), .val (.ref b3), .val (.int (3 : Int32)), .unset, .unset] [(.int (1 : Int32))])
            refine Go.st (fun _ h => XS.istore X23.here hx rfl (hb hby at_95) rfl (l' := #[.val (.int p1), .val (.int p2), .val (.int ((p1 &&& (2147483647 : Int32)) % (6 : Int32))), .val (.ref b3), .val (.int (3 : Int32)), .val (.int (1 : Int32)), .unset]) rfl h) ?_
            show Go p e below _ T23 (mkF m 97 #[.val (.int p1), .val (.int p2), .val (.int ((p1 &&& (2147483647 : Int32)) % (6 : Int32))), .val (.ref b3), .val (.int (3 : Int32)), .val (.int (1 : Int32)), .unset] [])
            refine Go.st (fun _ h => XS.goto X23.here hx rfl (pc0 := 97) (pc' := 113) rfl (hb hby at_97) (by decide) (by decide) h) ?_
            show Go p e below _ T23 (mkF m 113 #[.val (.int p1), .val (.int p2), .val (.int ((p1 &&& (2147483647 : Int32)) % (6 : Int32))), .val (.ref b3), .val (.int (3 : Int32)), .val (.int (1 : Int32)), .unset] [])
            refine Go.st (fun _ h => XS.iload X23.here hx rfl (hb hby at_113) rfl h) ?_
            show Go p e below _ T23 (mkF m 115 #[.val (.int p1), .val (.int p2), .val (.int ((p1 &&& (2147483647 : Int32)) % (6 : Int32))), .val (.ref b3), .val (.int (3 : Int32)), .val (.int (1 : Int32)), .unset] [(.int (3 : Int32))])
            refine Go.st (fun _ h => XS.iload X23.here hx rfl (hb hby at_115) rfl h) ?_
            show Go p e below _ T23 (mkF m 117 #[.val (.int p1), .val (.int p2), .val (.int ((p1 &&& (2147483647 : Int32)) % (6 : Int32))), .val (.ref b3), .val (.int (3 : Int32)), .val (.int (1 : Int32)), .unset] [(.int (1 : Int32)), (.int (3 : Int32))])
            refine Go.st (fun _ h => XS.iand X23.here hx rfl (hb hby at_117) rfl h) ?_
            show Go p e below _ T23 (mkF m 118 #[.val (.int p1), .val (.int p2), .val (.int ((p1 &&& (2147483647 : Int32)) % (6 : Int32))), .val (.ref b3), .val (.int (3 : Int32)), .val (.int (1 : Int32)), .unset] [(.int ((3 : Int32) &&& (1 : Int32)))])
            refine Go.st (fun _ h => XS.ifNo X23.here hx rfl (hb hby at_118) rfl (by decide) h) ?_
            show Go p e below _ T23 (mkF m 121 #[.val (.int p1), .val (.int p2), .val (.int ((p1 &&& (2147483647 : Int32)) % (6 : Int32))), .val (.ref b3), .val (.int (3 : Int32)), .val (.int (1 : Int32)), .unset] [])
            refine Go.st (fun _ h => XT.iconstV X23.here hx rfl (1 : Int32) (hb hby at_121) (by decide) h) ?_
            show Go p e below _ T23 (mkF m 122 #[.val (.int p1), .val (.int p2), .val (.int ((p1 &&& (2147483647 : Int32)) % (6 : Int32))), .val (.ref b3), .val (.int (3 : Int32)), .val (.int (1 : Int32)), .unset] [(.int (1 : Int32))])
            refine Go.st (fun _ h => XS.goto X23.here hx rfl (pc0 := 122) (pc' := 126) rfl (hb hby at_122) (by decide) (by decide) h) ?_
            show Go p e below _ T23 (mkF m 126 #[.val (.int p1), .val (.int p2), .val (.int ((p1 &&& (2147483647 : Int32)) % (6 : Int32))), .val (.ref b3), .val (.int (3 : Int32)), .val (.int (1 : Int32)), .unset] [(.int (1 : Int32))])
            refine Go.st (fun _ h => XS.istore X23.here hx rfl (hb hby at_126) rfl (l' := #[.val (.int p1), .val (.int p2), .val (.int ((p1 &&& (2147483647 : Int32)) % (6 : Int32))), .val (.ref b3), .val (.int (3 : Int32)), .val (.int (1 : Int32)), .val (.int (1 : Int32))]) rfl h) ?_
            show Go p e below _ T23 (mkF m 128 #[.val (.int p1), .val (.int p2), .val (.int ((p1 &&& (2147483647 : Int32)) % (6 : Int32))), .val (.ref b3), .val (.int (3 : Int32)), .val (.int (1 : Int32)), .val (.int (1 : Int32))] [])
            refine Go.st (fun _ h => XS.aloadN X23.here hx rfl (hb hby at_128) rfl rfl h) ?_
            show Go p e below _ T23 (mkF m 129 #[.val (.int p1), .val (.int p2), .val (.int ((p1 &&& (2147483647 : Int32)) % (6 : Int32))), .val (.ref b3), .val (.int (3 : Int32)), .val (.int (1 : Int32)), .val (.int (1 : Int32))] [(.ref b3)])
            refine Go.st (fun _ h => XS.iloadN X23.here hx rfl (hb hby at_129) rfl h) ?_
            show Go p e below _ T23 (mkF m 130 #[.val (.int p1), .val (.int p2), .val (.int ((p1 &&& (2147483647 : Int32)) % (6 : Int32))), .val (.ref b3), .val (.int (3 : Int32)), .val (.int (1 : Int32)), .val (.int (1 : Int32))] [(.int p2), (.ref b3)])
            obtain ⟨T25, X25, e25, st25⟩ := own_still rfl rfl (Does.virtual (y := (⟨"com/example/intended_use/intendeduse/condition/Operator", "holds", "(I)Z"⟩ : MethodName)) (g := (mkF m 130 #[.val (.int p1), .val (.int p2), .val (.int ((p1 &&& (2147483647 : Int32)) % (6 : Int32))), .val (.ref b3), .val (.int (3 : Int32)), .val (.int (1 : Int32)), .val (.int (1 : Int32))] [(.int p2), (.ref b3)])) (a := b3) (rmHolds3 l Z a0 hw b3 p2 h0 E_LESS_OR_EQUAL F_LESS_OR_EQUAL) X23 hx hZ hown e23 E_LESS_OR_EQUAL (hw _ (List.mem_of_getElem? (i := 4) rfl)) (hw _ (List.mem_of_getElem? (i := 5) rfl)) (hw _ (List.mem_of_getElem? (i := 7) rfl)) (hw _ (List.mem_of_getElem? (i := 6) rfl)) (hw _ (List.mem_of_getElem? (i := 2) rfl)) (hw _ (List.mem_of_getElem? (i := 8) rfl)) (by decide) rfl (by rw [hml]; rfl) (argsL := [(.int p2)]) (rest := []) (lenOf pd_28I29Z rfl) rfl (hb hby at_130) (W := 0) (by show 2 * 0 + _ ≤ _; exact Nat.le_of_eq rfl) (by decide) (by decide) (by decide) (by decide))
            refine Go.st st25 ?_
            show Go p e below _ T25 (mkF m 133 #[.val (.int p1), .val (.int p2), .val (.int ((p1 &&& (2147483647 : Int32)) % (6 : Int32))), .val (.ref b3), .val (.int (3 : Int32)), .val (.int (1 : Int32)), .val (.int (1 : Int32))] [(.int (own_h3 p2))])
            refine Go.st (fun _ h => XS.iload X25.here hx rfl (hb hby at_133) rfl h) ?_
            show Go p e below _ T25 (mkF m 135 #[.val (.int p1), .val (.int p2), .val (.int ((p1 &&& (2147483647 : Int32)) % (6 : Int32))), .val (.ref b3), .val (.int (3 : Int32)), .val (.int (1 : Int32)), .val (.int (1 : Int32))] [(.int (1 : Int32)), (.int (own_h3 p2))])
            refine Go.st (fun _ h => XS.icmpNo X25.here hx rfl (hb hby at_135) rfl ((teq (own_h3n hc24 : (own_h3 p2) = (1 : Int32))).2) h) ?_
            show Go p e below _ T25 (mkF m 138 #[.val (.int p1), .val (.int p2), .val (.int ((p1 &&& (2147483647 : Int32)) % (6 : Int32))), .val (.ref b3), .val (.int (3 : Int32)), .val (.int (1 : Int32)), .val (.int (1 : Int32))] [])
            refine Go.st (fun _ h => XT.iconstV X25.here hx rfl (1 : Int32) (hb hby at_138) (by decide) h) ?_
            show Go p e below _ T25 (mkF m 139 #[.val (.int p1), .val (.int p2), .val (.int ((p1 &&& (2147483647 : Int32)) % (6 : Int32))), .val (.ref b3), .val (.int (3 : Int32)), .val (.int (1 : Int32)), .val (.int (1 : Int32))] [(.int (1 : Int32))])
            refine Go.st (fun _ h => XS.goto X25.here hx rfl (pc0 := 139) (pc' := 143) rfl (hb hby at_139) (by decide) (by decide) h) ?_
            show Go p e below _ T25 (mkF m 143 #[.val (.int p1), .val (.int p2), .val (.int ((p1 &&& (2147483647 : Int32)) % (6 : Int32))), .val (.ref b3), .val (.int (3 : Int32)), .val (.int (1 : Int32)), .val (.int (1 : Int32))] [(.int (1 : Int32))])
            refine Go.retZ X25 hx hlk hret rfl (hb hby at_143) (by decide) (by decide) ?_
            exact ⟨rfl, Fr.nil _⟩
          · refine Go.st (fun _ h => XS.ifYes X23.here hx rfl (pc0 := 91) (pc' := 100) rfl (hb hby at_91) rfl ((if0 _ _).trans (flt hc24).2.1) (by decide) (by decide) h) ?_
            show Go p e below _ T23 (mkF m 100 #[.val (.int p1), .val (.int p2), .val (.int ((p1 &&& (2147483647 : Int32)) % (6 : Int32))), .val (.ref b3), .val (.int (3 : Int32)), .unset, .unset] [])
            refine Go.st (fun _ h => XS.iloadN X23.here hx rfl (hb hby at_100) rfl h) ?_
            show Go p e below _ T23 (mkF m 101 #[.val (.int p1), .val (.int p2), .val (.int ((p1 &&& (2147483647 : Int32)) % (6 : Int32))), .val (.ref b3), .val (.int (3 : Int32)), .unset, .unset] [(.int p2)])
            by_cases hc26 : p2 = (0 : Int32)
            · refine Go.st (fun _ h => XS.ifNo X23.here hx rfl (hb hby at_101) rfl ((if0 _ _).trans (teq hc26).2) h) ?_
              show Go p e below _ T23 (mkF m 104 #[.val (.int p1), .val (.int p2), .val (.int ((p1 &&& (2147483647 : Int32)) % (6 : Int32))), .val (.ref b3), .val (.int (3 : Int32)), .unset, .unset] [])
              refine Go.st (fun _ h => XT.iconstV X23.here hx rfl (2 : Int32) (hb hby at_104) (by decide) h) ?_
              show Go p e below _ T23 (mkF m 105 #[.val (.int p1), .val (.int p2), .val (.int ((p1 &&& (2147483647 : Int32)) % (6 : Int32))), .val (.ref b3), .val (.int (3 : Int32)), .unset, .unset] [(.int (2 : Int32))])
              refine Go.st (fun _ h => XS.istore X23.here hx rfl (hb hby at_105) rfl (l' := #[.val (.int p1), .val (.int p2), .val (.int ((p1 &&& (2147483647 : Int32)) % (6 : Int32))), .val (.ref b3), .val (.int (3 : Int32)), .val (.int (2 : Int32)), .unset]) rfl h) ?_
              show Go p e below _ T23 (mkF m 107 #[.val (.int p1), .val (.int p2), .val (.int ((p1 &&& (2147483647 : Int32)) % (6 : Int32))), .val (.ref b3), .val (.int (3 : Int32)), .val (.int (2 : Int32)), .unset] [])
              refine Go.st (fun _ h => XS.goto X23.here hx rfl (pc0 := 107) (pc' := 113) rfl (hb hby at_107) (by decide) (by decide) h) ?_
              show Go p e below _ T23 (mkF m 113 #[.val (.int p1), .val (.int p2), .val (.int ((p1 &&& (2147483647 : Int32)) % (6 : Int32))), .val (.ref b3), .val (.int (3 : Int32)), .val (.int (2 : Int32)), .unset] [])
              refine Go.st (fun _ h => XS.iload X23.here hx rfl (hb hby at_113) rfl h) ?_
              show Go p e below _ T23 (mkF m 115 #[.val (.int p1), .val (.int p2), .val (.int ((p1 &&& (2147483647 : Int32)) % (6 : Int32))), .val (.ref b3), .val (.int (3 : Int32)), .val (.int (2 : Int32)), .unset] [(.int (3 : Int32))])
              refine Go.st (fun _ h => XS.iload X23.here hx rfl (hb hby at_115) rfl h) ?_
              show Go p e below _ T23 (mkF m 117 #[.val (.int p1), .val (.int p2), .val (.int ((p1 &&& (2147483647 : Int32)) % (6 : Int32))), .val (.ref b3), .val (.int (3 : Int32)), .val (.int (2 : Int32)), .unset] [(.int (2 : Int32)), (.int (3 : Int32))])
              refine Go.st (fun _ h => XS.iand X23.here hx rfl (hb hby at_117) rfl h) ?_
              show Go p e below _ T23 (mkF m 118 #[.val (.int p1), .val (.int p2), .val (.int ((p1 &&& (2147483647 : Int32)) % (6 : Int32))), .val (.ref b3), .val (.int (3 : Int32)), .val (.int (2 : Int32)), .unset] [(.int ((3 : Int32) &&& (2 : Int32)))])
              refine Go.st (fun _ h => XS.ifNo X23.here hx rfl (hb hby at_118) rfl (by decide) h) ?_
              show Go p e below _ T23 (mkF m 121 #[.val (.int p1), .val (.int p2), .val (.int ((p1 &&& (2147483647 : Int32)) % (6 : Int32))), .val (.ref b3), .val (.int (3 : Int32)), .val (.int (2 : Int32)), .unset] [])
              refine Go.st (fun _ h => XT.iconstV X23.here hx rfl (1 : Int32) (hb hby at_121) (by decide) h) ?_
              show Go p e below _ T23 (mkF m 122 #[.val (.int p1), .val (.int p2), .val (.int ((p1 &&& (2147483647 : Int32)) % (6 : Int32))), .val (.ref b3), .val (.int (3 : Int32)), .val (.int (2 : Int32)), .unset] [(.int (1 : Int32))])
              refine Go.st (fun _ h => XS.goto X23.here hx rfl (pc0 := 122) (pc' := 126) rfl (hb hby at_122) (by decide) (by decide) h) ?_
              show Go p e below _ T23 (mkF m 126 #[.val (.int p1), .val (.int p2), .val (.int ((p1 &&& (2147483647 : Int32)) % (6 : Int32))), .val (.ref b3), .val (.int (3 : Int32)), .val (.int (2 : Int32)), .unset] [(.int (1 : Int32))])
              refine Go.st (fun _ h => XS.istore X23.here hx rfl (hb hby at_126) rfl (l' := #[.val (.int p1), .val (.int p2), .val (.int ((p1 &&& (2147483647 : Int32)) % (6 : Int32))), .val (.ref b3), .val (.int (3 : Int32)), .val (.int (2 : Int32)), .val (.int (1 : Int32))]) rfl h) ?_
              show Go p e below _ T23 (mkF m 128 #[.val (.int p1), .val (.int p2), .val (.int ((p1 &&& (2147483647 : Int32)) % (6 : Int32))), .val (.ref b3), .val (.int (3 : Int32)), .val (.int (2 : Int32)), .val (.int (1 : Int32))] [])
              refine Go.st (fun _ h => XS.aloadN X23.here hx rfl (hb hby at_128) rfl rfl h) ?_
              show Go p e below _ T23 (mkF m 129 #[.val (.int p1), .val (.int p2), .val (.int ((p1 &&& (2147483647 : Int32)) % (6 : Int32))), .val (.ref b3), .val (.int (3 : Int32)), .val (.int (2 : Int32)), .val (.int (1 : Int32))] [(.ref b3)])
              refine Go.st (fun _ h => XS.iloadN X23.here hx rfl (hb hby at_129) rfl h) ?_
              show Go p e below _ T23 (mkF m 130 #[.val (.int p1), .val (.int p2), .val (.int ((p1 &&& (2147483647 : Int32)) % (6 : Int32))), .val (.ref b3), .val (.int (3 : Int32)), .val (.int (2 : Int32)), .val (.int (1 : Int32))] [(.int p2), (.ref b3)])
              obtain ⟨T27, X27, e27, st27⟩ := own_still rfl rfl (Does.virtual (y := (⟨"com/example/intended_use/intendeduse/condition/Operator", "holds", "(I)Z"⟩ : MethodName)) (g := (mkF m 130 #[.val (.int p1), .val (.int p2), .val (.int ((p1 &&& (2147483647 : Int32)) % (6 : Int32))), .val (.ref b3), .val (.int (3 : Int32)), .val (.int (2 : Int32)), .val (.int (1 : Int32))] [(.int p2), (.ref b3)])) (a := b3) (rmHolds3 l Z a0 hw b3 p2 h0 E_LESS_OR_EQUAL F_LESS_OR_EQUAL) X23 hx hZ hown e23 E_LESS_OR_EQUAL (hw _ (List.mem_of_getElem? (i := 4) rfl)) (hw _ (List.mem_of_getElem? (i := 5) rfl)) (hw _ (List.mem_of_getElem? (i := 7) rfl)) (hw _ (List.mem_of_getElem? (i := 6) rfl)) (hw _ (List.mem_of_getElem? (i := 2) rfl)) (hw _ (List.mem_of_getElem? (i := 8) rfl)) (by decide) rfl (by rw [hml]; rfl) (argsL := [(.int p2)]) (rest := []) (lenOf pd_28I29Z rfl) rfl (hb hby at_130) (W := 0) (by show 2 * 0 + _ ≤ _; exact Nat.le_of_eq rfl) (by decide) (by decide) (by decide) (by decide))
              refine Go.st st27 ?_
              show Go p e below _ T27 (mkF m 133 #[.val (.int p1), .val (.int p2), .val (.int ((p1 &&& (2147483647 : Int32)) % (6 : Int32))), .val (.ref b3), .val (.int (3 : Int32)), .val (.int (2 : Int32)), .val (.int (1 : Int32))] [(.int (own_h3 p2))])
              refine Go.st (fun _ h => XS.iload X27.here hx rfl (hb hby at_133) rfl h) ?_
              show Go p e below _ T27 (mkF m 135 #[.val (.int p1), .val (.int p2), .val (.int ((p1 &&& (2147483647 : Int32)) % (6 : Int32))), .val (.ref b3), .val (.int (3 : Int32)), .val (.int (2 : Int32)), .val (.int (1 : Int32))] [(.int (1 : Int32)), (.int (own_h3 p2))])
              refine Go.st (fun _ h => XS.icmpNo X27.here hx rfl (hb hby at_135) rfl ((teq (own_h3z hc24 hc26 : (own_h3 p2) = (1 : Int32))).2) h) ?_
              show Go p e below _ T27 (mkF m 138 #[.val (.int p1), .val (.int p2), .val (.int ((p1 &&& (2147483647 : Int32)) % (6 : Int32))), .val (.ref b3), .val (.int (3 : Int32)), .val (.int (2 : Int32)), .val (.int (1 : Int32))] [])
              refine Go.st (fun _ h => XT.iconstV X27.here hx rfl (1 : Int32) (hb hby at_138) (by decide) h) ?_
              show Go p e below _ T27 (mkF m 139 #[.val (.int p1), .val (.int p2), .val (.int ((p1 &&& (2147483647 : Int32)) % (6 : Int32))), .val (.ref b3), .val (.int (3 : Int32)), .val (.int (2 : Int32)), .val (.int (1 : Int32))] [(.int (1 : Int32))])
              refine Go.st (fun _ h => XS.goto X27.here hx rfl (pc0 := 139) (pc' := 143) rfl (hb hby at_139) (by decide) (by decide) h) ?_
              show Go p e below _ T27 (mkF m 143 #[.val (.int p1), .val (.int p2), .val (.int ((p1 &&& (2147483647 : Int32)) % (6 : Int32))), .val (.ref b3), .val (.int (3 : Int32)), .val (.int (2 : Int32)), .val (.int (1 : Int32))] [(.int (1 : Int32))])
              refine Go.retZ X27 hx hlk hret rfl (hb hby at_143) (by decide) (by decide) ?_
              exact ⟨rfl, Fr.nil _⟩
            · refine Go.st (fun _ h => XS.ifYes X23.here hx rfl (pc0 := 101) (pc' := 110) rfl (hb hby at_101) rfl ((if0 _ _).trans (feq hc26).2) (by decide) (by decide) h) ?_
              show Go p e below _ T23 (mkF m 110 #[.val (.int p1), .val (.int p2), .val (.int ((p1 &&& (2147483647 : Int32)) % (6 : Int32))), .val (.ref b3), .val (.int (3 : Int32)), .unset, .unset] [])
              refine Go.st (fun _ h => XT.iconstV X23.here hx rfl (4 : Int32) (hb hby at_110) (by decide) h) ?_
              show Go p e below _ T23 (mkF m 111 #[.val (.int p1), .val (.int p2), .val (.int ((p1 &&& (2147483647 : Int32)) % (6 : Int32))), .val (.ref b3), .val (.int (3 : Int32)), .unset, .unset] [(.int (4 : Int32))])
              refine Go.st (fun _ h => XS.istore X23.here hx rfl (hb hby at_111) rfl (l' := #[.val (.int p1), .val (.int p2), .val (.int ((p1 &&& (2147483647 : Int32)) % (6 : Int32))), .val (.ref b3), .val (.int (3 : Int32)), .val (.int (4 : Int32)), .unset]) rfl h) ?_
              show Go p e below _ T23 (mkF m 113 #[.val (.int p1), .val (.int p2), .val (.int ((p1 &&& (2147483647 : Int32)) % (6 : Int32))), .val (.ref b3), .val (.int (3 : Int32)), .val (.int (4 : Int32)), .unset] [])
              refine Go.st (fun _ h => XS.iload X23.here hx rfl (hb hby at_113) rfl h) ?_
              show Go p e below _ T23 (mkF m 115 #[.val (.int p1), .val (.int p2), .val (.int ((p1 &&& (2147483647 : Int32)) % (6 : Int32))), .val (.ref b3), .val (.int (3 : Int32)), .val (.int (4 : Int32)), .unset] [(.int (3 : Int32))])
              refine Go.st (fun _ h => XS.iload X23.here hx rfl (hb hby at_115) rfl h) ?_
              show Go p e below _ T23 (mkF m 117 #[.val (.int p1), .val (.int p2), .val (.int ((p1 &&& (2147483647 : Int32)) % (6 : Int32))), .val (.ref b3), .val (.int (3 : Int32)), .val (.int (4 : Int32)), .unset] [(.int (4 : Int32)), (.int (3 : Int32))])
              refine Go.st (fun _ h => XS.iand X23.here hx rfl (hb hby at_117) rfl h) ?_
              show Go p e below _ T23 (mkF m 118 #[.val (.int p1), .val (.int p2), .val (.int ((p1 &&& (2147483647 : Int32)) % (6 : Int32))), .val (.ref b3), .val (.int (3 : Int32)), .val (.int (4 : Int32)), .unset] [(.int ((3 : Int32) &&& (4 : Int32)))])
              refine Go.st (fun _ h => XS.ifYes X23.here hx rfl (pc0 := 118) (pc' := 125) rfl (hb hby at_118) rfl (by decide) (by decide) (by decide) h) ?_
              show Go p e below _ T23 (mkF m 125 #[.val (.int p1), .val (.int p2), .val (.int ((p1 &&& (2147483647 : Int32)) % (6 : Int32))), .val (.ref b3), .val (.int (3 : Int32)), .val (.int (4 : Int32)), .unset] [])
              refine Go.st (fun _ h => XT.iconstV X23.here hx rfl (0 : Int32) (hb hby at_125) (by decide) h) ?_
              show Go p e below _ T23 (mkF m 126 #[.val (.int p1), .val (.int p2), .val (.int ((p1 &&& (2147483647 : Int32)) % (6 : Int32))), .val (.ref b3), .val (.int (3 : Int32)), .val (.int (4 : Int32)), .unset] [(.int (0 : Int32))])
              refine Go.st (fun _ h => XS.istore X23.here hx rfl (hb hby at_126) rfl (l' := #[.val (.int p1), .val (.int p2), .val (.int ((p1 &&& (2147483647 : Int32)) % (6 : Int32))), .val (.ref b3), .val (.int (3 : Int32)), .val (.int (4 : Int32)), .val (.int (0 : Int32))]) rfl h) ?_
              show Go p e below _ T23 (mkF m 128 #[.val (.int p1), .val (.int p2), .val (.int ((p1 &&& (2147483647 : Int32)) % (6 : Int32))), .val (.ref b3), .val (.int (3 : Int32)), .val (.int (4 : Int32)), .val (.int (0 : Int32))] [])
              refine Go.st (fun _ h => XS.aloadN X23.here hx rfl (hb hby at_128) rfl rfl h) ?_
              show Go p e below _ T23 (mkF m 129 #[.val (.int p1), .val (.int p2), .val (.int ((p1 &&& (2147483647 : Int32)) % (6 : Int32))), .val (.ref b3), .val (.int (3 : Int32)), .val (.int (4 : Int32)), .val (.int (0 : Int32))] [(.ref b3)])
              refine Go.st (fun _ h => XS.iloadN X23.here hx rfl (hb hby at_129) rfl h) ?_
              show Go p e below _ T23 (mkF m 130 #[.val (.int p1), .val (.int p2), .val (.int ((p1 &&& (2147483647 : Int32)) % (6 : Int32))), .val (.ref b3), .val (.int (3 : Int32)), .val (.int (4 : Int32)), .val (.int (0 : Int32))] [(.int p2), (.ref b3)])
              obtain ⟨T28, X28, e28, st28⟩ := own_still rfl rfl (Does.virtual (y := (⟨"com/example/intended_use/intendeduse/condition/Operator", "holds", "(I)Z"⟩ : MethodName)) (g := (mkF m 130 #[.val (.int p1), .val (.int p2), .val (.int ((p1 &&& (2147483647 : Int32)) % (6 : Int32))), .val (.ref b3), .val (.int (3 : Int32)), .val (.int (4 : Int32)), .val (.int (0 : Int32))] [(.int p2), (.ref b3)])) (a := b3) (rmHolds3 l Z a0 hw b3 p2 h0 E_LESS_OR_EQUAL F_LESS_OR_EQUAL) X23 hx hZ hown e23 E_LESS_OR_EQUAL (hw _ (List.mem_of_getElem? (i := 4) rfl)) (hw _ (List.mem_of_getElem? (i := 5) rfl)) (hw _ (List.mem_of_getElem? (i := 7) rfl)) (hw _ (List.mem_of_getElem? (i := 6) rfl)) (hw _ (List.mem_of_getElem? (i := 2) rfl)) (hw _ (List.mem_of_getElem? (i := 8) rfl)) (by decide) rfl (by rw [hml]; rfl) (argsL := [(.int p2)]) (rest := []) (lenOf pd_28I29Z rfl) rfl (hb hby at_130) (W := 0) (by show 2 * 0 + _ ≤ _; exact Nat.le_of_eq rfl) (by decide) (by decide) (by decide) (by decide))
              refine Go.st st28 ?_
              show Go p e below _ T28 (mkF m 133 #[.val (.int p1), .val (.int p2), .val (.int ((p1 &&& (2147483647 : Int32)) % (6 : Int32))), .val (.ref b3), .val (.int (3 : Int32)), .val (.int (4 : Int32)), .val (.int (0 : Int32))] [(.int (own_h3 p2))])
              refine Go.st (fun _ h => XS.iload X28.here hx rfl (hb hby at_133) rfl h) ?_
              show Go p e below _ T28 (mkF m 135 #[.val (.int p1), .val (.int p2), .val (.int ((p1 &&& (2147483647 : Int32)) % (6 : Int32))), .val (.ref b3), .val (.int (3 : Int32)), .val (.int (4 : Int32)), .val (.int (0 : Int32))] [(.int (0 : Int32)), (.int (own_h3 p2))])
              refine Go.st (fun _ h => XS.icmpNo X28.here hx rfl (hb hby at_135) rfl ((teq (own_h3p hc24 hc26 : (own_h3 p2) = (0 : Int32))).2) h) ?_
              show Go p e below _ T28 (mkF m 138 #[.val (.int p1), .val (.int p2), .val (.int ((p1 &&& (2147483647 : Int32)) % (6 : Int32))), .val (.ref b3), .val (.int (3 : Int32)), .val (.int (4 : Int32)), .val (.int (0 : Int32))] [])
              refine Go.st (fun _ h => XT.iconstV X28.here hx rfl (1 : Int32) (hb hby at_138) (by decide) h) ?_
              show Go p e below _ T28 (mkF m 139 #[.val (.int p1), .val (.int p2), .val (.int ((p1 &&& (2147483647 : Int32)) % (6 : Int32))), .val (.ref b3), .val (.int (3 : Int32)), .val (.int (4 : Int32)), .val (.int (0 : Int32))] [(.int (1 : Int32))])
              refine Go.st (fun _ h => XS.goto X28.here hx rfl (pc0 := 139) (pc' := 143) rfl (hb hby at_139) (by decide) (by decide) h) ?_
              show Go p e below _ T28 (mkF m 143 #[.val (.int p1), .val (.int p2), .val (.int ((p1 &&& (2147483647 : Int32)) % (6 : Int32))), .val (.ref b3), .val (.int (3 : Int32)), .val (.int (4 : Int32)), .val (.int (0 : Int32))] [(.int (1 : Int32))])
              refine Go.retZ X28 hx hlk hret rfl (hb hby at_143) (by decide) (by decide) ?_
              exact ⟨rfl, Fr.nil _⟩
        · refine Go.st (fun _ h => XS.icmpYes X0.here hx rfl (pc0 := 54) (pc' := 67) rfl (hb hby at_54) rfl ((feq hc22).2) (by decide) (by decide) h) ?_
          show Go p e below _ s₁ (mkF m 67 #[.val (.int p1), .val (.int p2), .val (.int ((p1 &&& (2147483647 : Int32)) % (6 : Int32))), .unset, .unset, .unset, .unset] [])
          refine Go.st (fun _ h => XS.iloadN X0.here hx rfl (hb hby at_67) rfl h) ?_
          show Go p e below _ s₁ (mkF m 68 #[.val (.int p1), .val (.int p2), .val (.int ((p1 &&& (2147483647 : Int32)) % (6 : Int32))), .unset, .unset, .unset, .unset] [(.int ((p1 &&& (2147483647 : Int32)) % (6 : Int32)))])
          refine Go.st (fun _ h => XT.iconstV X0.here hx rfl (4 : Int32) (hb hby at_68) (by decide) h) ?_
          show Go p e below _ s₁ (mkF m 69 #[.val (.int p1), .val (.int p2), .val (.int ((p1 &&& (2147483647 : Int32)) % (6 : Int32))), .unset, .unset, .unset, .unset] [(.int (4 : Int32)), (.int ((p1 &&& (2147483647 : Int32)) % (6 : Int32)))])
          by_cases hc29 : ((p1 &&& (2147483647 : Int32)) % (6 : Int32)) = (4 : Int32)
          · refine Go.st (fun _ h => XS.icmpNo X0.here hx rfl (hb hby at_69) rfl ((teq hc29).2) h) ?_
            show Go p e below _ s₁ (mkF m 72 #[.val (.int p1), .val (.int p2), .val (.int ((p1 &&& (2147483647 : Int32)) % (6 : Int32))), .unset, .unset, .unset, .unset] [])
            obtain ⟨T30, X30, e30, st30⟩ := getS2 X0 hx hZ hown (host := "") (Or.inl (hw _ (List.mem_of_getElem? (i := 20) rfl))) Via.refl e0 S_GREATER (g := (mkF m 72 #[.val (.int p1), .val (.int p2), .val (.int ((p1 &&& (2147483647 : Int32)) % (6 : Int32))), .unset, .unset, .unset, .unset] [])) rfl (hb hby at_72)
            refine Go.st st30 ?_
            show Go p e below _ T30 (mkF m 75 #[.val (.int p1), .val (.int p2), .val (.int ((p1 &&& (2147483647 : Int32)) % (6 : Int32))), .unset, .unset, .unset, .unset] [(.ref b4)])
            refine Go.st (fun _ h => XS.astoreN X30.here hx rfl (hb hby at_75) rfl rfl (l' := #[.val (.int p1), .val (.int p2), .val (.int ((p1 &&& (2147483647 : Int32)) % (6 : Int32))), .val (.ref b4), .unset, .unset, .unset]) rfl h) ?_
            show Go p e below _ T30 (mkF m 76 #[.val (.int p1), .val (.int p2), .val (.int ((p1 &&& (2147483647 : Int32)) % (6 : Int32))), .val (.ref b4), .unset, .unset, .unset] [])
            refine Go.st (fun _ h => XT.iconstV X30.here hx rfl (4 : Int32) (hb hby at_76) (by decide) h) ?_
            show Go p e below _ T30 (mkF m 77 #[.val (.int p1), .val (.int p2), .val (.int ((p1 &&& (2147483647 : Int32)) % (6 : Int32))), .val (.ref b4), .unset, .unset, .unset] [(.int (4 : Int32))])
            refine Go.st (fun _ h => XS.istore X30.here hx rfl (hb hby at_77) rfl (l' := #[.val (.int p1), .val (.int p2), .val (.int ((p1 &&& (2147483647 : Int32)) % (6 : Int32))), .val (.ref b4), .val (.int (4 : Int32)), .unset, .unset]) rfl h) ?_
            show Go p e below _ T30 (mkF m 79 #[.val (.int p1), .val (.int p2), .val (.int ((p1 &&& (2147483647 : Int32)) % (6 : Int32))), .val (.ref b4), .val (.int (4 : Int32)), .unset, .unset] [])
            refine Go.st (fun _ h => XS.goto X30.here hx rfl (pc0 := 79) (pc' := 90) rfl (hb hby at_79) (by decide) (by decide) h) ?_
            show Go p e below _ T30 (mkF m 90 #[.val (.int p1), .val (.int p2), .val (.int ((p1 &&& (2147483647 : Int32)) % (6 : Int32))), .val (.ref b4), .val (.int (4 : Int32)), .unset, .unset] [])
            refine Go.st (fun _ h => XS.iloadN X30.here hx rfl (hb hby at_90) rfl h) ?_
            show Go p e below _ T30 (mkF m 91 #[.val (.int p1), .val (.int p2), .val (.int ((p1 &&& (2147483647 : Int32)) % (6 : Int32))), .val (.ref b4), .val (.int (4 : Int32)), .unset, .unset] [(.int p2)])
            by_cases hc31 : p2 < (0 : Int32)
            · refine Go.st (fun _ h => XS.ifNo X30.here hx rfl (hb hby at_91) rfl ((if0 _ _).trans (tlt hc31).2.1) h) ?_
              show Go p e below _ T30 (mkF m 94 #[.val (.int p1), .val (.int p2), .val (.int ((p1 &&& (2147483647 : Int32)) % (6 : Int32))), .val (.ref b4), .val (.int (4 : Int32)), .unset, .unset] [])
              refine Go.st (fun _ h => XT.iconstV X30.here hx rfl (1 : Int32) (hb hby at_94) (by decide) h) ?_
              show Go p e below _ T30 (mkF m 95 #[.val (.int p1), .val (.int p2), .val (.int ((p1 &&& (2147483647 : Int32)) % (6 : Int32))), .val (.ref b4), .val (.int (4 : Int32)), .unset, .unset] [(.int (1 : Int32))])
              refine Go.st (fun _ h => XS.istore X30.here hx rfl (hb hby at_95) rfl (l' := #[.val (.int p1), .val (.int p2), .val (.int ((p1 &&& (2147483647 : Int32)) % (6 : Int32))), .val (.ref b4), .val (.int (4 : Int32)), .val (.int (1 : Int32)), .unset]) rfl h) ?_
              show Go p e below _ T30 (mkF m 97 #[.val (.int p1), .val (.int p2), .val (.int ((p1 &&& (2147483647 : Int32)) % (6 : Int32))), .val (.ref b4), .val (.int (4 : Int32)), .val (.int (1 : Int32)), .unset] [])
              refine Go.st (fun _ h => XS.goto X30.here hx rfl (pc0 := 97) (pc' := 113) rfl (hb hby at_97) (by decide) (by decide) h) ?_
              show Go p e below _ T30 (mkF m 113 #[.val (.int p1), .val (.int p2), .val (.int ((p1 &&& (2147483647 : Int32)) % (6 : Int32))), .val (.ref b4), .val (.int (4 : Int32)), .val (.int (1 : Int32)), .unset] [])
              refine Go.st (fun _ h => XS.iload X30.here hx rfl (hb hby at_113) rfl h) ?_
              show Go p e below _ T30 (mkF m 115 #[.val (.int p1), .val (.int p2), .val (.int ((p1 &&& (2147483647 : Int32)) % (6 : Int32))), .val (.ref b4), .val (.int (4 : Int32)), .val (.int (1 : Int32)), .unset] [(.int (4 : Int32))])
              refine Go.st (fun _ h => XS.iload X30.here hx rfl (hb hby at_115) rfl h) ?_
              show Go p e below _ T30 (mkF m 117 #[.val (.int p1), .val (.int p2), .val (.int ((p1 &&& (2147483647 : Int32)) % (6 : Int32))), .val (.ref b4), .val (.int (4 : Int32)), .val (.int (1 : Int32)), .unset] [(.int (1 : Int32)), (.int (4 : Int32))])
              refine Go.st (fun _ h => XS.iand X30.here hx rfl (hb hby at_117) rfl h) ?_
              show Go p e below _ T30 (mkF m 118 #[.val (.int p1), .val (.int p2), .val (.int ((p1 &&& (2147483647 : Int32)) % (6 : Int32))), .val (.ref b4), .val (.int (4 : Int32)), .val (.int (1 : Int32)), .unset] [(.int ((4 : Int32) &&& (1 : Int32)))])
              refine Go.st (fun _ h => XS.ifYes X30.here hx rfl (pc0 := 118) (pc' := 125) rfl (hb hby at_118) rfl (by decide) (by decide) (by decide) h) ?_
              show Go p e below _ T30 (mkF m 125 #[.val (.int p1), .val (.int p2), .val (.int ((p1 &&& (2147483647 : Int32)) % (6 : Int32))), .val (.ref b4), .val (.int (4 : Int32)), .val (.int (1 : Int32)), .unset] [])
              refine Go.st (fun _ h => XT.iconstV X30.here hx rfl (0 : Int32) (hb hby at_125) (by decide) h) ?_
              show Go p e below _ T30 (mkF m 126 #[.val (.int p1), .val (.int p2), .val (.int ((p1 &&& (2147483647 : Int32)) % (6 : Int32))), .val (.ref b4), .val (.int (4 : Int32)), .val (.int (1 : Int32)), .unset] [(.int (0 : Int32))])
              refine Go.st (fun _ h => XS.istore X30.here hx rfl (hb hby at_126) rfl (l' := #[.val (.int p1), .val (.int p2), .val (.int ((p1 &&& (2147483647 : Int32)) % (6 : Int32))), .val (.ref b4), .val (.int (4 : Int32)), .val (.int (1 : Int32)), .val (.int (0 : Int32))]) rfl h) ?_
              show Go p e below _ T30 (mkF m 128 #[.val (.int p1), .val (.int p2), .val (.int ((p1 &&& (2147483647 : Int32)) % (6 : Int32))), .val (.ref b4), .val (.int (4 : Int32)), .val (.int (1 : Int32)), .val (.int (0 : Int32))] [])
              refine Go.st (fun _ h => XS.aloadN X30.here hx rfl (hb hby at_128) rfl rfl h) ?_
              show Go p e below _ T30 (mkF m 129 #[.val (.int p1), .val (.int p2), .val (.int ((p1 &&& (2147483647 : Int32)) % (6 : Int32))), .val (.ref b4), .val (.int (4 : Int32)), .val (.int (1 : Int32)), .val (.int (0 : Int32))] [(.ref b4)])
              refine Go.st (fun _ h => XS.iloadN X30.here hx rfl (hb hby at_129) rfl h) ?_
              show Go p e below _ T30 (mkF m 130 #[.val (.int p1), .val (.int p2), .val (.int ((p1 &&& (2147483647 : Int32)) % (6 : Int32))), .val (.ref b4), .val (.int (4 : Int32)), .val (.int (1 : Int32)), .val (.int (0 : Int32))] [(.int p2), (.ref b4)])
              obtain ⟨T32, X32, e32, st32⟩ := own_still rfl rfl (Does.virtual (y := (⟨"com/example/intended_use/intendeduse/condition/Operator", "holds", "(I)Z"⟩ : MethodName)) (g := (mkF m 130 #[.val (.int p1), .val (.int p2), .val (.int ((p1 &&& (2147483647 : Int32)) % (6 : Int32))), .val (.ref b4), .val (.int (4 : Int32)), .val (.int (1 : Int32)), .val (.int (0 : Int32))] [(.int p2), (.ref b4)])) (a := b4) (rmHolds4 l Z a0 hw b4 p2 h0 E_GREATER F_GREATER) X30 hx hZ hown e30 E_GREATER (hw _ (List.mem_of_getElem? (i := 4) rfl)) (hw _ (List.mem_of_getElem? (i := 5) rfl)) (hw _ (List.mem_of_getElem? (i := 7) rfl)) (hw _ (List.mem_of_getElem? (i := 6) rfl)) (hw _ (List.mem_of_getElem? (i := 2) rfl)) (hw _ (List.mem_of_getElem? (i := 8) rfl)) (by decide) rfl (by rw [hml]; rfl) (argsL := [(.int p2)]) (rest := []) (lenOf pd_28I29Z rfl) rfl (hb hby at_130) (W := 0) (by show 2 * 0 + _ ≤ _; exact Nat.le_of_eq rfl) (by decide) (by decide) (by decide) (by decide))
              refine Go.st st32 ?_
              show Go p e below _ T32 (mkF m 133 #[.val (.int p1), .val (.int p2), .val (.int ((p1 &&& (2147483647 : Int32)) % (6 : Int32))), .val (.ref b4), .val (.int (4 : Int32)), .val (.int (1 : Int32)), .val (.int (0 : Int32))] [(.int (own_h4 p2))])
              refine Go.st (fun _ h => XS.iload X32.here hx rfl (hb hby at_133) rfl h) ?_
              show Go p e below _ T32 (mkF m 135 #[.val (.int p1), .val (.int p2), .val (.int ((p1 &&& (2147483647 : Int32)) % (6 : Int32))), .val (.ref b4), .val (.int (4 : Int32)), .val (.int (1 : Int32)), .val (.int (0 : Int32))] [(.int (0 : Int32)), (.int (own_h4 p2))])
              refine Go.st (fun _ h => XS.icmpNo X32.here hx rfl (hb hby at_135) rfl ((teq (own_h4n hc31 : (own_h4 p2) = (0 : Int32))).2) h) ?_
              show Go p e below _ T32 (mkF m 138 #[.val (.int p1), .val (.int p2), .val (.int ((p1 &&& (2147483647 : Int32)) % (6 : Int32))), .val (.ref b4), .val (.int (4 : Int32)), .val (.int (1 : Int32)), .val (.int (0 : Int32))] [])
              refine Go.st (fun _ h => XT.iconstV X32.here hx rfl (1 : Int32) (hb hby at_138) (by decide) h) ?_
              show Go p e below _ T32 (mkF m 139 #[.val (.int p1), .val (.int p2), .val (.int ((p1 &&& (2147483647 : Int32)) % (6 : Int32))), .val (.ref b4), .val (.int (4 : Int32)), .val (.int (1 : Int32)), .val (.int (0 : Int32))] [(.int (1 : Int32))])
              refine Go.st (fun _ h => XS.goto X32.here hx rfl (pc0 := 139) (pc' := 143) rfl (hb hby at_139) (by decide) (by decide) h) ?_
              show Go p e below _ T32 (mkF m 143 #[.val (.int p1), .val (.int p2), .val (.int ((p1 &&& (2147483647 : Int32)) % (6 : Int32))), .val (.ref b4), .val (.int (4 : Int32)), .val (.int (1 : Int32)), .val (.int (0 : Int32))] [(.int (1 : Int32))])
              refine Go.retZ X32 hx hlk hret rfl (hb hby at_143) (by decide) (by decide) ?_
              exact ⟨rfl, Fr.nil _⟩
            · refine Go.st (fun _ h => XS.ifYes X30.here hx rfl (pc0 := 91) (pc' := 100) rfl (hb hby at_91) rfl ((if0 _ _).trans (flt hc31).2.1) (by decide) (by decide) h) ?_
              show Go p e below _ T30 (mkF m 100 #[.val (.int p1), .val (.int p2), .val (.int ((p1 &&& (2147483647 : Int32)) % (6 : Int32))), .val (.ref b4), .val (.int (4 : Int32)), .unset, .unset] [])
              refine Go.st (fun _ h => XS.iloadN X30.here hx rfl (hb hby at_100) rfl h) ?_
              show Go p e below _ T30 (mkF m 101 #[.val (.int p1), .val (.int p2), .val (.int ((p1 &&& (2147483647 : Int32)) % (6 : Int32))), .val (.ref b4), .val (.int (4 : Int32)), .unset, .unset] [(.int p2)])
              by_cases hc33 : p2 = (0 : Int32)
              · refine Go.st (fun _ h => XS.ifNo X30.here hx rfl (hb hby at_101) rfl ((if0 _ _).trans (teq hc33).2) h) ?_
                show Go p e below _ T30 (mkF m 104 #[.val (.int p1), .val (.int p2), .val (.int ((p1 &&& (2147483647 : Int32)) % (6 : Int32))), .val (.ref b4), .val (.int (4 : Int32)), .unset, .unset] [])
                refine Go.st (fun _ h => XT.iconstV X30.here hx rfl (2 : Int32) (hb hby at_104) (by decide) h) ?_
                show Go p e below _ T30 (mkF m 105 #[.val (.int p1), .val (.int p2), .val (.int ((p1 &&& (2147483647 : Int32)) % (6 : Int32))), .val (.ref b4), .val (.int (4 : Int32)), .unset, .unset] [(.int (2 : Int32))])
                refine Go.st (fun _ h => XS.istore X30.here hx rfl (hb hby at_105) rfl (l' := #[.val (.int p1), .val (.int p2), .val (.int ((p1 &&& (2147483647 : Int32)) % (6 : Int32))), .val (.ref b4), .val (.int (4 : Int32)), .val (.int (2 : Int32)), .unset]) rfl h) ?_
                show Go p e below _ T30 (mkF m 107 #[.val (.int p1), .val (.int p2), .val (.int ((p1 &&& (2147483647 : Int32)) % (6 : Int32))), .val (.ref b4), .val (.int (4 : Int32)), .val (.int (2 : Int32)), .unset] [])
                refine Go.st (fun _ h => XS.goto X30.here hx rfl (pc0 := 107) (pc' := 113) rfl (hb hby at_107) (by decide) (by decide) h) ?_
                show Go p e below _ T30 (mkF m 113 #[.val (.int p1), .val (.int p2), .val (.int ((p1 &&& (2147483647 : Int32)) % (6 : Int32))), .val (.ref b4), .val (.int (4 : Int32)), .val (.int (2 : Int32)), .unset] [])
                refine Go.st (fun _ h => XS.iload X30.here hx rfl (hb hby at_113) rfl h) ?_
                show Go p e below _ T30 (mkF m 115 #[.val (.int p1), .val (.int p2), .val (.int ((p1 &&& (2147483647 : Int32)) % (6 : Int32))), .val (.ref b4), .val (.int (4 : Int32)), .val (.int (2 : Int32)), .unset] [(.int (4 : Int32))])
                refine Go.st (fun _ h => XS.iload X30.here hx rfl (hb hby at_115) rfl h) ?_
                show Go p e below _ T30 (mkF m 117 #[.val (.int p1), .val (.int p2), .val (.int ((p1 &&& (2147483647 : Int32)) % (6 : Int32))), .val (.ref b4), .val (.int (4 : Int32)), .val (.int (2 : Int32)), .unset] [(.int (2 : Int32)), (.int (4 : Int32))])
                refine Go.st (fun _ h => XS.iand X30.here hx rfl (hb hby at_117) rfl h) ?_
                show Go p e below _ T30 (mkF m 118 #[.val (.int p1), .val (.int p2), .val (.int ((p1 &&& (2147483647 : Int32)) % (6 : Int32))), .val (.ref b4), .val (.int (4 : Int32)), .val (.int (2 : Int32)), .unset] [(.int ((4 : Int32) &&& (2 : Int32)))])
                refine Go.st (fun _ h => XS.ifYes X30.here hx rfl (pc0 := 118) (pc' := 125) rfl (hb hby at_118) rfl (by decide) (by decide) (by decide) h) ?_
                show Go p e below _ T30 (mkF m 125 #[.val (.int p1), .val (.int p2), .val (.int ((p1 &&& (2147483647 : Int32)) % (6 : Int32))), .val (.ref b4), .val (.int (4 : Int32)), .val (.int (2 : Int32)), .unset] [])
                refine Go.st (fun _ h => XT.iconstV X30.here hx rfl (0 : Int32) (hb hby at_125) (by decide) h) ?_
                show Go p e below _ T30 (mkF m 126 #[.val (.int p1), .val (.int p2), .val (.int ((p1 &&& (2147483647 : Int32)) % (6 : Int32))), .val (.ref b4), .val (.int (4 : Int32)), .val (.int (2 : Int32)), .unset] [(.int (0 : Int32))])
                refine Go.st (fun _ h => XS.istore X30.here hx rfl (hb hby at_126) rfl (l' := #[.val (.int p1), .val (.int p2), .val (.int ((p1 &&& (2147483647 : Int32)) % (6 : Int32))), .val (.ref b4), .val (.int (4 : Int32)), .val (.int (2 : Int32)), .val (.int (0 : Int32))]) rfl h) ?_
                show Go p e below _ T30 (mkF m 128 #[.val (.int p1), .val (.int p2), .val (.int ((p1 &&& (2147483647 : Int32)) % (6 : Int32))), .val (.ref b4), .val (.int (4 : Int32)), .val (.int (2 : Int32)), .val (.int (0 : Int32))] [])
                refine Go.st (fun _ h => XS.aloadN X30.here hx rfl (hb hby at_128) rfl rfl h) ?_
                show Go p e below _ T30 (mkF m 129 #[.val (.int p1), .val (.int p2), .val (.int ((p1 &&& (2147483647 : Int32)) % (6 : Int32))), .val (.ref b4), .val (.int (4 : Int32)), .val (.int (2 : Int32)), .val (.int (0 : Int32))] [(.ref b4)])
                refine Go.st (fun _ h => XS.iloadN X30.here hx rfl (hb hby at_129) rfl h) ?_
                show Go p e below _ T30 (mkF m 130 #[.val (.int p1), .val (.int p2), .val (.int ((p1 &&& (2147483647 : Int32)) % (6 : Int32))), .val (.ref b4), .val (.int (4 : Int32)), .val (.int (2 : Int32)), .val (.int (0 : Int32))] [(.int p2), (.ref b4)])
                obtain ⟨T34, X34, e34, st34⟩ := own_still rfl rfl (Does.virtual (y := (⟨"com/example/intended_use/intendeduse/condition/Operator", "holds", "(I)Z"⟩ : MethodName)) (g := (mkF m 130 #[.val (.int p1), .val (.int p2), .val (.int ((p1 &&& (2147483647 : Int32)) % (6 : Int32))), .val (.ref b4), .val (.int (4 : Int32)), .val (.int (2 : Int32)), .val (.int (0 : Int32))] [(.int p2), (.ref b4)])) (a := b4) (rmHolds4 l Z a0 hw b4 p2 h0 E_GREATER F_GREATER) X30 hx hZ hown e30 E_GREATER (hw _ (List.mem_of_getElem? (i := 4) rfl)) (hw _ (List.mem_of_getElem? (i := 5) rfl)) (hw _ (List.mem_of_getElem? (i := 7) rfl)) (hw _ (List.mem_of_getElem? (i := 6) rfl)) (hw _ (List.mem_of_getElem? (i := 2) rfl)) (hw _ (List.mem_of_getElem? (i := 8) rfl)) (by decide) rfl (by rw [hml]; rfl) (argsL := [(.int p2)]) (rest := []) (lenOf pd_28I29Z rfl) rfl (hb hby at_130) (W := 0) (by show 2 * 0 + _ ≤ _; exact Nat.le_of_eq rfl) (by decide) (by decide) (by decide) (by decide))
                refine Go.st st34 ?_
                show Go p e below _ T34 (mkF m 133 #[.val (.int p1), .val (.int p2), .val (.int ((p1 &&& (2147483647 : Int32)) % (6 : Int32))), .val (.ref b4), .val (.int (4 : Int32)), .val (.int (2 : Int32)), .val (.int (0 : Int32))] [(.int (own_h4 p2))])
                refine Go.st (fun _ h => XS.iload X34.here hx rfl (hb hby at_133) rfl h) ?_
                show Go p e below _ T34 (mkF m 135 #[.val (.int p1), .val (.int p2), .val (.int ((p1 &&& (2147483647 : Int32)) % (6 : Int32))), .val (.ref b4), .val (.int (4 : Int32)), .val (.int (2 : Int32)), .val (.int (0 : Int32))] [(.int (0 : Int32)), (.int (own_h4 p2))])
                refine Go.st (fun _ h => XS.icmpNo X34.here hx rfl (hb hby at_135) rfl ((teq (own_h4z hc31 hc33 : (own_h4 p2) = (0 : Int32))).2) h) ?_
                show Go p e below _ T34 (mkF m 138 #[.val (.int p1), .val (.int p2), .val (.int ((p1 &&& (2147483647 : Int32)) % (6 : Int32))), .val (.ref b4), .val (.int (4 : Int32)), .val (.int (2 : Int32)), .val (.int (0 : Int32))] [])
                refine Go.st (fun _ h => XT.iconstV X34.here hx rfl (1 : Int32) (hb hby at_138) (by decide) h) ?_
                show Go p e below _ T34 (mkF m 139 #[.val (.int p1), .val (.int p2), .val (.int ((p1 &&& (2147483647 : Int32)) % (6 : Int32))), .val (.ref b4), .val (.int (4 : Int32)), .val (.int (2 : Int32)), .val (.int (0 : Int32))] [(.int (1 : Int32))])
                refine Go.st (fun _ h => XS.goto X34.here hx rfl (pc0 := 139) (pc' := 143) rfl (hb hby at_139) (by decide) (by decide) h) ?_
                show Go p e below _ T34 (mkF m 143 #[.val (.int p1), .val (.int p2), .val (.int ((p1 &&& (2147483647 : Int32)) % (6 : Int32))), .val (.ref b4), .val (.int (4 : Int32)), .val (.int (2 : Int32)), .val (.int (0 : Int32))] [(.int (1 : Int32))])
                refine Go.retZ X34 hx hlk hret rfl (hb hby at_143) (by decide) (by decide) ?_
                exact ⟨rfl, Fr.nil _⟩
              · refine Go.st (fun _ h => XS.ifYes X30.here hx rfl (pc0 := 101) (pc' := 110) rfl (hb hby at_101) rfl ((if0 _ _).trans (feq hc33).2) (by decide) (by decide) h) ?_
                show Go p e below _ T30 (mkF m 110 #[.val (.int p1), .val (.int p2), .val (.int ((p1 &&& (2147483647 : Int32)) % (6 : Int32))), .val (.ref b4), .val (.int (4 : Int32)), .unset, .unset] [])
                refine Go.st (fun _ h => XT.iconstV X30.here hx rfl (4 : Int32) (hb hby at_110) (by decide) h) ?_
                show Go p e below _ T30 (mkF m 111 #[.val (.int p1), .val (.int p2), .val (.int ((p1 &&& (2147483647 : Int32)) % (6 : Int32))), .val (.ref b4), .val (.int (4 : Int32)), .unset, .unset] [(.int (4 : Int32))])
                refine Go.st (fun _ h => XS.istore X30.here hx rfl (hb hby at_111) rfl (l' := #[.val (.int p1), .val (.int p2), .val (.int ((p1 &&& (2147483647 : Int32)) % (6 : Int32))), .val (.ref b4), .val (.int (4 : Int32)), .val (.int (4 : Int32)), .unset]) rfl h) ?_
                show Go p e below _ T30 (mkF m 113 #[.val (.int p1), .val (.int p2), .val (.int ((p1 &&& (2147483647 : Int32)) % (6 : Int32))), .val (.ref b4), .val (.int (4 : Int32)), .val (.int (4 : Int32)), .unset] [])
                refine Go.st (fun _ h => XS.iload X30.here hx rfl (hb hby at_113) rfl h) ?_
                show Go p e below _ T30 (mkF m 115 #[.val (.int p1), .val (.int p2), .val (.int ((p1 &&& (2147483647 : Int32)) % (6 : Int32))), .val (.ref b4), .val (.int (4 : Int32)), .val (.int (4 : Int32)), .unset] [(.int (4 : Int32))])
                refine Go.st (fun _ h => XS.iload X30.here hx rfl (hb hby at_115) rfl h) ?_
                show Go p e below _ T30 (mkF m 117 #[.val (.int p1), .val (.int p2), .val (.int ((p1 &&& (2147483647 : Int32)) % (6 : Int32))), .val (.ref b4), .val (.int (4 : Int32)), .val (.int (4 : Int32)), .unset] [(.int (4 : Int32)), (.int (4 : Int32))])
                refine Go.st (fun _ h => XS.iand X30.here hx rfl (hb hby at_117) rfl h) ?_
                show Go p e below _ T30 (mkF m 118 #[.val (.int p1), .val (.int p2), .val (.int ((p1 &&& (2147483647 : Int32)) % (6 : Int32))), .val (.ref b4), .val (.int (4 : Int32)), .val (.int (4 : Int32)), .unset] [(.int ((4 : Int32) &&& (4 : Int32)))])
                refine Go.st (fun _ h => XS.ifNo X30.here hx rfl (hb hby at_118) rfl (by decide) h) ?_
                show Go p e below _ T30 (mkF m 121 #[.val (.int p1), .val (.int p2), .val (.int ((p1 &&& (2147483647 : Int32)) % (6 : Int32))), .val (.ref b4), .val (.int (4 : Int32)), .val (.int (4 : Int32)), .unset] [])
                refine Go.st (fun _ h => XT.iconstV X30.here hx rfl (1 : Int32) (hb hby at_121) (by decide) h) ?_
                show Go p e below _ T30 (mkF m 122 #[.val (.int p1), .val (.int p2), .val (.int ((p1 &&& (2147483647 : Int32)) % (6 : Int32))), .val (.ref b4), .val (.int (4 : Int32)), .val (.int (4 : Int32)), .unset] [(.int (1 : Int32))])
                refine Go.st (fun _ h => XS.goto X30.here hx rfl (pc0 := 122) (pc' := 126) rfl (hb hby at_122) (by decide) (by decide) h) ?_
                show Go p e below _ T30 (mkF m 126 #[.val (.int p1), .val (.int p2), .val (.int ((p1 &&& (2147483647 : Int32)) % (6 : Int32))), .val (.ref b4), .val (.int (4 : Int32)), .val (.int (4 : Int32)), .unset] [(.int (1 : Int32))])
                refine Go.st (fun _ h => XS.istore X30.here hx rfl (hb hby at_126) rfl (l' := #[.val (.int p1), .val (.int p2), .val (.int ((p1 &&& (2147483647 : Int32)) % (6 : Int32))), .val (.ref b4), .val (.int (4 : Int32)), .val (.int (4 : Int32)), .val (.int (1 : Int32))]) rfl h) ?_
                show Go p e below _ T30 (mkF m 128 #[.val (.int p1), .val (.int p2), .val (.int ((p1 &&& (2147483647 : Int32)) % (6 : Int32))), .val (.ref b4), .val (.int (4 : Int32)), .val (.int (4 : Int32)), .val (.int (1 : Int32))] [])
                refine Go.st (fun _ h => XS.aloadN X30.here hx rfl (hb hby at_128) rfl rfl h) ?_
                show Go p e below _ T30 (mkF m 129 #[.val (.int p1), .val (.int p2), .val (.int ((p1 &&& (2147483647 : Int32)) % (6 : Int32))), .val (.ref b4), .val (.int (4 : Int32)), .val (.int (4 : Int32)), .val (.int (1 : Int32))] [(.ref b4)])
                refine Go.st (fun _ h => XS.iloadN X30.here hx rfl (hb hby at_129) rfl h) ?_
                show Go p e below _ T30 (mkF m 130 #[.val (.int p1), .val (.int p2), .val (.int ((p1 &&& (2147483647 : Int32)) % (6 : Int32))), .val (.ref b4), .val (.int (4 : Int32)), .val (.int (4 : Int32)), .val (.int (1 : Int32))] [(.int p2), (.ref b4)])
                obtain ⟨T35, X35, e35, st35⟩ := own_still rfl rfl (Does.virtual (y := (⟨"com/example/intended_use/intendeduse/condition/Operator", "holds", "(I)Z"⟩ : MethodName)) (g := (mkF m 130 #[.val (.int p1), .val (.int p2), .val (.int ((p1 &&& (2147483647 : Int32)) % (6 : Int32))), .val (.ref b4), .val (.int (4 : Int32)), .val (.int (4 : Int32)), .val (.int (1 : Int32))] [(.int p2), (.ref b4)])) (a := b4) (rmHolds4 l Z a0 hw b4 p2 h0 E_GREATER F_GREATER) X30 hx hZ hown e30 E_GREATER (hw _ (List.mem_of_getElem? (i := 4) rfl)) (hw _ (List.mem_of_getElem? (i := 5) rfl)) (hw _ (List.mem_of_getElem? (i := 7) rfl)) (hw _ (List.mem_of_getElem? (i := 6) rfl)) (hw _ (List.mem_of_getElem? (i := 2) rfl)) (hw _ (List.mem_of_getElem? (i := 8) rfl)) (by decide) rfl (by rw [hml]; rfl) (argsL := [(.int p2)]) (rest := []) (lenOf pd_28I29Z rfl) rfl (hb hby at_130) (W := 0) (by show 2 * 0 + _ ≤ _; exact Nat.le_of_eq rfl) (by decide) (by decide) (by decide) (by decide))
                refine Go.st st35 ?_
                show Go p e below _ T35 (mkF m 133 #[.val (.int p1), .val (.int p2), .val (.int ((p1 &&& (2147483647 : Int32)) % (6 : Int32))), .val (.ref b4), .val (.int (4 : Int32)), .val (.int (4 : Int32)), .val (.int (1 : Int32))] [(.int (own_h4 p2))])
                refine Go.st (fun _ h => XS.iload X35.here hx rfl (hb hby at_133) rfl h) ?_
                show Go p e below _ T35 (mkF m 135 #[.val (.int p1), .val (.int p2), .val (.int ((p1 &&& (2147483647 : Int32)) % (6 : Int32))), .val (.ref b4), .val (.int (4 : Int32)), .val (.int (4 : Int32)), .val (.int (1 : Int32))] [(.int (1 : Int32)), (.int (own_h4 p2))])
                refine Go.st (fun _ h => XS.icmpNo X35.here hx rfl (hb hby at_135) rfl ((teq (own_h4p hc31 hc33 : (own_h4 p2) = (1 : Int32))).2) h) ?_
                show Go p e below _ T35 (mkF m 138 #[.val (.int p1), .val (.int p2), .val (.int ((p1 &&& (2147483647 : Int32)) % (6 : Int32))), .val (.ref b4), .val (.int (4 : Int32)), .val (.int (4 : Int32)), .val (.int (1 : Int32))] [])
                refine Go.st (fun _ h => XT.iconstV X35.here hx rfl (1 : Int32) (hb hby at_138) (by decide) h) ?_
                show Go p e below _ T35 (mkF m 139 #[.val (.int p1), .val (.int p2), .val (.int ((p1 &&& (2147483647 : Int32)) % (6 : Int32))), .val (.ref b4), .val (.int (4 : Int32)), .val (.int (4 : Int32)), .val (.int (1 : Int32))] [(.int (1 : Int32))])
                refine Go.st (fun _ h => XS.goto X35.here hx rfl (pc0 := 139) (pc' := 143) rfl (hb hby at_139) (by decide) (by decide) h) ?_
                show Go p e below _ T35 (mkF m 143 #[.val (.int p1), .val (.int p2), .val (.int ((p1 &&& (2147483647 : Int32)) % (6 : Int32))), .val (.ref b4), .val (.int (4 : Int32)), .val (.int (4 : Int32)), .val (.int (1 : Int32))] [(.int (1 : Int32))])
                refine Go.retZ X35 hx hlk hret rfl (hb hby at_143) (by decide) (by decide) ?_
                exact ⟨rfl, Fr.nil _⟩
          · refine Go.st (fun _ h => XS.icmpYes X0.here hx rfl (pc0 := 69) (pc' := 82) rfl (hb hby at_69) rfl ((feq hc29).2) (by decide) (by decide) h) ?_
            show Go p e below _ s₁ (mkF m 82 #[.val (.int p1), .val (.int p2), .val (.int ((p1 &&& (2147483647 : Int32)) % (6 : Int32))), .unset, .unset, .unset, .unset] [])
            obtain ⟨T36, X36, e36, st36⟩ := getS2 X0 hx hZ hown (host := "") (Or.inl (hw _ (List.mem_of_getElem? (i := 24) rfl))) Via.refl e0 S_GREATER_OR_EQUAL (g := (mkF m 82 #[.val (.int p1), .val (.int p2), .val (.int ((p1 &&& (2147483647 : Int32)) % (6 : Int32))), .unset, .unset, .unset, .unset] [])) rfl (hb hby at_82)
            refine Go.st st36 ?_
            show Go p e below _ T36 (mkF m 85 #[.val (.int p1), .val (.int p2), .val (.int ((p1 &&& (2147483647 : Int32)) % (6 : Int32))), .unset, .unset, .unset, .unset] [(.ref b5)])
            refine Go.st (fun _ h => XS.astoreN X36.here hx rfl (hb hby at_85) rfl rfl (l' := #[.val (.int p1), .val (.int p2), .val (.int ((p1 &&& (2147483647 : Int32)) % (6 : Int32))), .val (.ref b5), .unset, .unset, .unset]) rfl h) ?_
            show Go p e below _ T36 (mkF m 86 #[.val (.int p1), .val (.int p2), .val (.int ((p1 &&& (2147483647 : Int32)) % (6 : Int32))), .val (.ref b5), .unset, .unset, .unset] [])
            refine Go.st (fun _ h => XT.bipushV X36.here hx rfl (6 : Int32) (hb hby at_86) (by decide) h) ?_
            show Go p e below _ T36 (mkF m 88 #[.val (.int p1), .val (.int p2), .val (.int ((p1 &&& (2147483647 : Int32)) % (6 : Int32))), .val (.ref b5), .unset, .unset, .unset] [(.int (6 : Int32))])
            refine Go.st (fun _ h => XS.istore X36.here hx rfl (hb hby at_88) rfl (l' := #[.val (.int p1), .val (.int p2), .val (.int ((p1 &&& (2147483647 : Int32)) % (6 : Int32))), .val (.ref b5), .val (.int (6 : Int32)), .unset, .unset]) rfl h) ?_
            show Go p e below _ T36 (mkF m 90 #[.val (.int p1), .val (.int p2), .val (.int ((p1 &&& (2147483647 : Int32)) % (6 : Int32))), .val (.ref b5), .val (.int (6 : Int32)), .unset, .unset] [])
            refine Go.st (fun _ h => XS.iloadN X36.here hx rfl (hb hby at_90) rfl h) ?_
            show Go p e below _ T36 (mkF m 91 #[.val (.int p1), .val (.int p2), .val (.int ((p1 &&& (2147483647 : Int32)) % (6 : Int32))), .val (.ref b5), .val (.int (6 : Int32)), .unset, .unset] [(.int p2)])
            by_cases hc37 : p2 < (0 : Int32)
            · refine Go.st (fun _ h => XS.ifNo X36.here hx rfl (hb hby at_91) rfl ((if0 _ _).trans (tlt hc37).2.1) h) ?_
              show Go p e below _ T36 (mkF m 94 #[.val (.int p1), .val (.int p2), .val (.int ((p1 &&& (2147483647 : Int32)) % (6 : Int32))), .val (.ref b5), .val (.int (6 : Int32)), .unset, .unset] [])
              refine Go.st (fun _ h => XT.iconstV X36.here hx rfl (1 : Int32) (hb hby at_94) (by decide) h) ?_
              show Go p e below _ T36 (mkF m 95 #[.val (.int p1), .val (.int p2), .val (.int ((p1 &&& (2147483647 : Int32)) % (6 : Int32))), .val (.ref b5), .val (.int (6 : Int32)), .unset, .unset] [(.int (1 : Int32))])
              refine Go.st (fun _ h => XS.istore X36.here hx rfl (hb hby at_95) rfl (l' := #[.val (.int p1), .val (.int p2), .val (.int ((p1 &&& (2147483647 : Int32)) % (6 : Int32))), .val (.ref b5), .val (.int (6 : Int32)), .val (.int (1 : Int32)), .unset]) rfl h) ?_
              show Go p e below _ T36 (mkF m 97 #[.val (.int p1), .val (.int p2), .val (.int ((p1 &&& (2147483647 : Int32)) % (6 : Int32))), .val (.ref b5), .val (.int (6 : Int32)), .val (.int (1 : Int32)), .unset] [])
              refine Go.st (fun _ h => XS.goto X36.here hx rfl (pc0 := 97) (pc' := 113) rfl (hb hby at_97) (by decide) (by decide) h) ?_
              show Go p e below _ T36 (mkF m 113 #[.val (.int p1), .val (.int p2), .val (.int ((p1 &&& (2147483647 : Int32)) % (6 : Int32))), .val (.ref b5), .val (.int (6 : Int32)), .val (.int (1 : Int32)), .unset] [])
              refine Go.st (fun _ h => XS.iload X36.here hx rfl (hb hby at_113) rfl h) ?_
              show Go p e below _ T36 (mkF m 115 #[.val (.int p1), .val (.int p2), .val (.int ((p1 &&& (2147483647 : Int32)) % (6 : Int32))), .val (.ref b5), .val (.int (6 : Int32)), .val (.int (1 : Int32)), .unset] [(.int (6 : Int32))])
              refine Go.st (fun _ h => XS.iload X36.here hx rfl (hb hby at_115) rfl h) ?_
              show Go p e below _ T36 (mkF m 117 #[.val (.int p1), .val (.int p2), .val (.int ((p1 &&& (2147483647 : Int32)) % (6 : Int32))), .val (.ref b5), .val (.int (6 : Int32)), .val (.int (1 : Int32)), .unset] [(.int (1 : Int32)), (.int (6 : Int32))])
              refine Go.st (fun _ h => XS.iand X36.here hx rfl (hb hby at_117) rfl h) ?_
              show Go p e below _ T36 (mkF m 118 #[.val (.int p1), .val (.int p2), .val (.int ((p1 &&& (2147483647 : Int32)) % (6 : Int32))), .val (.ref b5), .val (.int (6 : Int32)), .val (.int (1 : Int32)), .unset] [(.int ((6 : Int32) &&& (1 : Int32)))])
              refine Go.st (fun _ h => XS.ifYes X36.here hx rfl (pc0 := 118) (pc' := 125) rfl (hb hby at_118) rfl (by decide) (by decide) (by decide) h) ?_
              show Go p e below _ T36 (mkF m 125 #[.val (.int p1), .val (.int p2), .val (.int ((p1 &&& (2147483647 : Int32)) % (6 : Int32))), .val (.ref b5), .val (.int (6 : Int32)), .val (.int (1 : Int32)), .unset] [])
              refine Go.st (fun _ h => XT.iconstV X36.here hx rfl (0 : Int32) (hb hby at_125) (by decide) h) ?_
              show Go p e below _ T36 (mkF m 126 #[.val (.int p1), .val (.int p2), .val (.int ((p1 &&& (2147483647 : Int32)) % (6 : Int32))), .val (.ref b5), .val (.int (6 : Int32)), .val (.int (1 : Int32)), .unset] [(.int (0 : Int32))])
              refine Go.st (fun _ h => XS.istore X36.here hx rfl (hb hby at_126) rfl (l' := #[.val (.int p1), .val (.int p2), .val (.int ((p1 &&& (2147483647 : Int32)) % (6 : Int32))), .val (.ref b5), .val (.int (6 : Int32)), .val (.int (1 : Int32)), .val (.int (0 : Int32))]) rfl h) ?_
              show Go p e below _ T36 (mkF m 128 #[.val (.int p1), .val (.int p2), .val (.int ((p1 &&& (2147483647 : Int32)) % (6 : Int32))), .val (.ref b5), .val (.int (6 : Int32)), .val (.int (1 : Int32)), .val (.int (0 : Int32))] [])
              refine Go.st (fun _ h => XS.aloadN X36.here hx rfl (hb hby at_128) rfl rfl h) ?_
              show Go p e below _ T36 (mkF m 129 #[.val (.int p1), .val (.int p2), .val (.int ((p1 &&& (2147483647 : Int32)) % (6 : Int32))), .val (.ref b5), .val (.int (6 : Int32)), .val (.int (1 : Int32)), .val (.int (0 : Int32))] [(.ref b5)])
              refine Go.st (fun _ h => XS.iloadN X36.here hx rfl (hb hby at_129) rfl h) ?_
              show Go p e below _ T36 (mkF m 130 #[.val (.int p1), .val (.int p2), .val (.int ((p1 &&& (2147483647 : Int32)) % (6 : Int32))), .val (.ref b5), .val (.int (6 : Int32)), .val (.int (1 : Int32)), .val (.int (0 : Int32))] [(.int p2), (.ref b5)])
              obtain ⟨T38, X38, e38, st38⟩ := own_still rfl rfl (Does.virtual (y := (⟨"com/example/intended_use/intendeduse/condition/Operator", "holds", "(I)Z"⟩ : MethodName)) (g := (mkF m 130 #[.val (.int p1), .val (.int p2), .val (.int ((p1 &&& (2147483647 : Int32)) % (6 : Int32))), .val (.ref b5), .val (.int (6 : Int32)), .val (.int (1 : Int32)), .val (.int (0 : Int32))] [(.int p2), (.ref b5)])) (a := b5) (rmHolds5 l Z a0 hw b5 p2 h0 E_GREATER_OR_EQUAL F_GREATER_OR_EQUAL) X36 hx hZ hown e36 E_GREATER_OR_EQUAL (hw _ (List.mem_of_getElem? (i := 4) rfl)) (hw _ (List.mem_of_getElem? (i := 5) rfl)) (hw _ (List.mem_of_getElem? (i := 7) rfl)) (hw _ (List.mem_of_getElem? (i := 6) rfl)) (hw _ (List.mem_of_getElem? (i := 2) rfl)) (hw _ (List.mem_of_getElem? (i := 8) rfl)) (by decide) rfl (by rw [hml]; rfl) (argsL := [(.int p2)]) (rest := []) (lenOf pd_28I29Z rfl) rfl (hb hby at_130) (W := 0) (by show 2 * 0 + _ ≤ _; exact Nat.le_of_eq rfl) (by decide) (by decide) (by decide) (by decide))
              refine Go.st st38 ?_
              show Go p e below _ T38 (mkF m 133 #[.val (.int p1), .val (.int p2), .val (.int ((p1 &&& (2147483647 : Int32)) % (6 : Int32))), .val (.ref b5), .val (.int (6 : Int32)), .val (.int (1 : Int32)), .val (.int (0 : Int32))] [(.int (own_h5 p2))])
              refine Go.st (fun _ h => XS.iload X38.here hx rfl (hb hby at_133) rfl h) ?_
              show Go p e below _ T38 (mkF m 135 #[.val (.int p1), .val (.int p2), .val (.int ((p1 &&& (2147483647 : Int32)) % (6 : Int32))), .val (.ref b5), .val (.int (6 : Int32)), .val (.int (1 : Int32)), .val (.int (0 : Int32))] [(.int (0 : Int32)), (.int (own_h5 p2))])
              refine Go.st (fun _ h => XS.icmpNo X38.here hx rfl (hb hby at_135) rfl ((teq (own_h5n hc37 : (own_h5 p2) = (0 : Int32))).2) h) ?_
              show Go p e below _ T38 (mkF m 138 #[.val (.int p1), .val (.int p2), .val (.int ((p1 &&& (2147483647 : Int32)) % (6 : Int32))), .val (.ref b5), .val (.int (6 : Int32)), .val (.int (1 : Int32)), .val (.int (0 : Int32))] [])
              refine Go.st (fun _ h => XT.iconstV X38.here hx rfl (1 : Int32) (hb hby at_138) (by decide) h) ?_
              show Go p e below _ T38 (mkF m 139 #[.val (.int p1), .val (.int p2), .val (.int ((p1 &&& (2147483647 : Int32)) % (6 : Int32))), .val (.ref b5), .val (.int (6 : Int32)), .val (.int (1 : Int32)), .val (.int (0 : Int32))] [(.int (1 : Int32))])
              refine Go.st (fun _ h => XS.goto X38.here hx rfl (pc0 := 139) (pc' := 143) rfl (hb hby at_139) (by decide) (by decide) h) ?_
              show Go p e below _ T38 (mkF m 143 #[.val (.int p1), .val (.int p2), .val (.int ((p1 &&& (2147483647 : Int32)) % (6 : Int32))), .val (.ref b5), .val (.int (6 : Int32)), .val (.int (1 : Int32)), .val (.int (0 : Int32))] [(.int (1 : Int32))])
              refine Go.retZ X38 hx hlk hret rfl (hb hby at_143) (by decide) (by decide) ?_
              exact ⟨rfl, Fr.nil _⟩
            · refine Go.st (fun _ h => XS.ifYes X36.here hx rfl (pc0 := 91) (pc' := 100) rfl (hb hby at_91) rfl ((if0 _ _).trans (flt hc37).2.1) (by decide) (by decide) h) ?_
              show Go p e below _ T36 (mkF m 100 #[.val (.int p1), .val (.int p2), .val (.int ((p1 &&& (2147483647 : Int32)) % (6 : Int32))), .val (.ref b5), .val (.int (6 : Int32)), .unset, .unset] [])
              refine Go.st (fun _ h => XS.iloadN X36.here hx rfl (hb hby at_100) rfl h) ?_
              show Go p e below _ T36 (mkF m 101 #[.val (.int p1), .val (.int p2), .val (.int ((p1 &&& (2147483647 : Int32)) % (6 : Int32))), .val (.ref b5), .val (.int (6 : Int32)), .unset, .unset] [(.int p2)])
              by_cases hc39 : p2 = (0 : Int32)
              · refine Go.st (fun _ h => XS.ifNo X36.here hx rfl (hb hby at_101) rfl ((if0 _ _).trans (teq hc39).2) h) ?_
                show Go p e below _ T36 (mkF m 104 #[.val (.int p1), .val (.int p2), .val (.int ((p1 &&& (2147483647 : Int32)) % (6 : Int32))), .val (.ref b5), .val (.int (6 : Int32)), .unset, .unset] [])
                refine Go.st (fun _ h => XT.iconstV X36.here hx rfl (2 : Int32) (hb hby at_104) (by decide) h) ?_
                show Go p e below _ T36 (mkF m 105 #[.val (.int p1), .val (.int p2), .val (.int ((p1 &&& (2147483647 : Int32)) % (6 : Int32))), .val (.ref b5), .val (.int (6 : Int32)), .unset, .unset] [(.int (2 : Int32))])
                refine Go.st (fun _ h => XS.istore X36.here hx rfl (hb hby at_105) rfl (l' := #[.val (.int p1), .val (.int p2), .val (.int ((p1 &&& (2147483647 : Int32)) % (6 : Int32))), .val (.ref b5), .val (.int (6 : Int32)), .val (.int (2 : Int32)), .unset]) rfl h) ?_
                show Go p e below _ T36 (mkF m 107 #[.val (.int p1), .val (.int p2), .val (.int ((p1 &&& (2147483647 : Int32)) % (6 : Int32))), .val (.ref b5), .val (.int (6 : Int32)), .val (.int (2 : Int32)), .unset] [])
                refine Go.st (fun _ h => XS.goto X36.here hx rfl (pc0 := 107) (pc' := 113) rfl (hb hby at_107) (by decide) (by decide) h) ?_
                show Go p e below _ T36 (mkF m 113 #[.val (.int p1), .val (.int p2), .val (.int ((p1 &&& (2147483647 : Int32)) % (6 : Int32))), .val (.ref b5), .val (.int (6 : Int32)), .val (.int (2 : Int32)), .unset] [])
                refine Go.st (fun _ h => XS.iload X36.here hx rfl (hb hby at_113) rfl h) ?_
                show Go p e below _ T36 (mkF m 115 #[.val (.int p1), .val (.int p2), .val (.int ((p1 &&& (2147483647 : Int32)) % (6 : Int32))), .val (.ref b5), .val (.int (6 : Int32)), .val (.int (2 : Int32)), .unset] [(.int (6 : Int32))])
                refine Go.st (fun _ h => XS.iload X36.here hx rfl (hb hby at_115) rfl h) ?_
                show Go p e below _ T36 (mkF m 117 #[.val (.int p1), .val (.int p2), .val (.int ((p1 &&& (2147483647 : Int32)) % (6 : Int32))), .val (.ref b5), .val (.int (6 : Int32)), .val (.int (2 : Int32)), .unset] [(.int (2 : Int32)), (.int (6 : Int32))])
                refine Go.st (fun _ h => XS.iand X36.here hx rfl (hb hby at_117) rfl h) ?_
                show Go p e below _ T36 (mkF m 118 #[.val (.int p1), .val (.int p2), .val (.int ((p1 &&& (2147483647 : Int32)) % (6 : Int32))), .val (.ref b5), .val (.int (6 : Int32)), .val (.int (2 : Int32)), .unset] [(.int ((6 : Int32) &&& (2 : Int32)))])
                refine Go.st (fun _ h => XS.ifNo X36.here hx rfl (hb hby at_118) rfl (by decide) h) ?_
                show Go p e below _ T36 (mkF m 121 #[.val (.int p1), .val (.int p2), .val (.int ((p1 &&& (2147483647 : Int32)) % (6 : Int32))), .val (.ref b5), .val (.int (6 : Int32)), .val (.int (2 : Int32)), .unset] [])
                refine Go.st (fun _ h => XT.iconstV X36.here hx rfl (1 : Int32) (hb hby at_121) (by decide) h) ?_
                show Go p e below _ T36 (mkF m 122 #[.val (.int p1), .val (.int p2), .val (.int ((p1 &&& (2147483647 : Int32)) % (6 : Int32))), .val (.ref b5), .val (.int (6 : Int32)), .val (.int (2 : Int32)), .unset] [(.int (1 : Int32))])
                refine Go.st (fun _ h => XS.goto X36.here hx rfl (pc0 := 122) (pc' := 126) rfl (hb hby at_122) (by decide) (by decide) h) ?_
                show Go p e below _ T36 (mkF m 126 #[.val (.int p1), .val (.int p2), .val (.int ((p1 &&& (2147483647 : Int32)) % (6 : Int32))), .val (.ref b5), .val (.int (6 : Int32)), .val (.int (2 : Int32)), .unset] [(.int (1 : Int32))])
                refine Go.st (fun _ h => XS.istore X36.here hx rfl (hb hby at_126) rfl (l' := #[.val (.int p1), .val (.int p2), .val (.int ((p1 &&& (2147483647 : Int32)) % (6 : Int32))), .val (.ref b5), .val (.int (6 : Int32)), .val (.int (2 : Int32)), .val (.int (1 : Int32))]) rfl h) ?_
                show Go p e below _ T36 (mkF m 128 #[.val (.int p1), .val (.int p2), .val (.int ((p1 &&& (2147483647 : Int32)) % (6 : Int32))), .val (.ref b5), .val (.int (6 : Int32)), .val (.int (2 : Int32)), .val (.int (1 : Int32))] [])
                refine Go.st (fun _ h => XS.aloadN X36.here hx rfl (hb hby at_128) rfl rfl h) ?_
                show Go p e below _ T36 (mkF m 129 #[.val (.int p1), .val (.int p2), .val (.int ((p1 &&& (2147483647 : Int32)) % (6 : Int32))), .val (.ref b5), .val (.int (6 : Int32)), .val (.int (2 : Int32)), .val (.int (1 : Int32))] [(.ref b5)])
                refine Go.st (fun _ h => XS.iloadN X36.here hx rfl (hb hby at_129) rfl h) ?_
                show Go p e below _ T36 (mkF m 130 #[.val (.int p1), .val (.int p2), .val (.int ((p1 &&& (2147483647 : Int32)) % (6 : Int32))), .val (.ref b5), .val (.int (6 : Int32)), .val (.int (2 : Int32)), .val (.int (1 : Int32))] [(.int p2), (.ref b5)])
                obtain ⟨T40, X40, e40, st40⟩ := own_still rfl rfl (Does.virtual (y := (⟨"com/example/intended_use/intendeduse/condition/Operator", "holds", "(I)Z"⟩ : MethodName)) (g := (mkF m 130 #[.val (.int p1), .val (.int p2), .val (.int ((p1 &&& (2147483647 : Int32)) % (6 : Int32))), .val (.ref b5), .val (.int (6 : Int32)), .val (.int (2 : Int32)), .val (.int (1 : Int32))] [(.int p2), (.ref b5)])) (a := b5) (rmHolds5 l Z a0 hw b5 p2 h0 E_GREATER_OR_EQUAL F_GREATER_OR_EQUAL) X36 hx hZ hown e36 E_GREATER_OR_EQUAL (hw _ (List.mem_of_getElem? (i := 4) rfl)) (hw _ (List.mem_of_getElem? (i := 5) rfl)) (hw _ (List.mem_of_getElem? (i := 7) rfl)) (hw _ (List.mem_of_getElem? (i := 6) rfl)) (hw _ (List.mem_of_getElem? (i := 2) rfl)) (hw _ (List.mem_of_getElem? (i := 8) rfl)) (by decide) rfl (by rw [hml]; rfl) (argsL := [(.int p2)]) (rest := []) (lenOf pd_28I29Z rfl) rfl (hb hby at_130) (W := 0) (by show 2 * 0 + _ ≤ _; exact Nat.le_of_eq rfl) (by decide) (by decide) (by decide) (by decide))
                refine Go.st st40 ?_
                show Go p e below _ T40 (mkF m 133 #[.val (.int p1), .val (.int p2), .val (.int ((p1 &&& (2147483647 : Int32)) % (6 : Int32))), .val (.ref b5), .val (.int (6 : Int32)), .val (.int (2 : Int32)), .val (.int (1 : Int32))] [(.int (own_h5 p2))])
                refine Go.st (fun _ h => XS.iload X40.here hx rfl (hb hby at_133) rfl h) ?_
                show Go p e below _ T40 (mkF m 135 #[.val (.int p1), .val (.int p2), .val (.int ((p1 &&& (2147483647 : Int32)) % (6 : Int32))), .val (.ref b5), .val (.int (6 : Int32)), .val (.int (2 : Int32)), .val (.int (1 : Int32))] [(.int (1 : Int32)), (.int (own_h5 p2))])
                refine Go.st (fun _ h => XS.icmpNo X40.here hx rfl (hb hby at_135) rfl ((teq (own_h5z hc37 hc39 : (own_h5 p2) = (1 : Int32))).2) h) ?_
                show Go p e below _ T40 (mkF m 138 #[.val (.int p1), .val (.int p2), .val (.int ((p1 &&& (2147483647 : Int32)) % (6 : Int32))), .val (.ref b5), .val (.int (6 : Int32)), .val (.int (2 : Int32)), .val (.int (1 : Int32))] [])
                refine Go.st (fun _ h => XT.iconstV X40.here hx rfl (1 : Int32) (hb hby at_138) (by decide) h) ?_
                show Go p e below _ T40 (mkF m 139 #[.val (.int p1), .val (.int p2), .val (.int ((p1 &&& (2147483647 : Int32)) % (6 : Int32))), .val (.ref b5), .val (.int (6 : Int32)), .val (.int (2 : Int32)), .val (.int (1 : Int32))] [(.int (1 : Int32))])
                refine Go.st (fun _ h => XS.goto X40.here hx rfl (pc0 := 139) (pc' := 143) rfl (hb hby at_139) (by decide) (by decide) h) ?_
                show Go p e below _ T40 (mkF m 143 #[.val (.int p1), .val (.int p2), .val (.int ((p1 &&& (2147483647 : Int32)) % (6 : Int32))), .val (.ref b5), .val (.int (6 : Int32)), .val (.int (2 : Int32)), .val (.int (1 : Int32))] [(.int (1 : Int32))])
                refine Go.retZ X40 hx hlk hret rfl (hb hby at_143) (by decide) (by decide) ?_
                exact ⟨rfl, Fr.nil _⟩
              · refine Go.st (fun _ h => XS.ifYes X36.here hx rfl (pc0 := 101) (pc' := 110) rfl (hb hby at_101) rfl ((if0 _ _).trans (feq hc39).2) (by decide) (by decide) h) ?_
                show Go p e below _ T36 (mkF m 110 #[.val (.int p1), .val (.int p2), .val (.int ((p1 &&& (2147483647 : Int32)) % (6 : Int32))), .val (.ref b5), .val (.int (6 : Int32)), .unset, .unset] [])
                refine Go.st (fun _ h => XT.iconstV X36.here hx rfl (4 : Int32) (hb hby at_110) (by decide) h) ?_
                show Go p e below _ T36 (mkF m 111 #[.val (.int p1), .val (.int p2), .val (.int ((p1 &&& (2147483647 : Int32)) % (6 : Int32))), .val (.ref b5), .val (.int (6 : Int32)), .unset, .unset] [(.int (4 : Int32))])
                refine Go.st (fun _ h => XS.istore X36.here hx rfl (hb hby at_111) rfl (l' := #[.val (.int p1), .val (.int p2), .val (.int ((p1 &&& (2147483647 : Int32)) % (6 : Int32))), .val (.ref b5), .val (.int (6 : Int32)), .val (.int (4 : Int32)), .unset]) rfl h) ?_
                show Go p e below _ T36 (mkF m 113 #[.val (.int p1), .val (.int p2), .val (.int ((p1 &&& (2147483647 : Int32)) % (6 : Int32))), .val (.ref b5), .val (.int (6 : Int32)), .val (.int (4 : Int32)), .unset] [])
                refine Go.st (fun _ h => XS.iload X36.here hx rfl (hb hby at_113) rfl h) ?_
                show Go p e below _ T36 (mkF m 115 #[.val (.int p1), .val (.int p2), .val (.int ((p1 &&& (2147483647 : Int32)) % (6 : Int32))), .val (.ref b5), .val (.int (6 : Int32)), .val (.int (4 : Int32)), .unset] [(.int (6 : Int32))])
                refine Go.st (fun _ h => XS.iload X36.here hx rfl (hb hby at_115) rfl h) ?_
                show Go p e below _ T36 (mkF m 117 #[.val (.int p1), .val (.int p2), .val (.int ((p1 &&& (2147483647 : Int32)) % (6 : Int32))), .val (.ref b5), .val (.int (6 : Int32)), .val (.int (4 : Int32)), .unset] [(.int (4 : Int32)), (.int (6 : Int32))])
                refine Go.st (fun _ h => XS.iand X36.here hx rfl (hb hby at_117) rfl h) ?_
                show Go p e below _ T36 (mkF m 118 #[.val (.int p1), .val (.int p2), .val (.int ((p1 &&& (2147483647 : Int32)) % (6 : Int32))), .val (.ref b5), .val (.int (6 : Int32)), .val (.int (4 : Int32)), .unset] [(.int ((6 : Int32) &&& (4 : Int32)))])
                refine Go.st (fun _ h => XS.ifNo X36.here hx rfl (hb hby at_118) rfl (by decide) h) ?_
                show Go p e below _ T36 (mkF m 121 #[.val (.int p1), .val (.int p2), .val (.int ((p1 &&& (2147483647 : Int32)) % (6 : Int32))), .val (.ref b5), .val (.int (6 : Int32)), .val (.int (4 : Int32)), .unset] [])
                refine Go.st (fun _ h => XT.iconstV X36.here hx rfl (1 : Int32) (hb hby at_121) (by decide) h) ?_
                show Go p e below _ T36 (mkF m 122 #[.val (.int p1), .val (.int p2), .val (.int ((p1 &&& (2147483647 : Int32)) % (6 : Int32))), .val (.ref b5), .val (.int (6 : Int32)), .val (.int (4 : Int32)), .unset] [(.int (1 : Int32))])
                refine Go.st (fun _ h => XS.goto X36.here hx rfl (pc0 := 122) (pc' := 126) rfl (hb hby at_122) (by decide) (by decide) h) ?_
                show Go p e below _ T36 (mkF m 126 #[.val (.int p1), .val (.int p2), .val (.int ((p1 &&& (2147483647 : Int32)) % (6 : Int32))), .val (.ref b5), .val (.int (6 : Int32)), .val (.int (4 : Int32)), .unset] [(.int (1 : Int32))])
                refine Go.st (fun _ h => XS.istore X36.here hx rfl (hb hby at_126) rfl (l' := #[.val (.int p1), .val (.int p2), .val (.int ((p1 &&& (2147483647 : Int32)) % (6 : Int32))), .val (.ref b5), .val (.int (6 : Int32)), .val (.int (4 : Int32)), .val (.int (1 : Int32))]) rfl h) ?_
                show Go p e below _ T36 (mkF m 128 #[.val (.int p1), .val (.int p2), .val (.int ((p1 &&& (2147483647 : Int32)) % (6 : Int32))), .val (.ref b5), .val (.int (6 : Int32)), .val (.int (4 : Int32)), .val (.int (1 : Int32))] [])
                refine Go.st (fun _ h => XS.aloadN X36.here hx rfl (hb hby at_128) rfl rfl h) ?_
                show Go p e below _ T36 (mkF m 129 #[.val (.int p1), .val (.int p2), .val (.int ((p1 &&& (2147483647 : Int32)) % (6 : Int32))), .val (.ref b5), .val (.int (6 : Int32)), .val (.int (4 : Int32)), .val (.int (1 : Int32))] [(.ref b5)])
                refine Go.st (fun _ h => XS.iloadN X36.here hx rfl (hb hby at_129) rfl h) ?_
                show Go p e below _ T36 (mkF m 130 #[.val (.int p1), .val (.int p2), .val (.int ((p1 &&& (2147483647 : Int32)) % (6 : Int32))), .val (.ref b5), .val (.int (6 : Int32)), .val (.int (4 : Int32)), .val (.int (1 : Int32))] [(.int p2), (.ref b5)])
                obtain ⟨T41, X41, e41, st41⟩ := own_still rfl rfl (Does.virtual (y := (⟨"com/example/intended_use/intendeduse/condition/Operator", "holds", "(I)Z"⟩ : MethodName)) (g := (mkF m 130 #[.val (.int p1), .val (.int p2), .val (.int ((p1 &&& (2147483647 : Int32)) % (6 : Int32))), .val (.ref b5), .val (.int (6 : Int32)), .val (.int (4 : Int32)), .val (.int (1 : Int32))] [(.int p2), (.ref b5)])) (a := b5) (rmHolds5 l Z a0 hw b5 p2 h0 E_GREATER_OR_EQUAL F_GREATER_OR_EQUAL) X36 hx hZ hown e36 E_GREATER_OR_EQUAL (hw _ (List.mem_of_getElem? (i := 4) rfl)) (hw _ (List.mem_of_getElem? (i := 5) rfl)) (hw _ (List.mem_of_getElem? (i := 7) rfl)) (hw _ (List.mem_of_getElem? (i := 6) rfl)) (hw _ (List.mem_of_getElem? (i := 2) rfl)) (hw _ (List.mem_of_getElem? (i := 8) rfl)) (by decide) rfl (by rw [hml]; rfl) (argsL := [(.int p2)]) (rest := []) (lenOf pd_28I29Z rfl) rfl (hb hby at_130) (W := 0) (by show 2 * 0 + _ ≤ _; exact Nat.le_of_eq rfl) (by decide) (by decide) (by decide) (by decide))
                refine Go.st st41 ?_
                show Go p e below _ T41 (mkF m 133 #[.val (.int p1), .val (.int p2), .val (.int ((p1 &&& (2147483647 : Int32)) % (6 : Int32))), .val (.ref b5), .val (.int (6 : Int32)), .val (.int (4 : Int32)), .val (.int (1 : Int32))] [(.int (own_h5 p2))])
                refine Go.st (fun _ h => XS.iload X41.here hx rfl (hb hby at_133) rfl h) ?_
                show Go p e below _ T41 (mkF m 135 #[.val (.int p1), .val (.int p2), .val (.int ((p1 &&& (2147483647 : Int32)) % (6 : Int32))), .val (.ref b5), .val (.int (6 : Int32)), .val (.int (4 : Int32)), .val (.int (1 : Int32))] [(.int (1 : Int32)), (.int (own_h5 p2))])
                refine Go.st (fun _ h => XS.icmpNo X41.here hx rfl (hb hby at_135) rfl ((teq (own_h5p hc37 hc39 : (own_h5 p2) = (1 : Int32))).2) h) ?_
                show Go p e below _ T41 (mkF m 138 #[.val (.int p1), .val (.int p2), .val (.int ((p1 &&& (2147483647 : Int32)) % (6 : Int32))), .val (.ref b5), .val (.int (6 : Int32)), .val (.int (4 : Int32)), .val (.int (1 : Int32))] [])
                refine Go.st (fun _ h => XT.iconstV X41.here hx rfl (1 : Int32) (hb hby at_138) (by decide) h) ?_
                show Go p e below _ T41 (mkF m 139 #[.val (.int p1), .val (.int p2), .val (.int ((p1 &&& (2147483647 : Int32)) % (6 : Int32))), .val (.ref b5), .val (.int (6 : Int32)), .val (.int (4 : Int32)), .val (.int (1 : Int32))] [(.int (1 : Int32))])
                refine Go.st (fun _ h => XS.goto X41.here hx rfl (pc0 := 139) (pc' := 143) rfl (hb hby at_139) (by decide) (by decide) h) ?_
                show Go p e below _ T41 (mkF m 143 #[.val (.int p1), .val (.int p2), .val (.int ((p1 &&& (2147483647 : Int32)) % (6 : Int32))), .val (.ref b5), .val (.int (6 : Int32)), .val (.int (4 : Int32)), .val (.int (1 : Int32))] [(.int (1 : Int32))])
                refine Go.retZ X41 hx hlk hret rfl (hb hby at_143) (by decide) (by decide) ?_
                exact ⟨rfl, Fr.nil _⟩
set_option maxRecDepth 65536 in
set_option maxHeartbeats 40000000 in
theorem comes_1 {Post : Tables → Env → Array Value → State → Outcome → State → Prop} (hpost : ∀ tb e args s v u, (limb_1_1.after args s (.returned v) u = true ∧ limb_1_2.after args s (.returned v) u = true ∧ True) → FrameEnd s (.returned v) u (Jvm.fieldLocs frame_1_writes args s ++ Jvm.arrayLocs frame_1_arrays args s ++ Jvm.staticLocs frame_1_statics s) 0 0 → Post tb e args s (.returned v) u) :
    ArmFor flags0 classFile x code maxLocals ret World_1 tables_1 room_1 Calls_1 rest_1 Pre_1 Post := by
  intro l hfl _ _ p e ha hc hk s m args below hf hA hF happ hP
  obtain ⟨hcalls, hrest, hpre⟩ := hP
  obtain ⟨-, -, -, hnamed, -, -, -, hat⟩ := (Spec.applies_iff hf).mp happ
  obtain ⟨hg, hn⟩ := and_e (Cond.before_iff.mp (show (Jvm.Cond.and given_1 narrow_1).before args s = true from hpre))
  obtain ⟨g0, hg⟩ := and_e hg
  obtain ⟨g1, hg⟩ := and_e hg
  obtain ⟨w0, w1, rfl⟩ : ∃ w0 w1 : Value, args = #[w0, w1] := by
    have hs : args.size = 2 := by simpa [Cond.value, given_1] using g0
    obtain ⟨L⟩ := args
    match L, hs with
    | [w0, w1], _ => exact ⟨w0, w1, rfl⟩
  have hw := fun d (hd : d ∈ tables_1) => atoms_spec (ws := Jvm.Cond.code x code maxLocals ret :: tables_1) hat d (List.mem_cons_of_mem _ hd)
  have hfit : Fit s := fun {y c} hc i hi => by
    obtain ⟨ha, rfl⟩ := Array.getElem?_eq_some_iff.mp hc
    have q := List.all_eq_true.mp ((Array.all_eq_true_iff_forall_mem.mp hF) _ (Array.getElem_mem ha)) i (List.mem_range.mpr hi)
    simpa [Array.getElem?_eq_getElem hi] using q
  obtain ⟨i0, q0⟩ := is_v g1
  obtain rfl : w0 = (.int i0) := Option.some.inj q0
  obtain ⟨i1, q1⟩ := is_v hg
  obtain rfl : w1 = (.int i1) := Option.some.inj q1
  obtain ⟨x0, hn⟩ := and_e hn
  obtain ⟨y0, hn⟩ := and_e hn
  obtain ⟨b0, v0, S0, E0⟩ := own_sta x0 (hw _ (List.mem_of_getElem? (i := 2) rfl)) (hw _ (List.mem_of_getElem? (i := 3) rfl))
  have F0 := own_fldI v0 y0
  obtain ⟨x1, hn⟩ := and_e hn
  obtain ⟨y1, hn⟩ := and_e hn
  obtain ⟨b2, v2, S2, E2⟩ := own_sta x1 (hw _ (List.mem_of_getElem? (i := 2) rfl)) (hw _ (List.mem_of_getElem? (i := 19) rfl))
  have F2 := own_fldI v2 y1
  obtain ⟨x2, hn⟩ := and_e hn
  obtain ⟨y2, hn⟩ := and_e hn
  obtain ⟨b4, v4, S4, E4⟩ := own_sta x2 (hw _ (List.mem_of_getElem? (i := 2) rfl)) (hw _ (List.mem_of_getElem? (i := 21) rfl))
  have F4 := own_fldI v4 y2
  obtain ⟨x3, hn⟩ := and_e hn
  obtain ⟨y3, hn⟩ := and_e hn
  obtain ⟨b1, v1, S1, E1⟩ := own_sta x3 (hw _ (List.mem_of_getElem? (i := 2) rfl)) (hw _ (List.mem_of_getElem? (i := 23) rfl))
  have F1 := own_fldI v1 y3
  obtain ⟨x4, hn⟩ := and_e hn
  obtain ⟨y4, hn⟩ := and_e hn
  obtain ⟨b5, v5, S5, E5⟩ := own_sta x4 (hw _ (List.mem_of_getElem? (i := 2) rfl)) (hw _ (List.mem_of_getElem? (i := 25) rfl))
  have F5 := own_fldI v5 y4
  obtain ⟨x5, hn⟩ := and_e hn
  have y5 := hn
  obtain ⟨b3, v3, S3, E3⟩ := own_sta x5 (hw _ (List.mem_of_getElem? (i := 2) rfl)) (hw _ (List.mem_of_getElem? (i := 27) rfl))
  have F3 := own_fldI v3 y5
  obtain ⟨n, o, h1, h2, h3, v, L, rfl, hP, hq⟩ := rmLaw l s _ hw i0 i1 b0 b1 b2 b3 b4 b5 s.heap s.heap.size S0 E0 F0 S1 E1 F1 S2 E2 F2 S3 E3 F3 S4 E4 F4 S5 E5 F5 p e ha hc hk s m _ below hf ((Spec.applies_iff_loose hf).mp happ).1 ⟨rfl, State.Warmed39.refl s, rfl⟩ trivial
  obtain ⟨rfl, N⟩ := hP
  refine ⟨n, _, h1, h2, h3, hpost _ _ _ _ _ _ ⟨Cond.after_iff.mpr rfl, Cond.after_iff.mpr (eq_i res_at (Term.int_eval (1)) rfl), trivial⟩ ⟨hq.1, hq.2.1, (hq.2.2.sift fun y hy => Or.inr (N y hy)).mono (by decide) (by decide)⟩⟩
theorem main_1_1 : Claimed_1_1 := comes_1 fun _ _ _ _ _ _ h hF => ⟨h.1, hF⟩
theorem main_1_2 : Claimed_1_2 := comes_1 fun _ _ _ _ _ _ h hF => ⟨h.2.1, hF⟩
end Jvm.Pilot.@@N@@
namespace Jvm.Pilot.@@N@@
open Jvm Jvm.ClassFile Sem Op Lib Jvm.Free Jvm.Stand Jvm.Pilot.@@N@@.Jvm.D
/-! MADE BY PROGRAM (witnessworld.py) out of the Statement's table words and the real class files: 12 classes; the members and pool entries that the words name. The judged class is class 1, her method 1. -/
namespace start1
open Jvm.ClassFile
def u (s : String) : CpInfo := .utf8 (stringToUtf16 s)
/-- a pool by its gaps: so many unusable entries, then the entry; so many at the end -/
def gap : Nat → List CpInfo → List CpInfo
  | 0, r => r
  | n + 1, r => .unusable :: gap n r
def poolList (es : List (Nat × CpInfo)) (last : Nat) : List CpInfo := es.foldr (fun e r => gap e.1 (e.2 :: r)) (gap last [])
def pool (es : List (Nat × CpInfo)) (last : Nat) : Array CpInfo := ⟨poolList es last⟩
def fileOf (pool : Array CpInfo) (this : Nat) (attrs : Array Attribute := #[]) (ms : Array MethodInfo := #[]) (fl : Nat := 33) (sup : Nat := 0) (ifs : Array Nat := #[]) (fds : Array FieldInfo := #[]) : ClassFile where
  minorVersion := 0
  majorVersion := 65
  constantPool := pool
  accessFlags := fl
  thisClass := this
  superClass := sup
  interfaces := ifs
  fields := fds
  methods := ms
  attributes := attrs
def plain (name : String) (sup : Option ClassId) : Class where
  name := name
  kind := .ordinary
  loader := none
  accessFlags := 33
  super := sup
  interfaces := #[]
  cf := none
  fields := #[]
  methods := #[]
  instanceTypes := #[]
  staticTypes := #[]
  resolved := #[]
  callSites := []
  init := .initialized
  statics := none
  mirror := none

def pool0 : Array CpInfo := pool [(5, u "<init>"), (0, u "()V"), (1, .class_ 10), (1, u "java/lang/Object")] 113

def k0m0 : Method := { name := "<init>", desc := "()V", sig := { parameters := [], returnType := none }, accessFlags := 1, code := none }
/-- java/lang/Object -/
def k0 : Class := { plain "java/lang/Object" none with
  accessFlags := 33
  interfaces := #[]
  cf := some (fileOf pool0 8 #[] #[{ accessFlags := 1, nameIndex := 5, descriptorIndex := 6, attributes := #[] }] 33 0 #[] #[])
  fields := #[]
  methods := #[k0m0]
  instanceTypes := #[]
  staticTypes := #[]
  resolved := Array.replicate 124 none
  statics := none }

def pool1 : Array CpInfo := pool [(2, .class_ 4), (1, u "java/lang/Object"), (0, u "<init>"), (0, u "()V"), (0, .integer 2147483647), (0, .fieldref 9 10), (0, .class_ 11), (0, .nameAndType 12 13), (0, u "com/example/intended_use/intendeduse/condition/Operator"), (0, u "EQUAL"), (0, u "Lcom/example/intended_use/intendeduse/condition/Operator;"), (0, .fieldref 9 15), (0, .nameAndType 16 13), (0, u "NOT_EQUAL"), (0, .fieldref 9 18), (0, .nameAndType 19 13), (0, u "LESS"), (0, .fieldref 9 21), (0, .nameAndType 22 13), (0, u "LESS_OR_EQUAL"), (0, .fieldref 9 24), (0, .nameAndType 25 13), (0, u "GREATER"), (0, .fieldref 9 27), (0, .nameAndType 28 13), (0, u "GREATER_OR_EQUAL"), (0, .methodref 9 30), (0, .nameAndType 31 32), (0, u "holds"), (0, u "(I)Z"), (0, .class_ 34), (0, u "com/example/intended_use/intendeduse/condition/OperatorHoldsPinLaw"), (2, u "law"), (0, u "(II)Z")] 3

def k1m0 : Method := { name := "<init>", desc := "()V", sig := { parameters := [], returnType := none }, accessFlags := 1, code := none }
def k1c1 : Code := { maxStack := 2, maxLocals := 7, code := code, exceptionTable := #[], attributes := #[] }
def k1m1 : Method := { name := "law", desc := "(II)Z", sig := { parameters := [.int, .int], returnType := some .boolean }, accessFlags := 9, code := some k1c1 }
/-- com/example/intended_use/intendeduse/condition/OperatorHoldsPinLaw -/
def k1 : Class := { plain "com/example/intended_use/intendeduse/condition/OperatorHoldsPinLaw" (some 0) with
  accessFlags := 49
  interfaces := #[]
  cf := some (fileOf pool1 33 #[] #[{ accessFlags := 1, nameIndex := 5, descriptorIndex := 6, attributes := #[] }, { accessFlags := 9, nameIndex := 37, descriptorIndex := 38, attributes := #[] }] 49 2 #[] #[])
  fields := #[]
  methods := #[k1m0, k1m1]
  instanceTypes := #[]
  staticTypes := #[]
  resolved := Array.replicate 42 none
  statics := none }

def pool2 : Array CpInfo := pool [(1, .class_ 2), (0, u "java/lang/constant/Constable"), (0, .class_ 4), (0, u "java/lang/Object")] 6

/-- java/lang/constant/Constable -/
def k2 : Class := { plain "java/lang/constant/Constable" (some 0) with
  accessFlags := 1537
  interfaces := #[]
  cf := some (fileOf pool2 1 #[] #[] 1537 3 #[] #[])
  fields := #[]
  methods := #[]
  instanceTypes := #[]
  staticTypes := #[]
  resolved := Array.replicate 11 none
  statics := none }

def pool3 : Array CpInfo := pool [(1, .class_ 2), (0, u "java/lang/Comparable"), (0, .class_ 4), (0, u "java/lang/Object")] 7

/-- java/lang/Comparable -/
def k3 : Class := { plain "java/lang/Comparable" (some 0) with
  accessFlags := 1537
  interfaces := #[]
  cf := some (fileOf pool3 1 #[] #[] 1537 3 #[] #[])
  fields := #[]
  methods := #[]
  instanceTypes := #[]
  staticTypes := #[]
  resolved := Array.replicate 12 none
  statics := none }

def pool4 : Array CpInfo := pool [(1, .class_ 2), (0, u "java/io/Serializable"), (0, .class_ 4), (0, u "java/lang/Object")] 2

/-- java/io/Serializable -/
def k4 : Class := { plain "java/io/Serializable" (some 0) with
  accessFlags := 1537
  interfaces := #[]
  cf := some (fileOf pool4 1 #[] #[] 1537 3 #[] #[])
  fields := #[]
  methods := #[]
  instanceTypes := #[]
  staticTypes := #[]
  resolved := Array.replicate 7 none
  statics := none }

def pool5 : Array CpInfo := pool [(2, .class_ 4), (1, u "java/lang/Enum"), (0, u "name"), (0, u "Ljava/lang/String;"), (0, .fieldref 2 8), (0, .nameAndType 9 10), (0, u "ordinal"), (0, u "I"), (1, .class_ 14), (1, u "java/lang/Object"), (4, u "hash"), (86, .class_ 108), (1, u "java/lang/Enum$EnumDesc"), (2, .class_ 112), (0, u "java/lang/constant/Constable"), (0, .class_ 114), (0, u "java/lang/Comparable"), (0, .class_ 116), (0, u "java/io/Serializable"), (9, u "()I")] 77

def k5c0 : Code := { maxStack := 1, maxLocals := 1, code := jdk_37_method_2_code, exceptionTable := #[], attributes := #[] }
def k5m0 : Method := { name := "ordinal", desc := "()I", sig := { parameters := [], returnType := some .int }, accessFlags := 17, code := some k5c0 }
/-- java/lang/Enum -/
def k5 : Class := { plain "java/lang/Enum" (some 0) with
  accessFlags := 1057
  interfaces := #[2, 3, 4]
  cf := some (fileOf pool5 2 #[.nestMembers #[106]] #[{ accessFlags := 17, nameIndex := 9, descriptorIndex := 126, attributes := #[] }] 1057 12 #[111, 113, 115] #[{ accessFlags := 18, nameIndex := 5, descriptorIndex := 6, attributes := #[] }, { accessFlags := 18, nameIndex := 9, descriptorIndex := 10, attributes := #[] }, { accessFlags := 2, nameIndex := 19, descriptorIndex := 10, attributes := #[] }])
  fields := #[{ name := "name", type := (.object "java/lang/String"), accessFlags := 18, slot := 0, constantValue := 0 }, { name := "ordinal", type := .int, accessFlags := 18, slot := 1, constantValue := 0 }, { name := "hash", type := .int, accessFlags := 2, slot := 2, constantValue := 0 }]
  methods := #[k5m0]
  instanceTypes := #[(.object "java/lang/String"), .int, .int]
  staticTypes := #[]
  resolved := Array.replicate 204 none
  statics := none }

def pool6 : Array CpInfo := pool [(1, .class_ 2), (0, u "com/example/intended_use/intendeduse/condition/Operator"), (2, u "EQUAL"), (0, u "Lcom/example/intended_use/intendeduse/condition/Operator;"), (2, u "NOT_EQUAL"), (2, u "LESS"), (2, u "LESS_OR_EQUAL"), (2, u "GREATER"), (2, u "GREATER_OR_EQUAL"), (2, u "DIRECTLY_BELOW"), (2, u "DIRECTLY_BELOW_OR_EQUAL"), (2, u "DIRECTLY_ABOVE"), (2, u "DIRECTLY_ABOVE_OR_EQUAL"), (2, u "COMPARABLE"), (2, u "INCOMPARABLE"), (2, u "$VALUES"), (0, u "[Lcom/example/intended_use/intendeduse/condition/Operator;"), (6, .class_ 52), (1, u "java/lang/Enum"), (8, u "symbol"), (0, u "Ljava/lang/String;"), (2, u "hierarchical"), (0, u "Z"), (19, .methodref 1 87), (0, .nameAndType 88 89), (0, u "ordinal"), (0, u "()I"), (56, u "holds"), (0, u "(I)Z")] 22

def k6c0 : Code := { maxStack := 3, maxLocals := 2, code := prog_9_method_7_code, exceptionTable := #[], attributes := #[] }
def k6m0 : Method := { name := "holds", desc := "(I)Z", sig := { parameters := [.int], returnType := some .boolean }, accessFlags := 1, code := some k6c0 }
/-- com/example/intended_use/intendeduse/condition/Operator -/
def k6 : Class := { plain "com/example/intended_use/intendeduse/condition/Operator" (some 5) with
  accessFlags := 16433
  interfaces := #[]
  cf := some (fileOf pool6 1 #[] #[{ accessFlags := 1, nameIndex := 146, descriptorIndex := 147, attributes := #[] }] 16433 50 #[] #[{ accessFlags := 16409, nameIndex := 5, descriptorIndex := 6, attributes := #[] }, { accessFlags := 16409, nameIndex := 9, descriptorIndex := 6, attributes := #[] }, { accessFlags := 16409, nameIndex := 12, descriptorIndex := 6, attributes := #[] }, { accessFlags := 16409, nameIndex := 15, descriptorIndex := 6, attributes := #[] }, { accessFlags := 16409, nameIndex := 18, descriptorIndex := 6, attributes := #[] }, { accessFlags := 16409, nameIndex := 21, descriptorIndex := 6, attributes := #[] }, { accessFlags := 16409, nameIndex := 24, descriptorIndex := 6, attributes := #[] }, { accessFlags := 16409, nameIndex := 27, descriptorIndex := 6, attributes := #[] }, { accessFlags := 16409, nameIndex := 30, descriptorIndex := 6, attributes := #[] }, { accessFlags := 16409, nameIndex := 33, descriptorIndex := 6, attributes := #[] }, { accessFlags := 16409, nameIndex := 36, descriptorIndex := 6, attributes := #[] }, { accessFlags := 16409, nameIndex := 39, descriptorIndex := 6, attributes := #[] }, { accessFlags := 18, nameIndex := 61, descriptorIndex := 62, attributes := #[] }, { accessFlags := 18, nameIndex := 65, descriptorIndex := 66, attributes := #[] }, { accessFlags := 4122, nameIndex := 42, descriptorIndex := 43, attributes := #[] }])
  fields := #[{ name := "EQUAL", type := (.object "com/example/intended_use/intendeduse/condition/Operator"), accessFlags := 16409, slot := 0, constantValue := 0 }, { name := "NOT_EQUAL", type := (.object "com/example/intended_use/intendeduse/condition/Operator"), accessFlags := 16409, slot := 1, constantValue := 0 }, { name := "LESS", type := (.object "com/example/intended_use/intendeduse/condition/Operator"), accessFlags := 16409, slot := 2, constantValue := 0 }, { name := "LESS_OR_EQUAL", type := (.object "com/example/intended_use/intendeduse/condition/Operator"), accessFlags := 16409, slot := 3, constantValue := 0 }, { name := "GREATER", type := (.object "com/example/intended_use/intendeduse/condition/Operator"), accessFlags := 16409, slot := 4, constantValue := 0 }, { name := "GREATER_OR_EQUAL", type := (.object "com/example/intended_use/intendeduse/condition/Operator"), accessFlags := 16409, slot := 5, constantValue := 0 }, { name := "DIRECTLY_BELOW", type := (.object "com/example/intended_use/intendeduse/condition/Operator"), accessFlags := 16409, slot := 6, constantValue := 0 }, { name := "DIRECTLY_BELOW_OR_EQUAL", type := (.object "com/example/intended_use/intendeduse/condition/Operator"), accessFlags := 16409, slot := 7, constantValue := 0 }, { name := "DIRECTLY_ABOVE", type := (.object "com/example/intended_use/intendeduse/condition/Operator"), accessFlags := 16409, slot := 8, constantValue := 0 }, { name := "DIRECTLY_ABOVE_OR_EQUAL", type := (.object "com/example/intended_use/intendeduse/condition/Operator"), accessFlags := 16409, slot := 9, constantValue := 0 }, { name := "COMPARABLE", type := (.object "com/example/intended_use/intendeduse/condition/Operator"), accessFlags := 16409, slot := 10, constantValue := 0 }, { name := "INCOMPARABLE", type := (.object "com/example/intended_use/intendeduse/condition/Operator"), accessFlags := 16409, slot := 11, constantValue := 0 }, { name := "symbol", type := (.object "java/lang/String"), accessFlags := 18, slot := 3, constantValue := 0 }, { name := "hierarchical", type := .boolean, accessFlags := 18, slot := 4, constantValue := 0 }, { name := "$VALUES", type := (.array (.object "com/example/intended_use/intendeduse/condition/Operator")), accessFlags := 4122, slot := 12, constantValue := 0 }]
  methods := #[k6m0]
  instanceTypes := #[(.object "java/lang/String"), .int, .int, (.object "java/lang/String"), .boolean]
  staticTypes := #[(.object "com/example/intended_use/intendeduse/condition/Operator"), (.object "com/example/intended_use/intendeduse/condition/Operator"), (.object "com/example/intended_use/intendeduse/condition/Operator"), (.object "com/example/intended_use/intendeduse/condition/Operator"), (.object "com/example/intended_use/intendeduse/condition/Operator"), (.object "com/example/intended_use/intendeduse/condition/Operator"), (.object "com/example/intended_use/intendeduse/condition/Operator"), (.object "com/example/intended_use/intendeduse/condition/Operator"), (.object "com/example/intended_use/intendeduse/condition/Operator"), (.object "com/example/intended_use/intendeduse/condition/Operator"), (.object "com/example/intended_use/intendeduse/condition/Operator"), (.object "com/example/intended_use/intendeduse/condition/Operator"), (.array (.object "com/example/intended_use/intendeduse/condition/Operator"))]
  resolved := Array.replicate 170 none
  statics := some 0 }

def pool7 : Array CpInfo := pool [(1, u "java/lang/Cloneable"), (0, .class_ 1), (0, u "java/lang/Object"), (0, .class_ 3)] 3

/-- java/lang/Cloneable -/
def k7 : Class := { plain "java/lang/Cloneable" (some 0) with
  accessFlags := 1537
  interfaces := #[]
  cf := some (fileOf pool7 2 #[] #[] 1537 4 #[] #[])
  fields := #[]
  methods := #[]
  instanceTypes := #[]
  staticTypes := #[]
  resolved := Array.replicate 8 none
  statics := none }

/-- the primitive byte -/
def k8 : Class := { plain "byte" none with kind := .primitive 'B', accessFlags := 0x411 }
/-- [B -/
def k9 : Class := { plain "[B" (some 0) with kind := .array 8 .byte, interfaces := #[7, 4], accessFlags := 1041 }

/-- the primitive int -/
def k10 : Class := { plain "int" none with kind := .primitive 'I', accessFlags := 0x411 }
/-- [I -/
def k11 : Class := { plain "[I" (some 0) with kind := .array 10 .int, interfaces := #[7, 4], accessFlags := 1041 }

def heap : Heap := #[{ cls := 6, slots := #[.ref 1, .ref 2, .ref 3, .ref 4, .ref 5, .ref 6, .null, .null, .null, .null, .null, .null, .null], vm := .statics 6 },
  { cls := 6, slots := #[.null, .int 0, .int 0, .null, .int 0], vm := .none },
  { cls := 6, slots := #[.null, .int 1, .int 0, .null, .int 0], vm := .none },
  { cls := 6, slots := #[.null, .int 2, .int 0, .null, .int 0], vm := .none },
  { cls := 6, slots := #[.null, .int 3, .int 0, .null, .int 0], vm := .none },
  { cls := 6, slots := #[.null, .int 4, .int 0, .null, .int 0], vm := .none },
  { cls := 6, slots := #[.null, .int 5, .int 0, .null, .int 0], vm := .none }]
def classes : Array Class := #[k0, k1, k2, k3, k4, k5, k6, k7, k8, k9, k10, k11]
def interned : List (Array UInt16 × Addr) := []
def slotsUsed : Nat := 43
def theMethod : MethodId := ⟨1, 1⟩
def args0 : Array Value := #[.int 5, .int 3]
def aboutOver (below : List Frame) : State where
  vm := { classes := classes, interned := interned.toArray }
  heap := heap
  slotsUsed := slotsUsed
  threads := #[{ frames := .invoking theMethod args0 :: below }]
def below0 : List Frame := [.native { method := ⟨0, 0⟩, args := #[] }]
def about1 : State := aboutOver below0
def p0 : Program := .bare "" "" ""
def e0 : Env := launch0.env 0 0 0
theorem w_frames : about1.frames = Frame.invoking theMethod args0 :: below0 := rfl
set_option maxRecDepth 65536 in
theorem w_args : argsFit about1.vm theMethod args0 = true := by decide +kernel
set_option maxRecDepth 65536 in
theorem w_heap : heapFits about1 = true := by decide +kernel
set_option maxRecDepth 65536 in
theorem w_runnable : about1.curStatus? = some .runnable := by decide +kernel
set_option maxRecDepth 65536 in
theorem w_alone : about1.alone = true := by decide +kernel
set_option maxRecDepth 65536 in
theorem w_named : about1.methodNamed? x = some theMethod := by decide +kernel
set_option maxRecDepth 65536 in
theorem w_hears : about1.hears theMethod below0 = true := by decide +kernel
set_option maxRecDepth 65536 in
theorem w_ripe : about1.ripe theMethod args0 below0 = true := by decide +kernel
theorem w_running : about1.status = .running := rfl
set_option maxRecDepth 65536 in
theorem w_room : about1.hasRoom e0.platform room_1 = true :=
  launch0.hasRoom_least _ room_1 (by decide +kernel) (by decide +kernel) (by decide +kernel) (by decide +kernel) (by decide +kernel) (by decide +kernel)
theorem allAtoms_all (ts : List Jvm.Cond) (a : Array Jvm.Value) (st : Jvm.State) : (allAtoms ts).before a st = ts.all (fun c => c.before a st) := by
  induction ts with
  | nil => rfl
  | cons c t ih =>
    show (Jvm.Cond.and c (allAtoms t)).before a st = _
    rw [Jvm.Cond.before_and, ih, List.all_cons]
def words1 : List Jvm.Cond := Jvm.Cond.code x code maxLocals ret :: tables_1
/-- a 'code' word, met by the world's own term for the bytes: nothing is compared byte by byte -/
theorem code_word {y : MethodName} {bytes : ByteArray} {mx : Nat} {rt : Option FieldType} {a : Array Value} {s : State} {m : MethodId} {meth : Method} {c : Code} (h1 : s.methodNamed? y = some m) (h2 : s.vm.method? m = some meth) (h3 : meth.code = some c) (h4 : c.code = bytes)
    (h5 : (c.maxLocals == mx && c.exceptionTable.isEmpty && decide (c.maxStack ≤ mostOperands) && decide (meth.sig.returnType = rt) && !meth.locks && decide (parseMethodDescriptor y.desc = some meth.sig)) = true) : (Jvm.Cond.code y bytes mx rt).before a s = true := by
  simp only [Bool.and_eq_true, beq_iff_eq, Bool.not_eq_true', decide_eq_true_eq] at h5
  obtain ⟨⟨⟨⟨⟨g1, g2⟩, g3⟩, g4⟩, g5⟩, g6⟩ := h5
  simp [Cond.before, Cond.holds, Cond.value, h1, h2, h3, h4, g1, g2, g3, g4, g5, g6]
def isCode : Jvm.Cond → Bool
  | .code _ _ _ _ => true
  | _ => false
theorem all_split {L : List Jvm.Cond} {P : Jvm.Cond → Bool} (h1 : L.all (fun c => isCode c || P c) = true) (h2 : ∀ c ∈ L.filter isCode, P c = true) : L.all P = true := by
  refine List.all_eq_true.mpr fun c hc => ?_
  have h := List.all_eq_true.mp h1 c hc
  rcases Bool.eq_false_or_eq_true (isCode c) with hi | hi
  · exact h2 c (List.mem_filter.mpr ⟨hc, hi⟩)
  · simpa [hi] using h
set_option maxRecDepth 65536 in
theorem w_c0 : (Jvm.Cond.code x code maxLocals ret).before args0 about1 = true := code_word (m := ⟨1, 1⟩) (meth := k1m1) (c := k1c1) (by decide +kernel) rfl rfl rfl (by decide +kernel)
set_option maxRecDepth 65536 in
theorem w_c1 : (Jvm.Cond.code ({ cls := "com/example/intended_use/intendeduse/condition/Operator", name := "holds", desc := "(I)Z" } : Jvm.MethodName) prog_9_method_7_code (2 : Nat) (Option.some Jvm.ClassFile.FieldType.boolean)).before args0 about1 = true := code_word (m := ⟨6, 0⟩) (meth := k6m0) (c := k6c0) (by decide +kernel) rfl rfl rfl (by decide +kernel)
set_option maxRecDepth 65536 in
theorem w_c2 : (Jvm.Cond.code ({ cls := "java/lang/Enum", name := "ordinal", desc := "()I" } : Jvm.MethodName) jdk_37_method_2_code (1 : Nat) (Option.some Jvm.ClassFile.FieldType.int)).before args0 about1 = true := code_word (m := ⟨5, 0⟩) (meth := k5m0) (c := k5c0) (by decide +kernel) rfl rfl rfl (by decide +kernel)
def codes1 : List Jvm.Cond := [Jvm.Cond.code x code maxLocals ret, Jvm.Cond.code ({ cls := "com/example/intended_use/intendeduse/condition/Operator", name := "holds", desc := "(I)Z" } : Jvm.MethodName) prog_9_method_7_code (2 : Nat) (Option.some Jvm.ClassFile.FieldType.boolean), Jvm.Cond.code ({ cls := "java/lang/Enum", name := "ordinal", desc := "()I" } : Jvm.MethodName) jdk_37_method_2_code (1 : Nat) (Option.some Jvm.ClassFile.FieldType.int)]
set_option maxRecDepth 65536 in
theorem codes_eq : words1.filter isCode = codes1 := rfl
theorem w_codes : ∀ c ∈ words1.filter isCode, c.before args0 about1 = true := by
  rw [codes_eq]
  intro c hc
  simp only [codes1, List.mem_cons, List.not_mem_nil, or_false] at hc
  rcases hc with rfl | rfl | rfl
  · exact w_c0
  · exact w_c1
  · exact w_c2
set_option maxRecDepth 65536 in
theorem w_t1 : (words1.take 24).all (fun c => isCode c || c.before args0 about1) = true := by decide +kernel
set_option maxRecDepth 65536 in
theorem w_t2 : (words1.drop 24).all (fun c => isCode c || c.before args0 about1) = true := by decide +kernel
theorem w_tables : (allAtoms (Jvm.Cond.code x code maxLocals ret :: tables_1)).before args0 about1 = true := by
  rw [allAtoms_all]
  show words1.all (fun c => c.before args0 about1) = true
  refine all_split ?_ w_codes
  rw [← List.take_append_drop 24 words1, List.all_append, w_t1, w_t2]
  rfl
set_option maxRecDepth 65536 in
theorem w_case : (Jvm.Cond.and given_1 narrow_1).before args0 about1 = true := by decide +kernel
theorem w_applies : (headSpec (Jvm.Cond.code x code maxLocals ret :: tables_1) room_1).applies x e0.platform about1 = true :=
  (Spec.applies_iff w_frames).mpr ⟨w_running, w_runnable, w_alone, w_named, w_hears, w_ripe, w_room, w_tables⟩
theorem atStart : AtStart classFile x code maxLocals ret World_1 tables_1 room_1 Calls_1 rest_1 Pre_1 launch0 p0 e0 about1 theMethod args0 below0 :=
  ⟨lists_1, trivial, launch0.admits_env _ _ _, launch0.least_env, fairChoices_fair.cas, fairChoices_fair.clock, w_frames, w_args, w_heap, w_applies, trivial, trivial, w_case⟩
end start1
theorem witness_1 : WitnessClaimed_1 := ⟨start1.p0, start1.e0, start1.about1, start1.theMethod, start1.args0, start1.below0, start1.atStart⟩
end Jvm.Pilot.@@N@@
