import JvmDerived
import JvmDerived.Pilot.@@N@@Statement
import JvmDerived.Pilot.@@N@@Code
set_option linter.unusedVariables false
set_option linter.unusedSimpArgs false
namespace Jvm.Pilot.@@N@@
open Jvm Jvm.ClassFile Sem Op Lib Jvm.Free Jvm.Stand Jvm.LawKit Jvm.RoadKit Bundle Jvm.Pilot.@@N@@.Jvm.D
/-! GoKit: a walk told forwards. Go: from this frame on the method comes to its end as Q says; Does: what a call of a method does (over the library's MetFree). -/
section GoKit
variable {p : Program} {l : Launch} {e : Env} {R : Room} {s : State} {m : MethodId} {args : Array Value} {below : List Frame} {meth : Method} {c : Code} {T T' : State} {locs : List Loc} {cells slots : Nat} {Z : State} {a0 : Array Value} {h : Heap} {g g' : JFrame} {Q : Outcome → State → Prop}
def Go (p : Program) (e : Env) (below : List Frame) (Q : Outcome → State → Prop) (T : State) (g : JFrame) : Prop :=
  ∃ s₂ o, Steps p.tables e below (T.setTop g) s₂ ∧ s₂.status = .running ∧ Ended s₂ below o ∧ Q o s₂
theorem Go.st (k : ∀ target, Steps p.tables e below (T'.setTop g') target → Steps p.tables e below (T.setTop g) target) (H : Go p e below Q T' g') : Go p e below Q T g := by
  obtain ⟨s₂, o, h1, r⟩ := H; exact ⟨s₂, o, k _ h1, r⟩
theorem Go.eq (q : g = g') (H : Go p e below Q T g') : Go p e below Q T g := q ▸ H
def Ends (s : State) (k n : Nat) (P : Option Value → Heap → List Loc → Prop) : Outcome → State → Prop :=
  fun o U' => ∃ v L, o = .returned v ∧ P v U'.heap L ∧ FrameEnd s o U' L k n
theorem Go.ret (X : Stand p l e R s m args below meth c T locs cells slots) (hx : p.tables.exec = Jvm.exec) (hlk : meth.locks = false) {pc : Nat} {Ls : Array Slot} {w : Value} {t : FieldType} {i : Instr} {rest : List Value} {P : Option Value → Heap → List Loc → Prop} {k n : Nat}
    (hret : meth.sig.returnType = some t) (hn : narrow t w = w)
    (hi : (i = .ireturn ∧ (t = .int ∨ t = .boolean ∨ t = .byte ∨ t = .char ∨ t = .short) ∧ ∃ z, w = .int z) ∨ (i = .lreturn ∧ t = .long ∧ ∃ z, w = .long z) ∨ (i = .dreturn ∧ t = .double ∧ ∃ z, w = .double z) ∨ (i = .freturn ∧ t = .float ∧ ∃ z, w = .float z) ∨ (i = .areturn ∧ t.isReference = true ∧ w.isRef = true))
    (hd : decode c.code pc = .ok (i, 1)) (hk : cells ≤ k) (hs : slots ≤ n) (hP : P (some w) T.heap locs) : Go p e below (Ends s k n P) T (mkF m pc Ls (w :: rest)) := by
  obtain ⟨fs, hr, hrun, hended, hW, hsame⟩ := X.leave (v := some w) (fun h => by rw [hret] at h; cases h) hlk
  exact ⟨_, _, retOut X hx hret hn hi hd hr, hrun, hended, _, _, rfl, hP, ⟨_, rfl⟩, hW, hsame.mono hk hs⟩
theorem Go.retV (X : Stand p l e R s m args below meth c T locs cells slots) (hx : p.tables.exec = Jvm.exec) (hlk : meth.locks = false) {pc : Nat} {Ls : Array Slot} {P : Option Value → Heap → List Loc → Prop} {k n : Nat}
    (hret : meth.sig.returnType = none) (hd : decode c.code pc = .ok (.return_, 1)) (hk : cells ≤ k) (hs : slots ≤ n) (hP : P none T.heap locs) : Go p e below (Ends s k n P) T (mkF m pc Ls []) := by
  obtain ⟨fs, hr, hrun, hended, hW, hsame⟩ := X.leave (v := none) (fun _ => rfl) hlk
  exact ⟨_, _, X.returnOut hx hret hd hr, hrun, hended, _, _, rfl, hP, ⟨_, rfl⟩, hW, hsame.mono hk hs⟩
theorem Go.retZ (X : Stand p l e R s m args below meth c T locs cells slots) (hx : p.tables.exec = Jvm.exec) (hlk : meth.locks = false) {pc : Nat} {Ls : Array Slot} {z : Int32} {rest : List Value} {P : Option Value → Heap → List Loc → Prop} {k n : Nat}
    (hret : meth.sig.returnType = some .boolean) (hn : narrow .boolean (.int z) = .int z) (hd : decode c.code pc = .ok (.ireturn, 1)) (hk : cells ≤ k) (hs : slots ≤ n) (hP : P (some (.int z)) T.heap locs) : Go p e below (Ends s k n P) T (mkF m pc Ls (.int z :: rest)) :=
  Go.ret X hx hlk hret hn (Or.inl ⟨rfl, Or.inr (Or.inl rfl), z, rfl⟩) hd hk hs hP
theorem Go.retC (X : Stand p l e R s m args below meth c T locs cells slots) (hx : p.tables.exec = Jvm.exec) (hlk : meth.locks = false) {pc : Nat} {Ls : Array Slot} {z : Int32} {rest : List Value} {P : Option Value → Heap → List Loc → Prop} {k n : Nat}
    (hret : meth.sig.returnType = some .char) (hn : narrow .char (.int z) = .int z) (hd : decode c.code pc = .ok (.ireturn, 1)) (hk : cells ≤ k) (hs : slots ≤ n) (hP : P (some (.int z)) T.heap locs) : Go p e below (Ends s k n P) T (mkF m pc Ls (.int z :: rest)) :=
  Go.ret X hx hlk hret hn (Or.inl ⟨rfl, Or.inr (Or.inr (Or.inr (Or.inl rfl))), z, rfl⟩) hd hk hs hP
theorem Go.retI (X : Stand p l e R s m args below meth c T locs cells slots) (hx : p.tables.exec = Jvm.exec) (hlk : meth.locks = false) {pc : Nat} {Ls : Array Slot} {z : Int32} {rest : List Value} {P : Option Value → Heap → List Loc → Prop} {k n : Nat}
    (hret : meth.sig.returnType = some .int) (hd : decode c.code pc = .ok (.ireturn, 1)) (hk : cells ≤ k) (hs : slots ≤ n) (hP : P (some (.int z)) T.heap locs) : Go p e below (Ends s k n P) T (mkF m pc Ls (.int z :: rest)) :=
  Go.ret X hx hlk hret rfl (Or.inl ⟨rfl, Or.inl rfl, z, rfl⟩) hd hk hs hP
theorem Go.retJ (X : Stand p l e R s m args below meth c T locs cells slots) (hx : p.tables.exec = Jvm.exec) (hlk : meth.locks = false) {pc : Nat} {Ls : Array Slot} {z : Int64} {rest : List Value} {P : Option Value → Heap → List Loc → Prop} {k n : Nat}
    (hret : meth.sig.returnType = some .long) (hd : decode c.code pc = .ok (.lreturn, 1)) (hk : cells ≤ k) (hs : slots ≤ n) (hP : P (some (.long z)) T.heap locs) : Go p e below (Ends s k n P) T (mkF m pc Ls (.long z :: rest)) :=
  Go.ret X hx hlk hret rfl (Or.inr (Or.inl ⟨rfl, rfl, z, rfl⟩)) hd hk hs hP
theorem Go.retA (X : Stand p l e R s m args below meth c T locs cells slots) (hx : p.tables.exec = Jvm.exec) (hlk : meth.locks = false) {pc : Nat} {Ls : Array Slot} {w : Value} {t : FieldType} {rest : List Value} {P : Option Value → Heap → List Loc → Prop} {k n : Nat}
    (hret : meth.sig.returnType = some t) (ht : t.isReference = true) (hw : w.isRef = true) (hn : narrow t w = w) (hd : decode c.code pc = .ok (.areturn, 1)) (hk : cells ≤ k) (hs : slots ≤ n) (hP : P (some w) T.heap locs) : Go p e below (Ends s k n P) T (mkF m pc Ls (w :: rest)) :=
  Go.ret X hx hlk hret hn (Or.inr (Or.inr (Or.inr (Or.inr ⟨rfl, ht, hw⟩)))) hd hk hs hP
/-- what a call does: the arguments, the heap before, and P: what it returns, the heap behind, the places written -/
def Does (l : Launch) (Z : State) (y : MethodName) (bytes : ByteArray) (maxL : Nat) (ret : Option FieldType) (ws : List Jvm.Cond) (rm : Room) (as' : Array Value) (h : Heap) (P : Option Value → Heap → List Loc → Prop) : Prop :=
  MetFree l y (head1 (Jvm.Cond.code y bytes maxL ret :: ws) rm) (fun a U => a = as' ∧ Z.Warmed39 U.vm ∧ U.heap = h) (fun _ _ _ _ _ => True) (fun _ U o U' => ∃ v L, o = .returned v ∧ P v U'.heap L ∧ FrameEnd U o U' L rm.cells rm.slots)
theorem Does.intro {y : MethodName} {bytes : ByteArray} {maxL : Nat} {ret : Option FieldType} {ws : List Jvm.Cond} {rm : Room} {as' : Array Value} {P : Option Value → Heap → List Loc → Prop} {Ls : Array Slot} (hpn : plainName y.cls = true) (hef : ∀ m, entryFrame m as' maxL = mkF m 0 Ls [])
    (body : ∀ (p : Program) (e : Env) (s : State) (m : MethodId) (below : List Frame) (meth : Method) (c : Code) (s₁ : State), p.tables.exec = Jvm.exec → c.code = bytes → c.maxLocals = maxL → s.vm.findClass y.cls = some m.cls → meth.name = y.name → meth.sig.returnType = ret → meth.locks = false →
      Z.Warmed39 s.vm → s₁.heap = h → Stand p l e rm s m as' below meth c s₁ [] 0 0 → Go p e below (Ends s rm.cells rm.slots P) s₁ (mkF m 0 Ls [])) : Does l Z y bytes maxL ret ws rm as' h P := by
  refine MetFree.of_bodySF (plainFor_of_name hpn) hisR ?_
  intro p e s m args below meth c s₁ Bd hml0 hP hK
  obtain ⟨rfl, hZ, hh⟩ := hP
  have := body p e s m below meth c s₁ Bd.exec Bd.bytes hml0 (findClass_of_methodNamed Bd.named) (name_of_methodNamed Bd.named Bd.method).1 Bd.returns Bd.notSynchronized hZ (by rw [← hh, Bd.state]; rfl) (Stand.of_body Bd)
  obtain ⟨s₂, o, h1, h2, h3, h4⟩ := this
  exact ⟨s₂, o, castTop (hef m) h1, h2, h3, h4⟩
theorem Does.mono {y : MethodName} {bytes : ByteArray} {maxL : Nat} {ret : Option FieldType} {ws : List Jvm.Cond} {rm : Room} {as' : Array Value} {P P' : Option Value → Heap → List Loc → Prop} (D : Does l Z y bytes maxL ret ws rm as' h P) (q : ∀ v h' L, P v h' L → P' v h' L) : Does l Z y bytes maxL ret ws rm as' h P' := by
  intro p e ha hc hk s m args below hf happ hP hK
  obtain ⟨n, o, h1, h2, h3, v, L, h4, h5, h6⟩ := D p e ha hc hk s m args below hf happ hP hK
  exact ⟨n, o, h1, h2, h3, v, L, h4, q _ _ _ h5, h6⟩
theorem Does.static {y : MethodName} {bytes : ByteArray} {maxL : Nat} {ret : Option FieldType} {rm : Room} {P : Option Value → Heap → List Loc → Prop} {own : String} {index : Nat} {argsL rest : List Value} (D : Does l Z y bytes maxL ret [] rm argsL.toArray h P)
    (X : Stand p l e R s m args below meth c T locs cells slots) (hx : p.tables.exec = Jvm.exec) (hZ : Z.Warmed39 s.vm) (hown : s.vm.findClass own = some m.cls) (eT : T.heap = h) (w1 : (Cond.methodLink own index y).before a0 Z = true) (w2 : (Cond.static y).before a0 Z = true) (w3 : (Cond.initialized y.cls).before a0 Z = true) (w4 : (Cond.code y bytes maxL ret).before a0 Z = true)
    (hy : y.cls ≠ "java/lang/invoke/MethodHandle" ∧ y.cls ≠ "java/lang/invoke/VarHandle") (hg : g.method = m) (hsize : g.locals.size = c.maxLocals) (hlen : ∀ sig, parseMethodDescriptor y.desc = some sig → argsL.length = sig.parameters.length)
    (hstack : g.stack = argsL.reverse ++ rest) (hd : decode c.code g.pc = .ok (.invokestatic index, 3)) {W : Nat} (hW : 2 * g.monitorRoom + (rest.map fun v => v.category).sum ≤ W) (hf : rm.frames + 1 ≤ R.frames) (hl : W + (maxL + 11) + rm.locals ≤ R.locals) (hc : cells + rm.cells ≤ R.cells) (hs : slots + rm.slots ≤ R.slots) :
    ∃ v T' L, Stand p l e R s m args below meth c T' (locs ++ L) (cells + rm.cells) (slots + rm.slots) ∧ P v T'.heap L ∧ ∀ target, Steps p.tables e below (T'.setTop { g with pc := g.pc + 3, stack := v.toList ++ rest }) target → Steps p.tables e below (T.setTop g) target := by
  obtain ⟨v, vm₁, ⟨T', L', k', n'⟩, -, X', ⟨L, hQ, q1, q2, q3⟩, st⟩ := Jvm.LawKit.callS X hx (y := y) hown (mvT hZ w1) (mvT hZ w2) (mvT hZ w3) (mvT hZ w4) hy (backOf (W := W) D hZ w4 w3 hf hl) hg hsize (argsL := argsL) (rest := rest) hlen hstack hW hd (fun _ _ => ⟨rfl, eT, hc, hs⟩)
  dsimp only [Pt.U, Pt.locs, Pt.cells, Pt.slots] at X' q1 q2 q3 st hQ
  subst q1 q2 q3
  exact ⟨v, T', L, X', hQ, st⟩
theorem Does.special {y : MethodName} {bytes : ByteArray} {maxL : Nat} {rm : Room} {P : Option Value → Heap → List Loc → Prop} {own : String} {index : Nat} {a : Addr} {argsL rest : List Value} (D : Does l Z y bytes maxL none [] rm (.ref a :: argsL).toArray h P)
    (X : Stand p l e R s m args below meth c T locs cells slots) (hx : p.tables.exec = Jvm.exec) (hZ : Z.Warmed39 s.vm) (hown : s.vm.findClass own = some m.cls) (eT : T.heap = h) (hnm : y.name = "<init>") (w1 : (Cond.methodLink own index y).before a0 Z = true) (w2 : (Cond.instanceMethod y).before a0 Z = true) (w3 : (Cond.initialized y.cls).before a0 Z = true) (w4 : (Cond.code y bytes maxL none).before a0 Z = true)
    (hy : y.cls ≠ "java/lang/invoke/MethodHandle" ∧ y.cls ≠ "java/lang/invoke/VarHandle") (hg : g.method = m) (hsize : g.locals.size = c.maxLocals) (hlen : ∀ sig, parseMethodDescriptor y.desc = some sig → argsL.length = sig.parameters.length)
    (hstack : g.stack = argsL.reverse ++ .ref a :: rest) (hd : decode c.code g.pc = .ok (.invokespecial index, 3)) {W : Nat} (hW : 2 * g.monitorRoom + (rest.map fun v => v.category).sum ≤ W) (hf : rm.frames + 1 ≤ R.frames) (hl : W + (maxL + 11) + rm.locals ≤ R.locals) (hc : cells + rm.cells ≤ R.cells) (hs : slots + rm.slots ≤ R.slots) :
    ∃ v T' L, Stand p l e R s m args below meth c T' (locs ++ L) (cells + rm.cells) (slots + rm.slots) ∧ P v T'.heap L ∧ ∀ target, Steps p.tables e below (T'.setTop { g with pc := g.pc + 3, stack := v.toList ++ rest }) target → Steps p.tables e below (T.setTop g) target := by
  obtain ⟨v, vm₁, ⟨T', L', k', n'⟩, -, X', ⟨L, hQ, q1, q2, q3⟩, st⟩ := X.specialBack hx (y := y) hnm hown (mvT hZ w1) (mvT hZ w2) (mvT hZ w4) hy (backOf (W := W) D hZ w4 w3 hf hl) hg hsize (Steps.refl _) (a := a) (argsL := argsL) (rest := rest) hlen hstack hW hd (fun _ _ => ⟨rfl, eT, hc, hs⟩)
  dsimp only [Pt.U, Pt.locs, Pt.cells, Pt.slots] at X' q1 q2 q3 st hQ
  subst q1 q2 q3
  exact ⟨v, T', L, X', hQ, fun _ k => st.trans k⟩
theorem Does.virtual {y : MethodName} {bytes : ByteArray} {maxL : Nat} {ret : Option FieldType} {rm : Room} {P : Option Value → Heap → List Loc → Prop} {own C : String} {index : Nat} {a : Addr} {argsL rest : List Value} (D : Does l Z y bytes maxL ret [] rm (.ref a :: argsL).toArray h P)
    (X : Stand p l e R s m args below meth c T locs cells slots) (hx : p.tables.exec = Jvm.exec) (hZ : Z.Warmed39 s.vm) (hown : s.vm.findClass own = some m.cls) (eT : T.heap = h) (E : Exa Z h a C) (w1 : (Cond.methodLink own index y).before a0 Z = true) (w2 : (Cond.declares y).before a0 Z = true) (w2' : (Cond.selects C y y).before a0 Z = true) (w2'' : (Cond.instanceMethod y).before a0 Z = true) (w3 : (Cond.initialized y.cls).before a0 Z = true) (w4 : (Cond.code y bytes maxL ret).before a0 Z = true)
    (hy : y.cls ≠ "java/lang/invoke/MethodHandle" ∧ y.cls ≠ "java/lang/invoke/VarHandle") (hg : g.method = m) (hsize : g.locals.size = c.maxLocals) (hlen : ∀ sig, parseMethodDescriptor y.desc = some sig → argsL.length = sig.parameters.length)
    (hstack : g.stack = argsL.reverse ++ .ref a :: rest) (hd : decode c.code g.pc = .ok (.invokevirtual index, 3)) {W : Nat} (hW : 2 * g.monitorRoom + (rest.map fun v => v.category).sum ≤ W) (hf : rm.frames + 1 ≤ R.frames) (hl : W + (maxL + 11) + rm.locals ≤ R.locals) (hc : cells + rm.cells ≤ R.cells) (hs : slots + rm.slots ≤ R.slots) :
    ∃ v T' L, Stand p l e R s m args below meth c T' (locs ++ L) (cells + rm.cells) (slots + rm.slots) ∧ P v T'.heap L ∧ ∀ target, Steps p.tables e below (T'.setTop { g with pc := g.pc + 3, stack := v.toList ++ rest }) target → Steps p.tables e below (T.setTop g) target := by
  obtain ⟨cB, kB, q1, -, q3⟩ := isOf hZ eT E
  obtain ⟨v, vm₁, ⟨T', L', k', n'⟩, -, X', ⟨L, hQ, q1, q2, q3⟩, st⟩ := X.virtualBack hx (y := y) (z := y) hown (mvT hZ w1) (mvT hZ w2) (notFace_of_selects (args := #[]) (mvT hZ w2')) (mvT hZ w2') (mvT hZ w2'') hy (backOf (W := W) D hZ w4 w3 hf hl) q1 q3 hg hsize (Steps.refl _) (argsL := argsL) (rest := rest) hlen hstack hW hd (fun _ _ => ⟨rfl, eT, hc, hs⟩)
  dsimp only [Pt.U, Pt.locs, Pt.cells, Pt.slots] at X' q1 q2 q3 st hQ
  subst q1 q2 q3
  exact ⟨v, T', L, X', hQ, fun _ k => st.trans k⟩
theorem Does.virtualUp {x' z : MethodName} {owner : String} {bytes : ByteArray} {maxL : Nat} {ret : Option FieldType} {rm : Room} {P : Option Value → Heap → List Loc → Prop} {own C : String} {index : Nat} {a : Addr} {argsL rest : List Value} (D : Does l Z z bytes maxL ret [] rm (.ref a :: argsL).toArray h P)
    (X : Stand p l e R s m args below meth c T locs cells slots) (hx : p.tables.exec = Jvm.exec) (hZ : Z.Warmed39 s.vm) (hown : s.vm.findClass own = some m.cls) (eT : T.heap = h) (E : Exa Z h a C) (w1 : (Cond.methodLink own index x').before a0 Z = true) (w1' : (Cond.sameMethod x'.cls owner x'.name x'.desc).before a0 Z = true) (w2 : (Cond.declares ⟨owner, x'.name, x'.desc⟩).before a0 Z = true) (w2' : (Cond.selects C x' z).before a0 Z = true) (w2'' : (Cond.instanceMethod z).before a0 Z = true) (w3 : (Cond.initialized z.cls).before a0 Z = true) (w4 : (Cond.code z bytes maxL ret).before a0 Z = true)
    (hy : owner ≠ "java/lang/invoke/MethodHandle" ∧ owner ≠ "java/lang/invoke/VarHandle") (hg : g.method = m) (hsize : g.locals.size = c.maxLocals) (hlen : ∀ sig, parseMethodDescriptor x'.desc = some sig → argsL.length = sig.parameters.length)
    (hstack : g.stack = argsL.reverse ++ .ref a :: rest) (hd : decode c.code g.pc = .ok (.invokevirtual index, 3)) {W : Nat} (hW : 2 * g.monitorRoom + (rest.map fun v => v.category).sum ≤ W) (hf : rm.frames + 1 ≤ R.frames) (hl : W + (maxL + 11) + rm.locals ≤ R.locals) (hc : cells + rm.cells ≤ R.cells) (hs : slots + rm.slots ≤ R.slots) :
    ∃ v T' L, Stand p l e R s m args below meth c T' (locs ++ L) (cells + rm.cells) (slots + rm.slots) ∧ P v T'.heap L ∧ ∀ target, Steps p.tables e below (T'.setTop { g with pc := g.pc + 3, stack := v.toList ++ rest }) target → Steps p.tables e below (T.setTop g) target := by
  obtain ⟨cB, kB, q1, -, q3⟩ := isOf hZ eT E
  obtain ⟨v, vm₁, ⟨T', L', k', n'⟩, -, X', ⟨L, hQ, q1, q2, q3⟩, st⟩ := X.virtualBackUp hx (x := x') (y := z) hown (mvT hZ w1) (mvT hZ w1') (mvT hZ w2) hy (mvT hZ w2') (mvT hZ w2'') (backOf (W := W) D hZ w4 w3 hf hl) q1 q3 hg hsize (Steps.refl _) (argsL := argsL) (rest := rest) hlen hstack hW hd (fun _ _ => ⟨rfl, eT, hc, hs⟩)
  dsimp only [Pt.U, Pt.locs, Pt.cells, Pt.slots] at X' q1 q2 q3 st hQ
  subst q1 q2 q3
  exact ⟨v, T', L, X', hQ, fun _ k => st.trans k⟩
/-- a call that leaves the heap as it was and returns w -/
abbrev Val (w : Option Value) (h : Heap) : Option Value → Heap → List Loc → Prop := fun v h' L => v = w ∧ L = [] ∧ h' = h
theorem own_still {w : Option Value} {rm : Room} {rest : List Value} (hc : rm.cells = 0) (hs : rm.slots = 0)
    (H : ∃ v T' L, Stand p l e R s m args below meth c T' (locs ++ L) (cells + rm.cells) (slots + rm.slots) ∧ Val w h v T'.heap L ∧ ∀ target, Steps p.tables e below (T'.setTop { g with pc := g.pc + 3, stack := v.toList ++ rest }) target → Steps p.tables e below (T.setTop g) target) :
    ∃ T', Stand p l e R s m args below meth c T' locs cells slots ∧ T'.heap = h ∧ ∀ target, Steps p.tables e below (T'.setTop { g with pc := g.pc + 3, stack := w.toList ++ rest }) target → Steps p.tables e below (T.setTop g) target := by
  obtain ⟨v, T', L, X', ⟨rfl, rfl, e'⟩, st⟩ := H
  rw [hc, hs, List.append_nil] at X'
  exact ⟨T', X', e', st⟩
theorem own_Llt {x y : Int64} (h : x < y) : XT.cmpL x y < 0 := (lw_lt x y).mpr h
theorem own_Lnlt {x y : Int64} (h : ¬ x < y) : ¬ XT.cmpL x y < 0 := fun q => h ((lw_lt x y).mp q)
theorem own_Lgt {x y : Int64} (h : y < x) : 0 < XT.cmpL x y := (lw_gt x y).mpr h
theorem own_Lngt {x y : Int64} (h : ¬ y < x) : ¬ 0 < XT.cmpL x y := fun q => h ((lw_gt x y).mp q)
theorem own_Leq {x y : Int64} (h : x = y) : XT.cmpL x y = 0 := (lw_eq x y).mpr h
theorem own_Lneq {x y : Int64} (h : ¬ x = y) : ¬ XT.cmpL x y = 0 := fun q => h ((lw_eq x y).mp q)
theorem own_aeq {a b : Addr} (h : a = b) : XT.acmp .eq (.ref a) (.ref b) = true ∧ XT.acmp .ne (.ref a) (.ref b) = false := by subst h; exact ⟨decide_eq_true rfl, decide_eq_false (fun q => q rfl)⟩
theorem own_ane {a b : Addr} (h : ¬ a = b) : XT.acmp .eq (.ref a) (.ref b) = false ∧ XT.acmp .ne (.ref a) (.ref b) = true := ⟨decide_eq_false (fun q => h (by cases q; rfl)), decide_eq_true (fun q => h (by cases q; rfl))⟩
theorem own_ext {h0 h : Heap} (K : Keep h0 h []) : Ext h0 h := ⟨K.1, fun x c q => K.2.1 x c q nin0⟩
end GoKit
theorem own_sta {Z : State} {args : Array Value} {C f d K : String} (h : (Jvm.Cond.exactly (.static C f d) K).value args Z none Z [] = some true) (wi : (Jvm.Cond.initialized C).before args Z = true) (wl : (Jvm.Cond.laysStatic C f d).before args Z = true) :
    ∃ x, (Term.static C f d).eval args Z none [] Z = some (.ref x) ∧ Sta Z Z.heap C f d (.ref x) ∧ Exa Z Z.heap x K := by
  obtain ⟨x, ev⟩ := exa_v h
  exact ⟨x, ev, Sta.start ev (Or.inr ⟨wi, wl⟩), Exa.start ev h⟩
theorem own_fldI {Z : State} {args : Array Value} {t : Term} {O n d : String} {k : Int32} {x : Addr} (ev : t.eval args Z none [] Z = some (.ref x)) (h : (Jvm.Cond.eq (.field t O n d) (.int k)).value args Z none Z [] = some true) : Fld Z Z.heap x O n d (.int k) := by
  obtain ⟨u, v, e1, e2, k1, -⟩ := cmp_v (Or.inl h)
  have e3 : v = .int k := by simpa [Term.eval] using e2.symm
  subst e3
  obtain ⟨z, rfl⟩ : ∃ z, u = .int z := by cases u <;> simp [Kin, Value.isRef] at k1 ⊢
  have q : z = k := gotT (Cond.eq_ints e1 e2) h
  subst q
  exact Fld.start ((fld_at ev).symm.trans e1)
def own_tell (z : Int64) : Int32 := if z < 1 then 0 else if 999999999999999999 < z then 0 else 1
theorem own_tell1 {z : Int64} (h1 : (0 : Int64) < z) (h2 : z < (1000000000000000000 : Int64)) : own_tell z = 1 := by
  simp only [own_tell, Int64.lt_iff_toInt_lt, Int64.reduceToInt] at *
  (repeat' split) <;> first | rfl | omega
theorem own_tella {z : Int64} (h1 : ¬ (0 : Int64) < z) : own_tell z = 0 := by
  simp only [own_tell, Int64.lt_iff_toInt_lt, Int64.reduceToInt] at *
  (repeat' split) <;> first | rfl | omega
theorem own_tellb {z : Int64} (h1 : ¬ z < (1000000000000000000 : Int64)) : own_tell z = 0 := by
  simp only [own_tell, Int64.lt_iff_toInt_lt, Int64.reduceToInt] at *
  (repeat' split) <;> first | rfl | omega
theorem d_prog_53_method_2_code_0 : decode prog_53_method_2_code 0 = .ok (.lload_n 0, 1) := by decide +kernel
theorem d_prog_53_method_2_code_1 : decode prog_53_method_2_code 1 = .ok (.lconst 1, 1) := by decide +kernel
theorem d_prog_53_method_2_code_2 : decode prog_53_method_2_code 2 = .ok (.lcmp, 1) := by decide +kernel
theorem d_prog_53_method_2_code_3 : decode prog_53_method_2_code 3 = .ok (.ifCond .lt 15, 3) := by decide +kernel
theorem d_prog_53_method_2_code_18 : decode prog_53_method_2_code 18 = .ok (.iconst 0, 1) := by decide +kernel
theorem d_prog_53_method_2_code_19 : decode prog_53_method_2_code 19 = .ok (.ireturn, 1) := by decide +kernel
theorem d_prog_53_method_2_code_6 : decode prog_53_method_2_code 6 = .ok (.lload_n 0, 1) := by decide +kernel
theorem d_prog_53_method_2_code_7 : decode prog_53_method_2_code 7 = .ok (.ldc2_w 11, 3) := by decide +kernel
theorem d_prog_53_method_2_code_10 : decode prog_53_method_2_code 10 = .ok (.lcmp, 1) := by decide +kernel
theorem d_prog_53_method_2_code_11 : decode prog_53_method_2_code 11 = .ok (.ifCond .gt 7, 3) := by decide +kernel
theorem d_prog_53_method_2_code_14 : decode prog_53_method_2_code 14 = .ok (.iconst 1, 1) := by decide +kernel
theorem d_prog_53_method_2_code_15 : decode prog_53_method_2_code 15 = .ok (.goto 4, 3) := by decide +kernel
theorem pn_ironwood_runtime_Clock : plainName "ironwood/runtime/Clock" = true := by first | (simp [plainName, overriddenIn]; done) | decide +kernel
theorem pd_28J29Z : parseMethodDescriptor "(J)Z" = some ⟨[.long], some .boolean⟩ := by decide +kernel
theorem pn_ironwood_runtime_ClockTellablePinLaw : plainName "ironwood/runtime/ClockTellablePinLaw" = true := by first | (simp [plainName, overriddenIn]; done) | decide +kernel
theorem ef_rmTell (x0 : Int64) (m : MethodId) : entryFrame m #[(.long x0)] 2 = mkF m 0 #[.val (.long x0), .second] [] := by first | (simp [entryFrame, mkF, argsToLocals, Value.category]; done) | rfl
set_option maxRecDepth 65536 in
set_option maxHeartbeats 40000000 in
theorem rmTell (l : Launch) (Z : State) (a0 : Array Value) (hw : ∀ d ∈ tables_1, d.before a0 Z = true) (p1 : Int64) (h0 : Heap) :
    Does l Z (⟨"ironwood/runtime/Clock", "tellable", "(J)Z"⟩ : MethodName) prog_53_method_2_code 2 (some .boolean) [] ({ frames := 0, cells := 0, slots := 0, locals := 0 } : Room) #[(.long p1)] h0 (Val (some (.int (own_tell p1))) h0) := by
  refine Does.intro pn_ironwood_runtime_Clock (ef_rmTell p1) ?_
  intro p e s m below meth c s₁ hx hby hml hown hnm hret hlk hZ e0 X0
  show Go p e below _ s₁ (mkF m 0 #[.val (.long p1), .second] [])
  refine Go.st (fun _ h => XT.lloadN X0.here hx rfl (hb hby d_prog_53_method_2_code_0) rfl h) ?_
  show Go p e below _ s₁ (mkF m 1 #[.val (.long p1), .second] [(.long p1)])
  refine Go.st (fun _ h => XT.lconstV X0.here hx rfl (1 : Int64) (hb hby d_prog_53_method_2_code_1) (by decide) h) ?_
  show Go p e below _ s₁ (mkF m 2 #[.val (.long p1), .second] [(.long (1 : Int64)), (.long p1)])
  refine Go.st (fun _ h => XT.lcmp X0.here hx rfl (hb hby d_prog_53_method_2_code_2) rfl h) ?_
  show Go p e below _ s₁ (mkF m 3 #[.val (.long p1), .second] [(.int (XT.cmpL p1 (1 : Int64)))])
  by_cases hc1 : p1 < (1 : Int64)
  · refine Go.st (fun _ h => XS.ifYes X0.here hx rfl (pc0 := 3) (pc' := 18) rfl (hb hby d_prog_53_method_2_code_3) rfl ((if0 _ _).trans (tlt (own_Llt hc1)).1) (by decide) (by decide) h) ?_
    show Go p e below _ s₁ (mkF m 18 #[.val (.long p1), .second] [])
    refine Go.st (fun _ h => XT.iconstV X0.here hx rfl (0 : Int32) (hb hby d_prog_53_method_2_code_18) (by decide) h) ?_
    show Go p e below _ s₁ (mkF m 19 #[.val (.long p1), .second] [(.int (0 : Int32))])
    refine Go.retZ X0 hx hlk hret rfl (hb hby d_prog_53_method_2_code_19) (by decide) (by decide) ?_
    exact ⟨by simp only [own_tell, hc1, if_true, if_false], rfl, e0⟩
  · refine Go.st (fun _ h => XS.ifNo X0.here hx rfl (hb hby d_prog_53_method_2_code_3) rfl ((if0 _ _).trans (flt (own_Lnlt hc1)).1) h) ?_
    show Go p e below _ s₁ (mkF m 6 #[.val (.long p1), .second] [])
    refine Go.st (fun _ h => XT.lloadN X0.here hx rfl (hb hby d_prog_53_method_2_code_6) rfl h) ?_
    show Go p e below _ s₁ (mkF m 7 #[.val (.long p1), .second] [(.long p1)])
    refine Go.st (fun _ h => X0.ldc2J hx hown (mvT hZ (hw _ (List.mem_of_getElem? (i := 7) rfl))) rfl (hb hby d_prog_53_method_2_code_7) h) ?_
    show Go p e below _ s₁ (mkF m 10 #[.val (.long p1), .second] [(.long (999999999999999999 : Int64)), (.long p1)])
    refine Go.st (fun _ h => XT.lcmp X0.here hx rfl (hb hby d_prog_53_method_2_code_10) rfl h) ?_
    show Go p e below _ s₁ (mkF m 11 #[.val (.long p1), .second] [(.int (XT.cmpL p1 (999999999999999999 : Int64)))])
    by_cases hc2 : (999999999999999999 : Int64) < p1
    · refine Go.st (fun _ h => XS.ifYes X0.here hx rfl (pc0 := 11) (pc' := 18) rfl (hb hby d_prog_53_method_2_code_11) rfl ((if0 _ _).trans (tlt (own_Lgt hc2)).2.2.1) (by decide) (by decide) h) ?_
      show Go p e below _ s₁ (mkF m 18 #[.val (.long p1), .second] [])
      refine Go.st (fun _ h => XT.iconstV X0.here hx rfl (0 : Int32) (hb hby d_prog_53_method_2_code_18) (by decide) h) ?_
      show Go p e below _ s₁ (mkF m 19 #[.val (.long p1), .second] [(.int (0 : Int32))])
      refine Go.retZ X0 hx hlk hret rfl (hb hby d_prog_53_method_2_code_19) (by decide) (by decide) ?_
      exact ⟨by simp only [own_tell, hc1, hc2, if_true, if_false], rfl, e0⟩
    · refine Go.st (fun _ h => XS.ifNo X0.here hx rfl (hb hby d_prog_53_method_2_code_11) rfl ((if0 _ _).trans (flt (own_Lngt hc2)).2.2.1) h) ?_
      show Go p e below _ s₁ (mkF m 14 #[.val (.long p1), .second] [])
      refine Go.st (fun _ h => XT.iconstV X0.here hx rfl (1 : Int32) (hb hby d_prog_53_method_2_code_14) (by decide) h) ?_
      show Go p e below _ s₁ (mkF m 15 #[.val (.long p1), .second] [(.int (1 : Int32))])
      refine Go.st (fun _ h => XS.goto X0.here hx rfl (pc0 := 15) (pc' := 19) rfl (hb hby d_prog_53_method_2_code_15) (by decide) (by decide) h) ?_
      show Go p e below _ s₁ (mkF m 19 #[.val (.long p1), .second] [(.int (1 : Int32))])
      refine Go.retZ X0 hx hlk hret rfl (hb hby d_prog_53_method_2_code_19) (by decide) (by decide) ?_
      exact ⟨by simp only [own_tell, hc1, hc2, if_true, if_false], rfl, e0⟩
theorem ef_rmLaw (x0 : Int64) (x1 : Int32) (m : MethodId) : entryFrame m #[(.long x0), (.int x1)] maxLocals = mkF m 0 #[.val (.long x0), .second, .val (.int x1), .unset, .unset, .unset, .unset, .unset, .unset] [] := by first | (simp [entryFrame, mkF, argsToLocals, Value.category, maxLocals]; done) | rfl
set_option maxRecDepth 65536 in
set_option maxHeartbeats 40000000 in
theorem rmLaw (l : Launch) (Z : State) (a0 : Array Value) (hw : ∀ d ∈ tables_1, d.before a0 Z = true) (p1 : Int64) (p2 : Int32) (h0 : Heap) (n0 : Nat) :
    Does l Z x code maxLocals ret tables_1 room_1 #[(.long p1), (.int p2)] h0 (fun v h L => v = some (.int 1) ∧ Fr n0 L) := by
  refine Does.intro pn_ironwood_runtime_ClockTellablePinLaw (ef_rmLaw p1 p2) ?_
  intro p e s m below meth c s₁ hx hby hml hown hnm hret hlk hZ e0 X0
  show Go p e below _ s₁ (mkF m 0 #[.val (.long p1), .second, .val (.int p2), .unset, .unset, .unset, .unset, .unset, .unset] [])
  refine Go.st (fun _ h => XS.iloadN X0.here hx rfl (hb hby at_0) rfl h) ?_
  show Go p e below _ s₁ (mkF m 1 #[.val (.long p1), .second, .val (.int p2), .unset, .unset, .unset, .unset, .unset, .unset] [(.int p2)])
  refine Go.st (fun _ h => XT.iconstV X0.here hx rfl (3 : Int32) (hb hby at_1) (by decide) h) ?_
  show Go p e below _ s₁ (mkF m 2 #[.val (.long p1), .second, .val (.int p2), .unset, .unset, .unset, .unset, .unset, .unset] [(.int (3 : Int32)), (.int p2)])
  refine Go.st (fun _ h => XS.iand X0.here hx rfl (hb hby at_2) rfl h) ?_
  show Go p e below _ s₁ (mkF m 3 #[.val (.long p1), .second, .val (.int p2), .unset, .unset, .unset, .unset, .unset, .unset] [(.int (p2 &&& (3 : Int32)))])
  refine Go.st (fun _ h => XS.istoreN X0.here hx rfl (hb hby at_3) rfl (l' := #[.val (.long p1), .second, .val (.int p2), .val (.int (p2 &&& (3 : Int32))), .unset, .unset, .unset, .unset, .unset]) rfl h) ?_
  show Go p e below _ s₁ (mkF m 4 #[.val (.long p1), .second, .val (.int p2), .val (.int (p2 &&& (3 : Int32))), .unset, .unset, .unset, .unset, .unset] [])
  refine Go.st (fun _ h => XT.lloadN X0.here hx rfl (hb hby at_4) rfl h) ?_
  show Go p e below _ s₁ (mkF m 5 #[.val (.long p1), .second, .val (.int p2), .val (.int (p2 &&& (3 : Int32))), .unset, .unset, .unset, .unset, .unset] [(.long p1)])
  refine Go.st (fun _ h => X0.ldc2J hx hown (mvT hZ (hw _ (List.mem_of_getElem? (i := 0) rfl))) rfl (hb hby at_5) h) ?_
  show Go p e below _ s₁ (mkF m 8 #[.val (.long p1), .second, .val (.int p2), .val (.int (p2 &&& (3 : Int32))), .unset, .unset, .unset, .unset, .unset] [(.long (4 : Int64)), (.long p1)])
  refine Go.st (fun _ h => XT.lrem X0.here hx rfl (hb hby at_8) rfl (by decide) h) ?_
  show Go p e below _ s₁ (mkF m 9 #[.val (.long p1), .second, .val (.int p2), .val (.int (p2 &&& (3 : Int32))), .unset, .unset, .unset, .unset, .unset] [(.long (p1 - (p1 / (4 : Int64)) * (4 : Int64)))])
  refine Go.st (fun _ h => XT.lstore X0.here hx rfl (hb hby at_9) rfl (l' := #[.val (.long p1), .second, .val (.int p2), .val (.int (p2 &&& (3 : Int32))), .val (.long (p1 - (p1 / (4 : Int64)) * (4 : Int64))), .second, .unset, .unset, .unset]) rfl h) ?_
  show Go p e below _ s₁ (mkF m 11 #[.val (.long p1), .second, .val (.int p2), .val (.int (p2 &&& (3 : Int32))), .val (.long (p1 - (p1 / (4 : Int64)) * (4 : Int64))), .second, .unset, .unset, .unset] [])
  have K : ∀ z : Int64, Go p e below (Ends s room_1.cells room_1.slots (fun v h L => v = some (.int 1) ∧ Fr n0 L)) s₁ (mkF m 70 #[.val (.long p1), .second, .val (.int p2), .val (.int (p2 &&& (3 : Int32))), .val (.long (p1 - (p1 / (4 : Int64)) * (4 : Int64))), .second, .val (.long z), .second, .unset] []) := by
    intro z
    refine Go.st (fun _ h => XT.lload X0.here hx rfl (hb hby at_70) rfl h) ?_
    show Go p e below _ s₁ (mkF m 72 #[.val (.long p1), .second, .val (.int p2), .val (.int (p2 &&& (3 : Int32))), .val (.long (p1 - (p1 / (4 : Int64)) * (4 : Int64))), .second, .val (.long z), .second, .unset] [(.long z)])
    refine Go.st (fun _ h => XT.lconstV X0.here hx rfl (0 : Int64) (hb hby at_72) (by decide) h) ?_
    show Go p e below _ s₁ (mkF m 73 #[.val (.long p1), .second, .val (.int p2), .val (.int (p2 &&& (3 : Int32))), .val (.long (p1 - (p1 / (4 : Int64)) * (4 : Int64))), .second, .val (.long z), .second, .unset] [(.long (0 : Int64)), (.long z)])
    refine Go.st (fun _ h => XT.lcmp X0.here hx rfl (hb hby at_73) rfl h) ?_
    show Go p e below _ s₁ (mkF m 74 #[.val (.long p1), .second, .val (.int p2), .val (.int (p2 &&& (3 : Int32))), .val (.long (p1 - (p1 / (4 : Int64)) * (4 : Int64))), .second, .val (.long z), .second, .unset] [(.int (XT.cmpL z (0 : Int64)))])
    by_cases hc1 : (0 : Int64) < z
    · refine Go.st (fun _ h => XS.ifNo X0.here hx rfl (hb hby at_74) rfl ((if0 _ _).trans (tlt (own_Lgt hc1)).2.2.2) h) ?_
      show Go p e below _ s₁ (mkF m 77 #[.val (.long p1), .second, .val (.int p2), .val (.int (p2 &&& (3 : Int32))), .val (.long (p1 - (p1 / (4 : Int64)) * (4 : Int64))), .second, .val (.long z), .second, .unset] [])
      refine Go.st (fun _ h => XT.lload X0.here hx rfl (hb hby at_77) rfl h) ?_
      show Go p e below _ s₁ (mkF m 79 #[.val (.long p1), .second, .val (.int p2), .val (.int (p2 &&& (3 : Int32))), .val (.long (p1 - (p1 / (4 : Int64)) * (4 : Int64))), .second, .val (.long z), .second, .unset] [(.long z)])
      refine Go.st (fun _ h => X0.ldc2J hx hown (mvT hZ (hw _ (List.mem_of_getElem? (i := 2) rfl))) rfl (hb hby at_79) h) ?_
      show Go p e below _ s₁ (mkF m 82 #[.val (.long p1), .second, .val (.int p2), .val (.int (p2 &&& (3 : Int32))), .val (.long (p1 - (p1 / (4 : Int64)) * (4 : Int64))), .second, .val (.long z), .second, .unset] [(.long (1000000000000000000 : Int64)), (.long z)])
      refine Go.st (fun _ h => XT.lcmp X0.here hx rfl (hb hby at_82) rfl h) ?_
      show Go p e below _ s₁ (mkF m 83 #[.val (.long p1), .second, .val (.int p2), .val (.int (p2 &&& (3 : Int32))), .val (.long (p1 - (p1 / (4 : Int64)) * (4 : Int64))), .second, .val (.long z), .second, .unset] [(.int (XT.cmpL z (1000000000000000000 : Int64)))])
      by_cases hc2 : z < (1000000000000000000 : Int64)
      · refine Go.st (fun _ h => XS.ifNo X0.here hx rfl (hb hby at_83) rfl ((if0 _ _).trans (tlt (own_Llt hc2)).2.1) h) ?_
        show Go p e below _ s₁ (mkF m 86 #[.val (.long p1), .second, .val (.int p2), .val (.int (p2 &&& (3 : Int32))), .val (.long (p1 - (p1 / (4 : Int64)) * (4 : Int64))), .second, .val (.long z), .second, .unset] [])
        refine Go.st (fun _ h => XT.iconstV X0.here hx rfl (1 : Int32) (hb hby at_86) (by decide) h) ?_
        show Go p e below _ s₁ (mkF m 87 #[.val (.long p1), .second, .val (.int p2), .val (.int (p2 &&& (3 : Int32))), .val (.long (p1 - (p1 / (4 : Int64)) * (4 : Int64))), .second, .val (.long z), .second, .unset] [(.int (1 : Int32))])
        refine Go.st (fun _ h => XS.goto X0.here hx rfl (pc0 := 87) (pc' := 91) rfl (hb hby at_87) (by decide) (by decide) h) ?_
        show Go p e below _ s₁ (mkF m 91 #[.val (.long p1), .second, .val (.int p2), .val (.int (p2 &&& (3 : Int32))), .val (.long (p1 - (p1 / (4 : Int64)) * (4 : Int64))), .second, .val (.long z), .second, .unset] [(.int (1 : Int32))])
        refine Go.st (fun _ h => XS.istore X0.here hx rfl (hb hby at_91) rfl (l' := #[.val (.long p1), .second, .val (.int p2), .val (.int (p2 &&& (3 : Int32))), .val (.long (p1 - (p1 / (4 : Int64)) * (4 : Int64))), .second, .val (.long z), .second, .val (.int (1 : Int32))]) rfl h) ?_
        show Go p e below _ s₁ (mkF m 93 #[.val (.long p1), .second, .val (.int p2), .val (.int (p2 &&& (3 : Int32))), .val (.long (p1 - (p1 / (4 : Int64)) * (4 : Int64))), .second, .val (.long z), .second, .val (.int (1 : Int32))] [])
        refine Go.st (fun _ h => XT.lload X0.here hx rfl (hb hby at_93) rfl h) ?_
        show Go p e below _ s₁ (mkF m 95 #[.val (.long p1), .second, .val (.int p2), .val (.int (p2 &&& (3 : Int32))), .val (.long (p1 - (p1 / (4 : Int64)) * (4 : Int64))), .second, .val (.long z), .second, .val (.int (1 : Int32))] [(.long z)])
        obtain ⟨T3, X3, e3, st3⟩ := own_still rfl rfl (Does.static (y := (⟨"ironwood/runtime/Clock", "tellable", "(J)Z"⟩ : MethodName)) (g := (mkF m 95 #[.val (.long p1), .second, .val (.int p2), .val (.int (p2 &&& (3 : Int32))), .val (.long (p1 - (p1 / (4 : Int64)) * (4 : Int64))), .second, .val (.long z), .second, .val (.int (1 : Int32))] [(.long z)])) (rmTell l Z a0 hw z h0) X0 hx hZ hown e0 (hw _ (List.mem_of_getElem? (i := 3) rfl)) (hw _ (List.mem_of_getElem? (i := 4) rfl)) (hw _ (List.mem_of_getElem? (i := 5) rfl)) (hw _ (List.mem_of_getElem? (i := 6) rfl)) (by decide) rfl (by rw [hml]; rfl) (argsL := [(.long z)]) (rest := []) (lenOf pd_28J29Z rfl) rfl (hb hby at_95) (W := 0) (by show 2 * 0 + _ ≤ _; exact Nat.le_of_eq rfl) (by decide) (by decide) (by decide) (by decide))
        refine Go.st st3 ?_
        show Go p e below _ T3 (mkF m 98 #[.val (.long p1), .second, .val (.int p2), .val (.int (p2 &&& (3 : Int32))), .val (.long (p1 - (p1 / (4 : Int64)) * (4 : Int64))), .second, .val (.long z), .second, .val (.int (1 : Int32))] [(.int (own_tell z))])
        refine Go.st (fun _ h => XS.iload X3.here hx rfl (hb hby at_98) rfl h) ?_
        show Go p e below _ T3 (mkF m 100 #[.val (.long p1), .second, .val (.int p2), .val (.int (p2 &&& (3 : Int32))), .val (.long (p1 - (p1 / (4 : Int64)) * (4 : Int64))), .second, .val (.long z), .second, .val (.int (1 : Int32))] [(.int (1 : Int32)), (.int (own_tell z))])
        refine Go.st (fun _ h => XS.icmpNo X3.here hx rfl (hb hby at_100) rfl ((teq (own_tell1 hc1 hc2 : (own_tell z) = (1 : Int32))).2) h) ?_
        show Go p e below _ T3 (mkF m 103 #[.val (.long p1), .second, .val (.int p2), .val (.int (p2 &&& (3 : Int32))), .val (.long (p1 - (p1 / (4 : Int64)) * (4 : Int64))), .second, .val (.long z), .second, .val (.int (1 : Int32))] [])
        refine Go.st (fun _ h => XT.iconstV X3.here hx rfl (1 : Int32) (hb hby at_103) (by decide) h) ?_
        show Go p e below _ T3 (mkF m 104 #[.val (.long p1), .second, .val (.int p2), .val (.int (p2 &&& (3 : Int32))), .val (.long (p1 - (p1 / (4 : Int64)) * (4 : Int64))), .second, .val (.long z), .second, .val (.int (1 : Int32))] [(.int (1 : Int32))])
        refine Go.st (fun _ h => XS.goto X3.here hx rfl (pc0 := 104) (pc' := 108) rfl (hb hby at_104) (by decide) (by decide) h) ?_
        show Go p e below _ T3 (mkF m 108 #[.val (.long p1), .second, .val (.int p2), .val (.int (p2 &&& (3 : Int32))), .val (.long (p1 - (p1 / (4 : Int64)) * (4 : Int64))), .second, .val (.long z), .second, .val (.int (1 : Int32))] [(.int (1 : Int32))])
        refine Go.retZ X3 hx hlk hret rfl (hb hby at_108) (by decide) (by decide) ?_
        exact ⟨rfl, Fr.nil _⟩
      · refine Go.st (fun _ h => XS.ifYes X0.here hx rfl (pc0 := 83) (pc' := 90) rfl (hb hby at_83) rfl ((if0 _ _).trans (flt (own_Lnlt hc2)).2.1) (by decide) (by decide) h) ?_
        show Go p e below _ s₁ (mkF m 90 #[.val (.long p1), .second, .val (.int p2), .val (.int (p2 &&& (3 : Int32))), .val (.long (p1 - (p1 / (4 : Int64)) * (4 : Int64))), .second, .val (.long z), .second, .unset] [])
        refine Go.st (fun _ h => XT.iconstV X0.here hx rfl (0 : Int32) (hb hby at_90) (by decide) h) ?_
        show Go p e below _ s₁ (mkF m 91 #[.val (.long p1), .second, .val (.int p2), .val (.int (p2 &&& (3 : Int32))), .val (.long (p1 - (p1 / (4 : Int64)) * (4 : Int64))), .second, .val (.long z), .second, .unset] [(.int (0 : Int32))])
        refine Go.st (fun _ h => XS.istore X0.here hx rfl (hb hby at_91) rfl (l' := #[.val (.long p1), .second, .val (.int p2), .val (.int (p2 &&& (3 : Int32))), .val (.long (p1 - (p1 / (4 : Int64)) * (4 : Int64))), .second, .val (.long z), .second, .val (.int (0 : Int32))]) rfl h) ?_
        show Go p e below _ s₁ (mkF m 93 #[.val (.long p1), .second, .val (.int p2), .val (.int (p2 &&& (3 : Int32))), .val (.long (p1 - (p1 / (4 : Int64)) * (4 : Int64))), .second, .val (.long z), .second, .val (.int (0 : Int32))] [])
        refine Go.st (fun _ h => XT.lload X0.here hx rfl (hb hby at_93) rfl h) ?_
        show Go p e below _ s₁ (mkF m 95 #[.val (.long p1), .second, .val (.int p2), .val (.int (p2 &&& (3 : Int32))), .val (.long (p1 - (p1 / (4 : Int64)) * (4 : Int64))), .second, .val (.long z), .second, .val (.int (0 : Int32))] [(.long z)])
        obtain ⟨T4, X4, e4, st4⟩ := own_still rfl rfl (Does.static (y := (⟨"ironwood/runtime/Clock", "tellable", "(J)Z"⟩ : MethodName)) (g := (mkF m 95 #[.val (.long p1), .second, .val (.int p2), .val (.int (p2 &&& (3 : Int32))), .val (.long (p1 - (p1 / (4 : Int64)) * (4 : Int64))), .second, .val (.long z), .second, .val (.int (0 : Int32))] [(.long z)])) (rmTell l Z a0 hw z h0) X0 hx hZ hown e0 (hw _ (List.mem_of_getElem? (i := 3) rfl)) (hw _ (List.mem_of_getElem? (i := 4) rfl)) (hw _ (List.mem_of_getElem? (i := 5) rfl)) (hw _ (List.mem_of_getElem? (i := 6) rfl)) (by decide) rfl (by rw [hml]; rfl) (argsL := [(.long z)]) (rest := []) (lenOf pd_28J29Z rfl) rfl (hb hby at_95) (W := 0) (by show 2 * 0 + _ ≤ _; exact Nat.le_of_eq rfl) (by decide) (by decide) (by decide) (by decide))
        refine Go.st st4 ?_
        show Go p e below _ T4 (mkF m 98 #[.val (.long p1), .second, .val (.int p2), .val (.int (p2 &&& (3 : Int32))), .val (.long (p1 - (p1 / (4 : Int64)) * (4 : Int64))), .second, .val (.long z), .second, .val (.int (0 : Int32))] [(.int (own_tell z))])
        refine Go.st (fun _ h => XS.iload X4.here hx rfl (hb hby at_98) rfl h) ?_
        show Go p e below _ T4 (mkF m 100 #[.val (.long p1), .second, .val (.int p2), .val (.int (p2 &&& (3 : Int32))), .val (.long (p1 - (p1 / (4 : Int64)) * (4 : Int64))), .second, .val (.long z), .second, .val (.int (0 : Int32))] [(.int (0 : Int32)), (.int (own_tell z))])
        refine Go.st (fun _ h => XS.icmpNo X4.here hx rfl (hb hby at_100) rfl ((teq (own_tellb hc2 : (own_tell z) = (0 : Int32))).2) h) ?_
        show Go p e below _ T4 (mkF m 103 #[.val (.long p1), .second, .val (.int p2), .val (.int (p2 &&& (3 : Int32))), .val (.long (p1 - (p1 / (4 : Int64)) * (4 : Int64))), .second, .val (.long z), .second, .val (.int (0 : Int32))] [])
        refine Go.st (fun _ h => XT.iconstV X4.here hx rfl (1 : Int32) (hb hby at_103) (by decide) h) ?_
        show Go p e below _ T4 (mkF m 104 #[.val (.long p1), .second, .val (.int p2), .val (.int (p2 &&& (3 : Int32))), .val (.long (p1 - (p1 / (4 : Int64)) * (4 : Int64))), .second, .val (.long z), .second, .val (.int (0 : Int32))] [(.int (1 : Int32))])
        refine Go.st (fun _ h => XS.goto X4.here hx rfl (pc0 := 104) (pc' := 108) rfl (hb hby at_104) (by decide) (by decide) h) ?_
        show Go p e below _ T4 (mkF m 108 #[.val (.long p1), .second, .val (.int p2), .val (.int (p2 &&& (3 : Int32))), .val (.long (p1 - (p1 / (4 : Int64)) * (4 : Int64))), .second, .val (.long z), .second, .val (.int (0 : Int32))] [(.int (1 : Int32))])
        refine Go.retZ X4 hx hlk hret rfl (hb hby at_108) (by decide) (by decide) ?_
        exact ⟨rfl, Fr.nil _⟩
    · refine Go.st (fun _ h => XS.ifYes X0.here hx rfl (pc0 := 74) (pc' := 90) rfl (hb hby at_74) rfl ((if0 _ _).trans (flt (own_Lngt hc1)).2.2.2) (by decide) (by decide) h) ?_
      show Go p e below _ s₁ (mkF m 90 #[.val (.long p1), .second, .val (.int p2), .val (.int (p2 &&& (3 : Int32))), .val (.long (p1 - (p1 / (4 : Int64)) * (4 : Int64))), .second, .val (.long z), .second, .unset] [])
      refine Go.st (fun _ h => XT.iconstV X0.here hx rfl (0 : Int32) (hb hby at_90) (by decide) h) ?_
      show Go p e below _ s₁ (mkF m 91 #[.val (.long p1), .second, .val (.int p2), .val (.int (p2 &&& (3 : Int32))), .val (.long (p1 - (p1 / (4 : Int64)) * (4 : Int64))), .second, .val (.long z), .second, .unset] [(.int (0 : Int32))])
      refine Go.st (fun _ h => XS.istore X0.here hx rfl (hb hby at_91) rfl (l' := #[.val (.long p1), .second, .val (.int p2), .val (.int (p2 &&& (3 : Int32))), .val (.long (p1 - (p1 / (4 : Int64)) * (4 : Int64))), .second, .val (.long z), .second, .val (.int (0 : Int32))]) rfl h) ?_
      show Go p e below _ s₁ (mkF m 93 #[.val (.long p1), .second, .val (.int p2), .val (.int (p2 &&& (3 : Int32))), .val (.long (p1 - (p1 / (4 : Int64)) * (4 : Int64))), .second, .val (.long z), .second, .val (.int (0 : Int32))] [])
      refine Go.st (fun _ h => XT.lload X0.here hx rfl (hb hby at_93) rfl h) ?_
      show Go p e below _ s₁ (mkF m 95 #[.val (.long p1), .second, .val (.int p2), .val (.int (p2 &&& (3 : Int32))), .val (.long (p1 - (p1 / (4 : Int64)) * (4 : Int64))), .second, .val (.long z), .second, .val (.int (0 : Int32))] [(.long z)])
      obtain ⟨T5, X5, e5, st5⟩ := own_still rfl rfl (Does.static (y := (⟨"ironwood/runtime/Clock", "tellable", "(J)Z"⟩ : MethodName)) (g := (mkF m 95 #[.val (.long p1), .second, .val (.int p2), .val (.int (p2 &&& (3 : Int32))), .val (.long (p1 - (p1 / (4 : Int64)) * (4 : Int64))), .second, .val (.long z), .second, .val (.int (0 : Int32))] [(.long z)])) (rmTell l Z a0 hw z h0) X0 hx hZ hown e0 (hw _ (List.mem_of_getElem? (i := 3) rfl)) (hw _ (List.mem_of_getElem? (i := 4) rfl)) (hw _ (List.mem_of_getElem? (i := 5) rfl)) (hw _ (List.mem_of_getElem? (i := 6) rfl)) (by decide) rfl (by rw [hml]; rfl) (argsL := [(.long z)]) (rest := []) (lenOf pd_28J29Z rfl) rfl (hb hby at_95) (W := 0) (by show 2 * 0 + _ ≤ _; exact Nat.le_of_eq rfl) (by decide) (by decide) (by decide) (by decide))
      refine Go.st st5 ?_
      show Go p e below _ T5 (mkF m 98 #[.val (.long p1), .second, .val (.int p2), .val (.int (p2 &&& (3 : Int32))), .val (.long (p1 - (p1 / (4 : Int64)) * (4 : Int64))), .second, .val (.long z), .second, .val (.int (0 : Int32))] [(.int (own_tell z))])
      refine Go.st (fun _ h => XS.iload X5.here hx rfl (hb hby at_98) rfl h) ?_
      show Go p e below _ T5 (mkF m 100 #[.val (.long p1), .second, .val (.int p2), .val (.int (p2 &&& (3 : Int32))), .val (.long (p1 - (p1 / (4 : Int64)) * (4 : Int64))), .second, .val (.long z), .second, .val (.int (0 : Int32))] [(.int (0 : Int32)), (.int (own_tell z))])
      refine Go.st (fun _ h => XS.icmpNo X5.here hx rfl (hb hby at_100) rfl ((teq (own_tella hc1 : (own_tell z) = (0 : Int32))).2) h) ?_
      show Go p e below _ T5 (mkF m 103 #[.val (.long p1), .second, .val (.int p2), .val (.int (p2 &&& (3 : Int32))), .val (.long (p1 - (p1 / (4 : Int64)) * (4 : Int64))), .second, .val (.long z), .second, .val (.int (0 : Int32))] [])
      refine Go.st (fun _ h => XT.iconstV X5.here hx rfl (1 : Int32) (hb hby at_103) (by decide) h) ?_
      show Go p e below _ T5 (mkF m 104 #[.val (.long p1), .second, .val (.int p2), .val (.int (p2 &&& (3 : Int32))), .val (.long (p1 - (p1 / (4 : Int64)) * (4 : Int64))), .second, .val (.long z), .second, .val (.int (0 : Int32))] [(.int (1 : Int32))])
      refine Go.st (fun _ h => XS.goto X5.here hx rfl (pc0 := 104) (pc' := 108) rfl (hb hby at_104) (by decide) (by decide) h) ?_
      show Go p e below _ T5 (mkF m 108 #[.val (.long p1), .second, .val (.int p2), .val (.int (p2 &&& (3 : Int32))), .val (.long (p1 - (p1 / (4 : Int64)) * (4 : Int64))), .second, .val (.long z), .second, .val (.int (0 : Int32))] [(.int (1 : Int32))])
      refine Go.retZ X5 hx hlk hret rfl (hb hby at_108) (by decide) (by decide) ?_
      exact ⟨rfl, Fr.nil _⟩
  refine Go.st (fun _ h => XS.iloadN X0.here hx rfl (hb hby at_11) rfl h) ?_
  show Go p e below _ s₁ (mkF m 12 #[.val (.long p1), .second, .val (.int p2), .val (.int (p2 &&& (3 : Int32))), .val (.long (p1 - (p1 / (4 : Int64)) * (4 : Int64))), .second, .unset, .unset, .unset] [(.int (p2 &&& (3 : Int32)))])
  by_cases hc6 : (p2 &&& (3 : Int32)) = (0 : Int32)
  · refine Go.st (fun _ h => XS.ifNo X0.here hx rfl (hb hby at_12) rfl ((if0 _ _).trans (teq hc6).2) h) ?_
    show Go p e below _ s₁ (mkF m 15 #[.val (.long p1), .second, .val (.int p2), .val (.int (p2 &&& (3 : Int32))), .val (.long (p1 - (p1 / (4 : Int64)) * (4 : Int64))), .second, .unset, .unset, .unset] [])
    refine Go.st (fun _ h => XT.lloadN X0.here hx rfl (hb hby at_15) rfl h) ?_
    show Go p e below _ s₁ (mkF m 16 #[.val (.long p1), .second, .val (.int p2), .val (.int (p2 &&& (3 : Int32))), .val (.long (p1 - (p1 / (4 : Int64)) * (4 : Int64))), .second, .unset, .unset, .unset] [(.long p1)])
    refine Go.st (fun _ h => XT.lstore X0.here hx rfl (hb hby at_16) rfl (l' := #[.val (.long p1), .second, .val (.int p2), .val (.int (p2 &&& (3 : Int32))), .val (.long (p1 - (p1 / (4 : Int64)) * (4 : Int64))), .second, .val (.long p1), .second, .unset]) rfl h) ?_
    show Go p e below _ s₁ (mkF m 18 #[.val (.long p1), .second, .val (.int p2), .val (.int (p2 &&& (3 : Int32))), .val (.long (p1 - (p1 / (4 : Int64)) * (4 : Int64))), .second, .val (.long p1), .second, .unset] [])
    refine Go.st (fun _ h => XS.goto X0.here hx rfl (pc0 := 18) (pc' := 70) rfl (hb hby at_18) (by decide) (by decide) h) ?_
    show Go p e below _ s₁ (mkF m 70 #[.val (.long p1), .second, .val (.int p2), .val (.int (p2 &&& (3 : Int32))), .val (.long (p1 - (p1 / (4 : Int64)) * (4 : Int64))), .second, .val (.long p1), .second, .unset] [])
    exact K _
  · refine Go.st (fun _ h => XS.ifYes X0.here hx rfl (pc0 := 12) (pc' := 21) rfl (hb hby at_12) rfl ((if0 _ _).trans (feq hc6).2) (by decide) (by decide) h) ?_
    show Go p e below _ s₁ (mkF m 21 #[.val (.long p1), .second, .val (.int p2), .val (.int (p2 &&& (3 : Int32))), .val (.long (p1 - (p1 / (4 : Int64)) * (4 : Int64))), .second, .unset, .unset, .unset] [])
    refine Go.st (fun _ h => XS.iloadN X0.here hx rfl (hb hby at_21) rfl h) ?_
    show Go p e below _ s₁ (mkF m 22 #[.val (.long p1), .second, .val (.int p2), .val (.int (p2 &&& (3 : Int32))), .val (.long (p1 - (p1 / (4 : Int64)) * (4 : Int64))), .second, .unset, .unset, .unset] [(.int (p2 &&& (3 : Int32)))])
    refine Go.st (fun _ h => XT.iconstV X0.here hx rfl (1 : Int32) (hb hby at_22) (by decide) h) ?_
    show Go p e below _ s₁ (mkF m 23 #[.val (.long p1), .second, .val (.int p2), .val (.int (p2 &&& (3 : Int32))), .val (.long (p1 - (p1 / (4 : Int64)) * (4 : Int64))), .second, .unset, .unset, .unset] [(.int (1 : Int32)), (.int (p2 &&& (3 : Int32)))])
    by_cases hc7 : (p2 &&& (3 : Int32)) = (1 : Int32)
    · refine Go.st (fun _ h => XS.icmpNo X0.here hx rfl (hb hby at_23) rfl ((teq hc7).2) h) ?_
      show Go p e below _ s₁ (mkF m 26 #[.val (.long p1), .second, .val (.int p2), .val (.int (p2 &&& (3 : Int32))), .val (.long (p1 - (p1 / (4 : Int64)) * (4 : Int64))), .second, .unset, .unset, .unset] [])
      refine Go.st (fun _ h => XT.lload X0.here hx rfl (hb hby at_26) rfl h) ?_
      show Go p e below _ s₁ (mkF m 28 #[.val (.long p1), .second, .val (.int p2), .val (.int (p2 &&& (3 : Int32))), .val (.long (p1 - (p1 / (4 : Int64)) * (4 : Int64))), .second, .unset, .unset, .unset] [(.long (p1 - (p1 / (4 : Int64)) * (4 : Int64)))])
      refine Go.st (fun _ h => XT.lstore X0.here hx rfl (hb hby at_28) rfl (l' := #[.val (.long p1), .second, .val (.int p2), .val (.int (p2 &&& (3 : Int32))), .val (.long (p1 - (p1 / (4 : Int64)) * (4 : Int64))), .second, .val (.long (p1 - (p1 / (4 : Int64)) * (4 : Int64))), .second, .unset]) rfl h) ?_
      show Go p e below _ s₁ (mkF m 30 #[.val (.long p1), .second, .val (.int p2), .val (.int (p2 &&& (3 : Int32))), .val (.long (p1 - (p1 / (4 : Int64)) * (4 : Int64))), .second, .val (.long (p1 - (p1 / (4 : Int64)) * (4 : Int64))), .second, .unset] [])
      refine Go.st (fun _ h => XS.goto X0.here hx rfl (pc0 := 30) (pc' := 70) rfl (hb hby at_30) (by decide) (by decide) h) ?_
      show Go p e below _ s₁ (mkF m 70 #[.val (.long p1), .second, .val (.int p2), .val (.int (p2 &&& (3 : Int32))), .val (.long (p1 - (p1 / (4 : Int64)) * (4 : Int64))), .second, .val (.long (p1 - (p1 / (4 : Int64)) * (4 : Int64))), .second, .unset] [])
      exact K _
    · refine Go.st (fun _ h => XS.icmpYes X0.here hx rfl (pc0 := 23) (pc' := 33) rfl (hb hby at_23) rfl ((feq hc7).2) (by decide) (by decide) h) ?_
      show Go p e below _ s₁ (mkF m 33 #[.val (.long p1), .second, .val (.int p2), .val (.int (p2 &&& (3 : Int32))), .val (.long (p1 - (p1 / (4 : Int64)) * (4 : Int64))), .second, .unset, .unset, .unset] [])
      refine Go.st (fun _ h => XS.iloadN X0.here hx rfl (hb hby at_33) rfl h) ?_
      show Go p e below _ s₁ (mkF m 34 #[.val (.long p1), .second, .val (.int p2), .val (.int (p2 &&& (3 : Int32))), .val (.long (p1 - (p1 / (4 : Int64)) * (4 : Int64))), .second, .unset, .unset, .unset] [(.int (p2 &&& (3 : Int32)))])
      refine Go.st (fun _ h => XT.iconstV X0.here hx rfl (2 : Int32) (hb hby at_34) (by decide) h) ?_
      show Go p e below _ s₁ (mkF m 35 #[.val (.long p1), .second, .val (.int p2), .val (.int (p2 &&& (3 : Int32))), .val (.long (p1 - (p1 / (4 : Int64)) * (4 : Int64))), .second, .unset, .unset, .unset] [(.int (2 : Int32)), (.int (p2 &&& (3 : Int32)))])
      by_cases hc8 : (p2 &&& (3 : Int32)) = (2 : Int32)
      · refine Go.st (fun _ h => XS.icmpNo X0.here hx rfl (hb hby at_35) rfl ((teq hc8).2) h) ?_
        show Go p e below _ s₁ (mkF m 38 #[.val (.long p1), .second, .val (.int p2), .val (.int (p2 &&& (3 : Int32))), .val (.long (p1 - (p1 / (4 : Int64)) * (4 : Int64))), .second, .unset, .unset, .unset] [])
        refine Go.st (fun _ h => X0.ldc2J hx hown (mvT hZ (hw _ (List.mem_of_getElem? (i := 1) rfl))) rfl (hb hby at_38) h) ?_
        show Go p e below _ s₁ (mkF m 41 #[.val (.long p1), .second, .val (.int p2), .val (.int (p2 &&& (3 : Int32))), .val (.long (p1 - (p1 / (4 : Int64)) * (4 : Int64))), .second, .unset, .unset, .unset] [(.long (999999999999999999 : Int64))])
        refine Go.st (fun _ h => XT.lload X0.here hx rfl (hb hby at_41) rfl h) ?_
        show Go p e below _ s₁ (mkF m 43 #[.val (.long p1), .second, .val (.int p2), .val (.int (p2 &&& (3 : Int32))), .val (.long (p1 - (p1 / (4 : Int64)) * (4 : Int64))), .second, .unset, .unset, .unset] [(.long (p1 - (p1 / (4 : Int64)) * (4 : Int64))), (.long (999999999999999999 : Int64))])
        refine Go.st (fun _ h => XT.ladd X0.here hx rfl (hb hby at_43) rfl h) ?_
        show Go p e below _ s₁ (mkF m 44 #[.val (.long p1), .second, .val (.int p2), .val (.int (p2 &&& (3 : Int32))), .val (.long (p1 - (p1 / (4 : Int64)) * (4 : Int64))), .second, .unset, .unset, .unset] [(.long ((999999999999999999 : Int64) + (p1 - (p1 / (4 : Int64)) * (4 : Int64))))])
        refine Go.st (fun _ h => XT.lstore X0.here hx rfl (hb hby at_44) rfl (l' := #[.val (.long p1), .second, .val (.int p2), .val (.int (p2 &&& (3 : Int32))), .val (.long (p1 - (p1 / (4 : Int64)) * (4 : Int64))), .second, .val (.long ((999999999999999999 : Int64) + (p1 - (p1 / (4 : Int64)) * (4 : Int64)))), .second, .unset]) rfl h) ?_
        show Go p e below _ s₁ (mkF m 46 #[.val (.long p1), .second, .val (.int p2), .val (.int (p2 &&& (3 : Int32))), .val (.long (p1 - (p1 / (4 : Int64)) * (4 : Int64))), .second, .val (.long ((999999999999999999 : Int64) + (p1 - (p1 / (4 : Int64)) * (4 : Int64)))), .second, .unset] [])
        refine Go.st (fun _ h => XS.goto X0.here hx rfl (pc0 := 46) (pc' := 70) rfl (hb hby at_46) (by decide) (by decide) h) ?_
        show Go p e below _ s₁ (mkF m 70 #[.val (.long p1), .second, .val (.int p2), .val (.int (p2 &&& (3 : Int32))), .val (.long (p1 - (p1 / (4 : Int64)) * (4 : Int64))), .second, .val (.long ((999999999999999999 : Int64) + (p1 - (p1 / (4 : Int64)) * (4 : Int64)))), .second, .unset] [])
        exact K _
      · refine Go.st (fun _ h => XS.icmpYes X0.here hx rfl (pc0 := 35) (pc' := 49) rfl (hb hby at_35) rfl ((feq hc8).2) (by decide) (by decide) h) ?_
        show Go p e below _ s₁ (mkF m 49 #[.val (.long p1), .second, .val (.int p2), .val (.int (p2 &&& (3 : Int32))), .val (.long (p1 - (p1 / (4 : Int64)) * (4 : Int64))), .second, .unset, .unset, .unset] [])
        refine Go.st (fun _ h => X0.ldc2J hx hown (mvT hZ (hw _ (List.mem_of_getElem? (i := 8) rfl))) rfl (hb hby at_49) h) ?_
        show Go p e below _ s₁ (mkF m 52 #[.val (.long p1), .second, .val (.int p2), .val (.int (p2 &&& (3 : Int32))), .val (.long (p1 - (p1 / (4 : Int64)) * (4 : Int64))), .second, .unset, .unset, .unset] [(.long (-9223372036854775808 : Int64))])
        refine Go.st (fun _ h => XT.lload X0.here hx rfl (hb hby at_52) rfl h) ?_
        show Go p e below _ s₁ (mkF m 54 #[.val (.long p1), .second, .val (.int p2), .val (.int (p2 &&& (3 : Int32))), .val (.long (p1 - (p1 / (4 : Int64)) * (4 : Int64))), .second, .unset, .unset, .unset] [(.long (p1 - (p1 / (4 : Int64)) * (4 : Int64))), (.long (-9223372036854775808 : Int64))])
        refine Go.st (fun _ h => XT.lconstV X0.here hx rfl (0 : Int64) (hb hby at_54) (by decide) h) ?_
        show Go p e below _ s₁ (mkF m 55 #[.val (.long p1), .second, .val (.int p2), .val (.int (p2 &&& (3 : Int32))), .val (.long (p1 - (p1 / (4 : Int64)) * (4 : Int64))), .second, .unset, .unset, .unset] [(.long (0 : Int64)), (.long (p1 - (p1 / (4 : Int64)) * (4 : Int64))), (.long (-9223372036854775808 : Int64))])
        refine Go.st (fun _ h => XT.lcmp X0.here hx rfl (hb hby at_55) rfl h) ?_
        show Go p e below _ s₁ (mkF m 56 #[.val (.long p1), .second, .val (.int p2), .val (.int (p2 &&& (3 : Int32))), .val (.long (p1 - (p1 / (4 : Int64)) * (4 : Int64))), .second, .unset, .unset, .unset] [(.int (XT.cmpL (p1 - (p1 / (4 : Int64)) * (4 : Int64)) (0 : Int64))), (.long (-9223372036854775808 : Int64))])
        by_cases hc9 : (p1 - (p1 / (4 : Int64)) * (4 : Int64)) < (0 : Int64)
        · refine Go.st (fun _ h => XS.ifNo X0.here hx rfl (hb hby at_56) rfl ((if0 _ _).trans (tlt (own_Llt hc9)).2.1) h) ?_
          show Go p e below _ s₁ (mkF m 59 #[.val (.long p1), .second, .val (.int p2), .val (.int (p2 &&& (3 : Int32))), .val (.long (p1 - (p1 / (4 : Int64)) * (4 : Int64))), .second, .unset, .unset, .unset] [(.long (-9223372036854775808 : Int64))])
          refine Go.st (fun _ h => XT.lload X0.here hx rfl (hb hby at_59) rfl h) ?_
          show Go p e below _ s₁ (mkF m 61 #[.val (.long p1), .second, .val (.int p2), .val (.int (p2 &&& (3 : Int32))), .val (.long (p1 - (p1 / (4 : Int64)) * (4 : Int64))), .second, .unset, .unset, .unset] [(.long (p1 - (p1 / (4 : Int64)) * (4 : Int64))), (.long (-9223372036854775808 : Int64))])
          refine Go.st (fun _ h => XT.lneg X0.here hx rfl (hb hby at_61) rfl h) ?_
          show Go p e below _ s₁ (mkF m 62 #[.val (.long p1), .second, .val (.int p2), .val (.int (p2 &&& (3 : Int32))), .val (.long (p1 - (p1 / (4 : Int64)) * (4 : Int64))), .second, .unset, .unset, .unset] [(.long (-(p1 - (p1 / (4 : Int64)) * (4 : Int64)))), (.long (-9223372036854775808 : Int64))])
          refine Go.st (fun _ h => XS.goto X0.here hx rfl (pc0 := 62) (pc' := 67) rfl (hb hby at_62) (by decide) (by decide) h) ?_
          show Go p e below _ s₁ (mkF m 67 #[.val (.long p1), .second, .val (.int p2), .val (.int (p2 &&& (3 : Int32))), .val (.long (p1 - (p1 / (4 : Int64)) * (4 : Int64))), .second, .unset, .unset, .unset] [(.long (-(p1 - (p1 / (4 : Int64)) * (4 : Int64)))), (.long (-9223372036854775808 : Int64))])
          refine Go.st (fun _ h => XT.ladd X0.here hx rfl (hb hby at_67) rfl h) ?_
          show Go p e below _ s₁ (mkF m 68 #[.val (.long p1), .second, .val (.int p2), .val (.int (p2 &&& (3 : Int32))), .val (.long (p1 - (p1 / (4 : Int64)) * (4 : Int64))), .second, .unset, .unset, .unset] [(.long ((-9223372036854775808 : Int64) + (-(p1 - (p1 / (4 : Int64)) * (4 : Int64)))))])
          refine Go.st (fun _ h => XT.lstore X0.here hx rfl (hb hby at_68) rfl (l' := #[.val (.long p1), .second, .val (.int p2), .val (.int (p2 &&& (3 : Int32))), .val (.long (p1 - (p1 / (4 : Int64)) * (4 : Int64))), .second, .val (.long ((-9223372036854775808 : Int64) + (-(p1 - (p1 / (4 : Int64)) * (4 : Int64))))), .second, .unset]) rfl h) ?_
          show Go p e below _ s₁ (mkF m 70 #[.val (.long p1), .second, .val (.int p2), .val (.int (p2 &&& (3 : Int32))), .val (.long (p1 - (p1 / (4 : Int64)) * (4 : Int64))), .second, .val (.long ((-9223372036854775808 : Int64) + (-(p1 - (p1 / (4 : Int64)) * (4 : Int64))))), .second, .unset] [])
          exact K _
        · refine Go.st (fun _ h => XS.ifYes X0.here hx rfl (pc0 := 56) (pc' := 65) rfl (hb hby at_56) rfl ((if0 _ _).trans (flt (own_Lnlt hc9)).2.1) (by decide) (by decide) h) ?_
          show Go p e below _ s₁ (mkF m 65 #[.val (.long p1), .second, .val (.int p2), .val (.int (p2 &&& (3 : Int32))), .val (.long (p1 - (p1 / (4 : Int64)) * (4 : Int64))), .second, .unset, .unset, .unset] [(.long (-9223372036854775808 : Int64))])
          refine Go.st (fun _ h => XT.lload X0.here hx rfl (hb hby at_65) rfl h) ?_
          show Go p e below _ s₁ (mkF m 67 #[.val (.long p1), .second, .val (.int p2), .val (.int (p2 &&& (3 : Int32))), .val (.long (p1 - (p1 / (4 : Int64)) * (4 : Int64))), .second, .unset, .unset, .unset] [(.long (p1 - (p1 / (4 : Int64)) * (4 : Int64))), (.long (-9223372036854775808 : Int64))])
          refine Go.st (fun _ h => XT.ladd X0.here hx rfl (hb hby at_67) rfl h) ?_
          show Go p e below _ s₁ (mkF m 68 #[.val (.long p1), .second, .val (.int p2), .val (.int (p2 &&& (3 : Int32))), .val (.long (p1 - (p1 / (4 : Int64)) * (4 : Int64))), .second, .unset, .unset, .unset] [(.long ((-9223372036854775808 : Int64) + (p1 - (p1 / (4 : Int64)) * (4 : Int64))))])
          refine Go.st (fun _ h => XT.lstore X0.here hx rfl (hb hby at_68) rfl (l' := #[.val (.long p1), .second, .val (.int p2), .val (.int (p2 &&& (3 : Int32))), .val (.long (p1 - (p1 / (4 : Int64)) * (4 : Int64))), .second, .val (.long ((-9223372036854775808 : Int64) + (p1 - (p1 / (4 : Int64)) * (4 : Int64)))), .second, .unset]) rfl h) ?_
          show Go p e below _ s₁ (mkF m 70 #[.val (.long p1), .second, .val (.int p2), .val (.int (p2 &&& (3 : Int32))), .val (.long (p1 - (p1 / (4 : Int64)) * (4 : Int64))), .second, .val (.long ((-9223372036854775808 : Int64) + (p1 - (p1 / (4 : Int64)) * (4 : Int64)))), .second, .unset] [])
          exact K _
set_option maxRecDepth 65536 in
set_option maxHeartbeats 40000000 in
theorem comes_1 {Post : Tables → Env → Array Value → State → Outcome → State → Prop} (hpost : ∀ tb e args s v u, (limb_1_1.after args s (.returned v) u = true ∧ limb_1_2.after args s (.returned v) u = true ∧ True) → FrameEnd s (.returned v) u (Jvm.fieldLocs frame_1_writes args s ++ Jvm.arrayLocs frame_1_arrays args s ++ Jvm.staticLocs frame_1_statics s) 0 0 → Post tb e args s (.returned v) u) :
    ArmFor flags0 classFile x code maxLocals ret World_1 tables_1 room_1 Calls_1 rest_1 Pre_1 Post := by
  intro l hfl _ _ p e ha hc hk s m args below hf hA hF happ hP
  obtain ⟨hcalls, hrest, hpre⟩ := hP
  obtain ⟨-, -, -, hnamed, -, -, -, hat⟩ := (Spec.applies_iff hf).mp happ
  obtain ⟨hg, hn⟩ := and_e (Cond.before_iff.mp (show (Jvm.Cond.and given_1 narrow_1).before args s = true from hpre))
  obtain ⟨g0, hg⟩ := and_e hg
  obtain ⟨g1, hg⟩ := and_e hg
  obtain ⟨w0, w1, rfl⟩ : ∃ w0 w1 : Value, args = #[w0, w1] := by
    have hs : args.size = 2 := by simpa [Cond.value, given_1] using g0
    obtain ⟨L⟩ := args
    match L, hs with
    | [w0, w1], _ => exact ⟨w0, w1, rfl⟩
  have hw := fun d (hd : d ∈ tables_1) => atoms_spec (ws := Jvm.Cond.code x code maxLocals ret :: tables_1) hat d (List.mem_cons_of_mem _ hd)
  have hfit : Fit s := fun {y c} hc i hi => by
    obtain ⟨ha, rfl⟩ := Array.getElem?_eq_some_iff.mp hc
    have q := List.all_eq_true.mp ((Array.all_eq_true_iff_forall_mem.mp hF) _ (Array.getElem_mem ha)) i (List.mem_range.mpr hi)
    simpa [Array.getElem?_eq_getElem hi] using q
  obtain ⟨i0, q0⟩ := isL_v g1
  obtain rfl : w0 = (.long i0) := Option.some.inj q0
  obtain ⟨i1, q1⟩ := is_v hg
  obtain rfl : w1 = (.int i1) := Option.some.inj q1
  obtain ⟨n, o, h1, h2, h3, v, L, rfl, hP, hq⟩ := rmLaw l s _ hw i0 i1 s.heap s.heap.size p e ha hc hk s m _ below hf ((Spec.applies_iff_loose hf).mp happ).1 ⟨rfl, State.Warmed39.refl s, rfl⟩ trivial
  obtain ⟨rfl, N⟩ := hP
  refine ⟨n, _, h1, h2, h3, hpost _ _ _ _ _ _ ⟨Cond.after_iff.mpr rfl, Cond.after_iff.mpr (eq_i res_at (Term.int_eval (1)) rfl), trivial⟩ ⟨hq.1, hq.2.1, (hq.2.2.sift fun y hy => Or.inr (N y hy)).mono (by decide) (by decide)⟩⟩
theorem main_1_1 : Claimed_1_1 := comes_1 fun _ _ _ _ _ _ h hF => ⟨h.1, hF⟩
theorem main_1_2 : Claimed_1_2 := comes_1 fun _ _ _ _ _ _ h hF => ⟨h.2.1, hF⟩
end Jvm.Pilot.@@N@@
namespace Jvm.Pilot.@@N@@
open Jvm Jvm.ClassFile Sem Op Lib Jvm.Free Jvm.Stand Jvm.Pilot.@@N@@.Jvm.D
/-! MADE BY PROGRAM (witnessworld.py) out of the Statement's table words and the real class files: 9 classes; the members and pool entries that the words name. The judged class is class 1, her method 1. -/
namespace start1
open Jvm.ClassFile
def u (s : String) : CpInfo := .utf8 (stringToUtf16 s)
/-- a pool by its gaps: so many unusable entries, then the entry; so many at the end -/
def gap : Nat → List CpInfo → List CpInfo
  | 0, r => r
  | n + 1, r => .unusable :: gap n r
def poolList (es : List (Nat × CpInfo)) (last : Nat) : List CpInfo := es.foldr (fun e r => gap e.1 (e.2 :: r)) (gap last [])
def pool (es : List (Nat × CpInfo)) (last : Nat) : Array CpInfo := ⟨poolList es last⟩
def fileOf (pool : Array CpInfo) (this : Nat) (attrs : Array Attribute := #[]) (ms : Array MethodInfo := #[]) (fl : Nat := 33) (sup : Nat := 0) (ifs : Array Nat := #[]) (fds : Array FieldInfo := #[]) : ClassFile where
  minorVersion := 0
  majorVersion := 65
  constantPool := pool
  accessFlags := fl
  thisClass := this
  superClass := sup
  interfaces := ifs
  fields := fds
  methods := ms
  attributes := attrs
def plain (name : String) (sup : Option ClassId) : Class where
  name := name
  kind := .ordinary
  loader := none
  accessFlags := 33
  super := sup
  interfaces := #[]
  cf := none
  fields := #[]
  methods := #[]
  instanceTypes := #[]
  staticTypes := #[]
  resolved := #[]
  callSites := []
  init := .initialized
  statics := none
  mirror := none

def pool0 : Array CpInfo := pool [(5, u "<init>"), (0, u "()V"), (1, .class_ 10), (1, u "java/lang/Object")] 113

def k0m0 : Method := { name := "<init>", desc := "()V", sig := { parameters := [], returnType := none }, accessFlags := 1, code := none }
/-- java/lang/Object -/
def k0 : Class := { plain "java/lang/Object" none with
  accessFlags := 33
  interfaces := #[]
  cf := some (fileOf pool0 8 #[] #[{ accessFlags := 1, nameIndex := 5, descriptorIndex := 6, attributes := #[] }] 33 0 #[] #[])
  fields := #[]
  methods := #[k0m0]
  instanceTypes := #[]
  staticTypes := #[]
  resolved := Array.replicate 124 none
  statics := none }

def pool1 : Array CpInfo := pool [(2, .class_ 4), (1, u "java/lang/Object"), (0, u "<init>"), (0, u "()V"), (0, .long 4), (1, .long 999999999999999999), (3, .long 9223372036854775808), (1, .long 1000000000000000000), (1, .methodref 18 19), (0, .class_ 20), (0, .nameAndType 21 22), (0, u "ironwood/runtime/Clock"), (0, u "tellable"), (0, u "(J)Z"), (0, .class_ 24), (0, u "ironwood/runtime/ClockTellablePinLaw"), (2, u "law"), (0, u "(JI)Z")] 3

def k1m0 : Method := { name := "<init>", desc := "()V", sig := { parameters := [], returnType := none }, accessFlags := 1, code := none }
def k1c1 : Code := { maxStack := 6, maxLocals := 9, code := code, exceptionTable := #[], attributes := #[] }
def k1m1 : Method := { name := "law", desc := "(JI)Z", sig := { parameters := [.long, .int], returnType := some .boolean }, accessFlags := 9, code := some k1c1 }
/-- ironwood/runtime/ClockTellablePinLaw -/
def k1 : Class := { plain "ironwood/runtime/ClockTellablePinLaw" (some 0) with
  accessFlags := 49
  interfaces := #[]
  cf := some (fileOf pool1 23 #[] #[{ accessFlags := 1, nameIndex := 5, descriptorIndex := 6, attributes := #[] }, { accessFlags := 9, nameIndex := 27, descriptorIndex := 28, attributes := #[] }] 49 2 #[] #[])
  fields := #[]
  methods := #[k1m0, k1m1]
  instanceTypes := #[]
  staticTypes := #[]
  resolved := Array.replicate 32 none
  statics := none }

def pool2 : Array CpInfo := pool [(4, .class_ 6), (1, u "java/lang/Object"), (0, u "<init>"), (0, u "()V"), (0, .class_ 10), (0, u "ironwood/runtime/Clock"), (0, .long 999999999999999999), (3, u "time"), (0, u "J"), (6, u "LATEST_TOLD"), (1, u "LAST"), (4, u "tellable"), (0, u "(J)Z")] 8

def k2m0 : Method := { name := "<init>", desc := "()V", sig := { parameters := [], returnType := none }, accessFlags := 0, code := none }
def k2c1 : Code := { maxStack := 4, maxLocals := 2, code := prog_53_method_2_code, exceptionTable := #[], attributes := #[] }
def k2m1 : Method := { name := "tellable", desc := "(J)Z", sig := { parameters := [.long], returnType := some .boolean }, accessFlags := 8, code := some k2c1 }
/-- ironwood/runtime/Clock -/
def k2 : Class := { plain "ironwood/runtime/Clock" (some 0) with
  accessFlags := 48
  interfaces := #[]
  cf := some (fileOf pool2 9 #[] #[{ accessFlags := 0, nameIndex := 7, descriptorIndex := 8, attributes := #[] }, { accessFlags := 8, nameIndex := 30, descriptorIndex := 31, attributes := #[] }] 48 4 #[] #[{ accessFlags := 24, nameIndex := 23, descriptorIndex := 16, attributes := #[] }, { accessFlags := 24, nameIndex := 25, descriptorIndex := 16, attributes := #[] }, { accessFlags := 2, nameIndex := 15, descriptorIndex := 16, attributes := #[] }])
  fields := #[{ name := "LATEST_TOLD", type := .long, accessFlags := 24, slot := 0, constantValue := 0 }, { name := "LAST", type := .long, accessFlags := 24, slot := 1, constantValue := 0 }, { name := "time", type := .long, accessFlags := 2, slot := 0, constantValue := 0 }]
  methods := #[k2m0, k2m1]
  instanceTypes := #[.long]
  staticTypes := #[.long, .long]
  resolved := Array.replicate 40 none
  statics := none }

def pool3 : Array CpInfo := pool [(1, u "java/lang/Cloneable"), (0, .class_ 1), (0, u "java/lang/Object"), (0, .class_ 3)] 3

/-- java/lang/Cloneable -/
def k3 : Class := { plain "java/lang/Cloneable" (some 0) with
  accessFlags := 1537
  interfaces := #[]
  cf := some (fileOf pool3 2 #[] #[] 1537 4 #[] #[])
  fields := #[]
  methods := #[]
  instanceTypes := #[]
  staticTypes := #[]
  resolved := Array.replicate 8 none
  statics := none }

def pool4 : Array CpInfo := pool [(1, u "java/io/Serializable"), (0, .class_ 1), (0, u "java/lang/Object"), (0, .class_ 3)] 3

/-- java/io/Serializable -/
def k4 : Class := { plain "java/io/Serializable" (some 0) with
  accessFlags := 1537
  interfaces := #[]
  cf := some (fileOf pool4 2 #[] #[] 1537 4 #[] #[])
  fields := #[]
  methods := #[]
  instanceTypes := #[]
  staticTypes := #[]
  resolved := Array.replicate 8 none
  statics := none }

/-- the primitive byte -/
def k5 : Class := { plain "byte" none with kind := .primitive 'B', accessFlags := 0x411 }
/-- [B -/
def k6 : Class := { plain "[B" (some 0) with kind := .array 5 .byte, interfaces := #[3, 4], accessFlags := 1041 }

/-- the primitive int -/
def k7 : Class := { plain "int" none with kind := .primitive 'I', accessFlags := 0x411 }
/-- [I -/
def k8 : Class := { plain "[I" (some 0) with kind := .array 7 .int, interfaces := #[3, 4], accessFlags := 1041 }

def heap : Heap := #[]
def classes : Array Class := #[k0, k1, k2, k3, k4, k5, k6, k7, k8]
def interned : List (Array UInt16 × Addr) := []
def slotsUsed : Nat := 0
def theMethod : MethodId := ⟨1, 1⟩
def args0 : Array Value := #[.long 5, .int 0]
def aboutOver (below : List Frame) : State where
  vm := { classes := classes, interned := interned.toArray }
  heap := heap
  slotsUsed := slotsUsed
  threads := #[{ frames := .invoking theMethod args0 :: below }]
def below0 : List Frame := [.native { method := ⟨0, 0⟩, args := #[] }]
def about1 : State := aboutOver below0
def p0 : Program := .bare "" "" ""
def e0 : Env := launch0.env 0 0 0
theorem w_frames : about1.frames = Frame.invoking theMethod args0 :: below0 := rfl
set_option maxRecDepth 65536 in
theorem w_args : argsFit about1.vm theMethod args0 = true := by decide +kernel
set_option maxRecDepth 65536 in
theorem w_heap : heapFits about1 = true := by decide +kernel
set_option maxRecDepth 65536 in
theorem w_runnable : about1.curStatus? = some .runnable := by decide +kernel
set_option maxRecDepth 65536 in
theorem w_alone : about1.alone = true := by decide +kernel
set_option maxRecDepth 65536 in
theorem w_named : about1.methodNamed? x = some theMethod := by decide +kernel
set_option maxRecDepth 65536 in
theorem w_hears : about1.hears theMethod below0 = true := by decide +kernel
set_option maxRecDepth 65536 in
theorem w_ripe : about1.ripe theMethod args0 below0 = true := by decide +kernel
theorem w_running : about1.status = .running := rfl
set_option maxRecDepth 65536 in
theorem w_room : about1.hasRoom e0.platform room_1 = true :=
  launch0.hasRoom_least _ room_1 (by decide +kernel) (by decide +kernel) (by decide +kernel) (by decide +kernel) (by decide +kernel) (by decide +kernel)
theorem allAtoms_all (ts : List Jvm.Cond) (a : Array Jvm.Value) (st : Jvm.State) : (allAtoms ts).before a st = ts.all (fun c => c.before a st) := by
  induction ts with
  | nil => rfl
  | cons c t ih =>
    show (Jvm.Cond.and c (allAtoms t)).before a st = _
    rw [Jvm.Cond.before_and, ih, List.all_cons]
def words1 : List Jvm.Cond := Jvm.Cond.code x code maxLocals ret :: tables_1
/-- a 'code' word, met by the world's own term for the bytes: nothing is compared byte by byte -/
theorem code_word {y : MethodName} {bytes : ByteArray} {mx : Nat} {rt : Option FieldType} {a : Array Value} {s : State} {m : MethodId} {meth : Method} {c : Code} (h1 : s.methodNamed? y = some m) (h2 : s.vm.method? m = some meth) (h3 : meth.code = some c) (h4 : c.code = bytes)
    (h5 : (c.maxLocals == mx && c.exceptionTable.isEmpty && decide (c.maxStack ≤ mostOperands) && decide (meth.sig.returnType = rt) && !meth.locks && decide (parseMethodDescriptor y.desc = some meth.sig)) = true) : (Jvm.Cond.code y bytes mx rt).before a s = true := by
  simp only [Bool.and_eq_true, beq_iff_eq, Bool.not_eq_true', decide_eq_true_eq] at h5
  obtain ⟨⟨⟨⟨⟨g1, g2⟩, g3⟩, g4⟩, g5⟩, g6⟩ := h5
  simp [Cond.before, Cond.holds, Cond.value, h1, h2, h3, h4, g1, g2, g3, g4, g5, g6]
def isCode : Jvm.Cond → Bool
  | .code _ _ _ _ => true
  | _ => false
theorem all_split {L : List Jvm.Cond} {P : Jvm.Cond → Bool} (h1 : L.all (fun c => isCode c || P c) = true) (h2 : ∀ c ∈ L.filter isCode, P c = true) : L.all P = true := by
  refine List.all_eq_true.mpr fun c hc => ?_
  have h := List.all_eq_true.mp h1 c hc
  rcases Bool.eq_false_or_eq_true (isCode c) with hi | hi
  · exact h2 c (List.mem_filter.mpr ⟨hc, hi⟩)
  · simpa [hi] using h
set_option maxRecDepth 65536 in
theorem w_c0 : (Jvm.Cond.code x code maxLocals ret).before args0 about1 = true := code_word (m := ⟨1, 1⟩) (meth := k1m1) (c := k1c1) (by decide +kernel) rfl rfl rfl (by decide +kernel)
set_option maxRecDepth 65536 in
theorem w_c1 : (Jvm.Cond.code ({ cls := "ironwood/runtime/Clock", name := "tellable", desc := "(J)Z" } : Jvm.MethodName) prog_53_method_2_code (2 : Nat) (Option.some Jvm.ClassFile.FieldType.boolean)).before args0 about1 = true := code_word (m := ⟨2, 1⟩) (meth := k2m1) (c := k2c1) (by decide +kernel) rfl rfl rfl (by decide +kernel)
def codes1 : List Jvm.Cond := [Jvm.Cond.code x code maxLocals ret, Jvm.Cond.code ({ cls := "ironwood/runtime/Clock", name := "tellable", desc := "(J)Z" } : Jvm.MethodName) prog_53_method_2_code (2 : Nat) (Option.some Jvm.ClassFile.FieldType.boolean)]
set_option maxRecDepth 65536 in
theorem codes_eq : words1.filter isCode = codes1 := rfl
theorem w_codes : ∀ c ∈ words1.filter isCode, c.before args0 about1 = true := by
  rw [codes_eq]
  intro c hc
  simp only [codes1, List.mem_cons, List.not_mem_nil, or_false] at hc
  rcases hc with rfl | rfl
  · exact w_c0
  · exact w_c1
set_option maxRecDepth 65536 in
theorem w_t1 : words1.all (fun c => isCode c || c.before args0 about1) = true := by decide +kernel
theorem w_tables : (allAtoms (Jvm.Cond.code x code maxLocals ret :: tables_1)).before args0 about1 = true := by
  rw [allAtoms_all]
  show words1.all (fun c => c.before args0 about1) = true
  refine all_split ?_ w_codes
  rw [w_t1]
set_option maxRecDepth 65536 in
theorem w_case : (Jvm.Cond.and given_1 narrow_1).before args0 about1 = true := by decide +kernel
theorem w_applies : (headSpec (Jvm.Cond.code x code maxLocals ret :: tables_1) room_1).applies x e0.platform about1 = true :=
  (Spec.applies_iff w_frames).mpr ⟨w_running, w_runnable, w_alone, w_named, w_hears, w_ripe, w_room, w_tables⟩
theorem atStart : AtStart classFile x code maxLocals ret World_1 tables_1 room_1 Calls_1 rest_1 Pre_1 launch0 p0 e0 about1 theMethod args0 below0 :=
  ⟨lists_1, trivial, launch0.admits_env _ _ _, launch0.least_env, fairChoices_fair.cas, fairChoices_fair.clock, w_frames, w_args, w_heap, w_applies, trivial, trivial, w_case⟩
end start1
theorem witness_1 : WitnessClaimed_1 := ⟨start1.p0, start1.e0, start1.about1, start1.theMethod, start1.args0, start1.below0, start1.atStart⟩
end Jvm.Pilot.@@N@@
