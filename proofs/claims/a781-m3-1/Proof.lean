import JvmDerived
import JvmDerived.Pilot.@@N@@Statement
import JvmDerived.Pilot.@@N@@Code
set_option linter.unusedVariables false
set_option linter.unusedSimpArgs false
namespace Jvm.Pilot.@@N@@
open Jvm Jvm.ClassFile Sem Op Lib Jvm.Free Jvm.Stand Jvm.LawKit Jvm.RoadKit Bundle Jvm.Pilot.@@N@@.Jvm.D
/-! GoKit: a walk told forwards. Go: from this frame on the method comes to its end as Q says; Does: what a call of a method does (over the library's MetFree). -/
section GoKit
variable {p : Program} {l : Launch} {e : Env} {R : Room} {s : State} {m : MethodId} {args : Array Value} {below : List Frame} {meth : Method} {c : Code} {T T' : State} {locs : List Loc} {cells slots : Nat} {Z : State} {a0 : Array Value} {h : Heap} {g g' : JFrame} {Q : Outcome → State → Prop}
def Go (p : Program) (e : Env) (below : List Frame) (Q : Outcome → State → Prop) (T : State) (g : JFrame) : Prop :=
  ∃ s₂ o, Steps p.tables e below (T.setTop g) s₂ ∧ s₂.status = .running ∧ Ended s₂ below o ∧ Q o s₂
theorem Go.st (k : ∀ target, Steps p.tables e below (T'.setTop g') target → Steps p.tables e below (T.setTop g) target) (H : Go p e below Q T' g') : Go p e below Q T g := by
  obtain ⟨s₂, o, h1, r⟩ := H; exact ⟨s₂, o, k _ h1, r⟩
theorem Go.eq (q : g = g') (H : Go p e below Q T g') : Go p e below Q T g := q ▸ H
def Ends (s : State) (k n : Nat) (P : Option Value → Heap → List Loc → Prop) : Outcome → State → Prop :=
  fun o U' => ∃ v L, o = .returned v ∧ P v U'.heap L ∧ FrameEnd s o U' L k n
theorem Go.ret (X : Stand p l e R s m args below meth c T locs cells slots) (hx : p.tables.exec = Jvm.exec) (hlk : meth.locks = false) {pc : Nat} {Ls : Array Slot} {w : Value} {t : FieldType} {i : Instr} {rest : List Value} {P : Option Value → Heap → List Loc → Prop} {k n : Nat}
    (hret : meth.sig.returnType = some t) (hn : narrow t w = w)
    (hi : (i = .ireturn ∧ (t = .int ∨ t = .boolean ∨ t = .byte ∨ t = .char ∨ t = .short) ∧ ∃ z, w = .int z) ∨ (i = .lreturn ∧ t = .long ∧ ∃ z, w = .long z) ∨ (i = .dreturn ∧ t = .double ∧ ∃ z, w = .double z) ∨ (i = .freturn ∧ t = .float ∧ ∃ z, w = .float z) ∨ (i = .areturn ∧ t.isReference = true ∧ w.isRef = true))
    (hd : decode c.code pc = .ok (i, 1)) (hk : cells ≤ k) (hs : slots ≤ n) (hP : P (some w) T.heap locs) : Go p e below (Ends s k n P) T (mkF m pc Ls (w :: rest)) := by
  obtain ⟨fs, hr, hrun, hended, hW, hsame⟩ := X.leave (v := some w) (fun h => by rw [hret] at h; cases h) hlk
  exact ⟨_, _, retOut X hx hret hn hi hd hr, hrun, hended, _, _, rfl, hP, ⟨_, rfl⟩, hW, hsame.mono hk hs⟩
theorem Go.retV (X : Stand p l e R s m args below meth c T locs cells slots) (hx : p.tables.exec = Jvm.exec) (hlk : meth.locks = false) {pc : Nat} {Ls : Array Slot} {P : Option Value → Heap → List Loc → Prop} {k n : Nat}
    (hret : meth.sig.returnType = none) (hd : decode c.code pc = .ok (.return_, 1)) (hk : cells ≤ k) (hs : slots ≤ n) (hP : P none T.heap locs) : Go p e below (Ends s k n P) T (mkF m pc Ls []) := by
  obtain ⟨fs, hr, hrun, hended, hW, hsame⟩ := X.leave (v := none) (fun _ => rfl) hlk
  exact ⟨_, _, X.returnOut hx hret hd hr, hrun, hended, _, _, rfl, hP, ⟨_, rfl⟩, hW, hsame.mono hk hs⟩
theorem Go.retZ (X : Stand p l e R s m args below meth c T locs cells slots) (hx : p.tables.exec = Jvm.exec) (hlk : meth.locks = false) {pc : Nat} {Ls : Array Slot} {z : Int32} {rest : List Value} {P : Option Value → Heap → List Loc → Prop} {k n : Nat}
    (hret : meth.sig.returnType = some .boolean) (hn : narrow .boolean (.int z) = .int z) (hd : decode c.code pc = .ok (.ireturn, 1)) (hk : cells ≤ k) (hs : slots ≤ n) (hP : P (some (.int z)) T.heap locs) : Go p e below (Ends s k n P) T (mkF m pc Ls (.int z :: rest)) :=
  Go.ret X hx hlk hret hn (Or.inl ⟨rfl, Or.inr (Or.inl rfl), z, rfl⟩) hd hk hs hP
theorem Go.retC (X : Stand p l e R s m args below meth c T locs cells slots) (hx : p.tables.exec = Jvm.exec) (hlk : meth.locks = false) {pc : Nat} {Ls : Array Slot} {z : Int32} {rest : List Value} {P : Option Value → Heap → List Loc → Prop} {k n : Nat}
    (hret : meth.sig.returnType = some .char) (hn : narrow .char (.int z) = .int z) (hd : decode c.code pc = .ok (.ireturn, 1)) (hk : cells ≤ k) (hs : slots ≤ n) (hP : P (some (.int z)) T.heap locs) : Go p e below (Ends s k n P) T (mkF m pc Ls (.int z :: rest)) :=
  Go.ret X hx hlk hret hn (Or.inl ⟨rfl, Or.inr (Or.inr (Or.inr (Or.inl rfl))), z, rfl⟩) hd hk hs hP
theorem Go.retI (X : Stand p l e R s m args below meth c T locs cells slots) (hx : p.tables.exec = Jvm.exec) (hlk : meth.locks = false) {pc : Nat} {Ls : Array Slot} {z : Int32} {rest : List Value} {P : Option Value → Heap → List Loc → Prop} {k n : Nat}
    (hret : meth.sig.returnType = some .int) (hd : decode c.code pc = .ok (.ireturn, 1)) (hk : cells ≤ k) (hs : slots ≤ n) (hP : P (some (.int z)) T.heap locs) : Go p e below (Ends s k n P) T (mkF m pc Ls (.int z :: rest)) :=
  Go.ret X hx hlk hret rfl (Or.inl ⟨rfl, Or.inl rfl, z, rfl⟩) hd hk hs hP
theorem Go.retJ (X : Stand p l e R s m args below meth c T locs cells slots) (hx : p.tables.exec = Jvm.exec) (hlk : meth.locks = false) {pc : Nat} {Ls : Array Slot} {z : Int64} {rest : List Value} {P : Option Value → Heap → List Loc → Prop} {k n : Nat}
    (hret : meth.sig.returnType = some .long) (hd : decode c.code pc = .ok (.lreturn, 1)) (hk : cells ≤ k) (hs : slots ≤ n) (hP : P (some (.long z)) T.heap locs) : Go p e below (Ends s k n P) T (mkF m pc Ls (.long z :: rest)) :=
  Go.ret X hx hlk hret rfl (Or.inr (Or.inl ⟨rfl, rfl, z, rfl⟩)) hd hk hs hP
theorem Go.retA (X : Stand p l e R s m args below meth c T locs cells slots) (hx : p.tables.exec = Jvm.exec) (hlk : meth.locks = false) {pc : Nat} {Ls : Array Slot} {w : Value} {t : FieldType} {rest : List Value} {P : Option Value → Heap → List Loc → Prop} {k n : Nat}
    (hret : meth.sig.returnType = some t) (ht : t.isReference = true) (hw : w.isRef = true) (hn : narrow t w = w) (hd : decode c.code pc = .ok (.areturn, 1)) (hk : cells ≤ k) (hs : slots ≤ n) (hP : P (some w) T.heap locs) : Go p e below (Ends s k n P) T (mkF m pc Ls (w :: rest)) :=
  Go.ret X hx hlk hret hn (Or.inr (Or.inr (Or.inr (Or.inr ⟨rfl, ht, hw⟩)))) hd hk hs hP
/-- what a call does: the arguments, the heap before, and P: what it returns, the heap behind, the places written -/
def Does (l : Launch) (Z : State) (y : MethodName) (bytes : ByteArray) (maxL : Nat) (ret : Option FieldType) (ws : List Jvm.Cond) (rm : Room) (as' : Array Value) (h : Heap) (P : Option Value → Heap → List Loc → Prop) : Prop :=
  MetFree l y (head1 (Jvm.Cond.code y bytes maxL ret :: ws) rm) (fun a U => a = as' ∧ Z.Warmed39 U.vm ∧ U.heap = h) (fun _ _ _ _ _ => True) (fun _ U o U' => ∃ v L, o = .returned v ∧ P v U'.heap L ∧ FrameEnd U o U' L rm.cells rm.slots)
theorem Does.intro {y : MethodName} {bytes : ByteArray} {maxL : Nat} {ret : Option FieldType} {ws : List Jvm.Cond} {rm : Room} {as' : Array Value} {P : Option Value → Heap → List Loc → Prop} {Ls : Array Slot} (hpn : plainName y.cls = true) (hef : ∀ m, entryFrame m as' maxL = mkF m 0 Ls [])
    (body : ∀ (p : Program) (e : Env) (s : State) (m : MethodId) (below : List Frame) (meth : Method) (c : Code) (s₁ : State), p.tables.exec = Jvm.exec → c.code = bytes → c.maxLocals = maxL → s.vm.findClass y.cls = some m.cls → meth.name = y.name → meth.sig.returnType = ret → meth.locks = false →
      Z.Warmed39 s.vm → s₁.heap = h → Stand p l e rm s m as' below meth c s₁ [] 0 0 → Go p e below (Ends s rm.cells rm.slots P) s₁ (mkF m 0 Ls [])) : Does l Z y bytes maxL ret ws rm as' h P := by
  refine MetFree.of_bodySF (plainFor_of_name hpn) hisR ?_
  intro p e s m args below meth c s₁ Bd hml0 hP hK
  obtain ⟨rfl, hZ, hh⟩ := hP
  have := body p e s m below meth c s₁ Bd.exec Bd.bytes hml0 (findClass_of_methodNamed Bd.named) (name_of_methodNamed Bd.named Bd.method).1 Bd.returns Bd.notSynchronized hZ (by rw [← hh, Bd.state]; rfl) (Stand.of_body Bd)
  obtain ⟨s₂, o, h1, h2, h3, h4⟩ := this
  exact ⟨s₂, o, castTop (hef m) h1, h2, h3, h4⟩
theorem Does.mono {y : MethodName} {bytes : ByteArray} {maxL : Nat} {ret : Option FieldType} {ws : List Jvm.Cond} {rm : Room} {as' : Array Value} {P P' : Option Value → Heap → List Loc → Prop} (D : Does l Z y bytes maxL ret ws rm as' h P) (q : ∀ v h' L, P v h' L → P' v h' L) : Does l Z y bytes maxL ret ws rm as' h P' := by
  intro p e ha hc hk s m args below hf happ hP hK
  obtain ⟨n, o, h1, h2, h3, v, L, h4, h5, h6⟩ := D p e ha hc hk s m args below hf happ hP hK
  exact ⟨n, o, h1, h2, h3, v, L, h4, q _ _ _ h5, h6⟩
theorem Does.static {y : MethodName} {bytes : ByteArray} {maxL : Nat} {ret : Option FieldType} {rm : Room} {P : Option Value → Heap → List Loc → Prop} {own : String} {index : Nat} {argsL rest : List Value} (D : Does l Z y bytes maxL ret [] rm argsL.toArray h P)
    (X : Stand p l e R s m args below meth c T locs cells slots) (hx : p.tables.exec = Jvm.exec) (hZ : Z.Warmed39 s.vm) (hown : s.vm.findClass own = some m.cls) (eT : T.heap = h) (w1 : (Cond.methodLink own index y).before a0 Z = true) (w2 : (Cond.static y).before a0 Z = true) (w3 : (Cond.initialized y.cls).before a0 Z = true) (w4 : (Cond.code y bytes maxL ret).before a0 Z = true)
    (hy : y.cls ≠ "java/lang/invoke/MethodHandle" ∧ y.cls ≠ "java/lang/invoke/VarHandle") (hg : g.method = m) (hsize : g.locals.size = c.maxLocals) (hlen : ∀ sig, parseMethodDescriptor y.desc = some sig → argsL.length = sig.parameters.length)
    (hstack : g.stack = argsL.reverse ++ rest) (hd : decode c.code g.pc = .ok (.invokestatic index, 3)) {W : Nat} (hW : 2 * g.monitorRoom + (rest.map fun v => v.category).sum ≤ W) (hf : rm.frames + 1 ≤ R.frames) (hl : W + (maxL + 11) + rm.locals ≤ R.locals) (hc : cells + rm.cells ≤ R.cells) (hs : slots + rm.slots ≤ R.slots) :
    ∃ v T' L, Stand p l e R s m args below meth c T' (locs ++ L) (cells + rm.cells) (slots + rm.slots) ∧ P v T'.heap L ∧ ∀ target, Steps p.tables e below (T'.setTop { g with pc := g.pc + 3, stack := v.toList ++ rest }) target → Steps p.tables e below (T.setTop g) target := by
  obtain ⟨v, vm₁, ⟨T', L', k', n'⟩, -, X', ⟨L, hQ, q1, q2, q3⟩, st⟩ := Jvm.LawKit.callS X hx (y := y) hown (mvT hZ w1) (mvT hZ w2) (mvT hZ w3) (mvT hZ w4) hy (backOf (W := W) D hZ w4 w3 hf hl) hg hsize (argsL := argsL) (rest := rest) hlen hstack hW hd (fun _ _ => ⟨rfl, eT, hc, hs⟩)
  dsimp only [Pt.U, Pt.locs, Pt.cells, Pt.slots] at X' q1 q2 q3 st hQ
  subst q1 q2 q3
  exact ⟨v, T', L, X', hQ, st⟩
theorem Does.special {y : MethodName} {bytes : ByteArray} {maxL : Nat} {rm : Room} {P : Option Value → Heap → List Loc → Prop} {own : String} {index : Nat} {a : Addr} {argsL rest : List Value} (D : Does l Z y bytes maxL none [] rm (.ref a :: argsL).toArray h P)
    (X : Stand p l e R s m args below meth c T locs cells slots) (hx : p.tables.exec = Jvm.exec) (hZ : Z.Warmed39 s.vm) (hown : s.vm.findClass own = some m.cls) (eT : T.heap = h) (hnm : y.name = "<init>") (w1 : (Cond.methodLink own index y).before a0 Z = true) (w2 : (Cond.instanceMethod y).before a0 Z = true) (w3 : (Cond.initialized y.cls).before a0 Z = true) (w4 : (Cond.code y bytes maxL none).before a0 Z = true)
    (hy : y.cls ≠ "java/lang/invoke/MethodHandle" ∧ y.cls ≠ "java/lang/invoke/VarHandle") (hg : g.method = m) (hsize : g.locals.size = c.maxLocals) (hlen : ∀ sig, parseMethodDescriptor y.desc = some sig → argsL.length = sig.parameters.length)
    (hstack : g.stack = argsL.reverse ++ .ref a :: rest) (hd : decode c.code g.pc = .ok (.invokespecial index, 3)) {W : Nat} (hW : 2 * g.monitorRoom + (rest.map fun v => v.category).sum ≤ W) (hf : rm.frames + 1 ≤ R.frames) (hl : W + (maxL + 11) + rm.locals ≤ R.locals) (hc : cells + rm.cells ≤ R.cells) (hs : slots + rm.slots ≤ R.slots) :
    ∃ v T' L, Stand p l e R s m args below meth c T' (locs ++ L) (cells + rm.cells) (slots + rm.slots) ∧ P v T'.heap L ∧ ∀ target, Steps p.tables e below (T'.setTop { g with pc := g.pc + 3, stack := v.toList ++ rest }) target → Steps p.tables e below (T.setTop g) target := by
  obtain ⟨v, vm₁, ⟨T', L', k', n'⟩, -, X', ⟨L, hQ, q1, q2, q3⟩, st⟩ := X.specialBack hx (y := y) hnm hown (mvT hZ w1) (mvT hZ w2) (mvT hZ w4) hy (backOf (W := W) D hZ w4 w3 hf hl) hg hsize (Steps.refl _) (a := a) (argsL := argsL) (rest := rest) hlen hstack hW hd (fun _ _ => ⟨rfl, eT, hc, hs⟩)
  dsimp only [Pt.U, Pt.locs, Pt.cells, Pt.slots] at X' q1 q2 q3 st hQ
  subst q1 q2 q3
  exact ⟨v, T', L, X', hQ, fun _ k => st.trans k⟩
theorem Does.virtual {y : MethodName} {bytes : ByteArray} {maxL : Nat} {ret : Option FieldType} {rm : Room} {P : Option Value → Heap → List Loc → Prop} {own C : String} {index : Nat} {a : Addr} {argsL rest : List Value} (D : Does l Z y bytes maxL ret [] rm (.ref a :: argsL).toArray h P)
    (X : Stand p l e R s m args below meth c T locs cells slots) (hx : p.tables.exec = Jvm.exec) (hZ : Z.Warmed39 s.vm) (hown : s.vm.findClass own = some m.cls) (eT : T.heap = h) (E : Exa Z h a C) (w1 : (Cond.methodLink own index y).before a0 Z = true) (w2 : (Cond.declares y).before a0 Z = true) (w2' : (Cond.selects C y y).before a0 Z = true) (w2'' : (Cond.instanceMethod y).before a0 Z = true) (w3 : (Cond.initialized y.cls).before a0 Z = true) (w4 : (Cond.code y bytes maxL ret).before a0 Z = true)
    (hy : y.cls ≠ "java/lang/invoke/MethodHandle" ∧ y.cls ≠ "java/lang/invoke/VarHandle") (hg : g.method = m) (hsize : g.locals.size = c.maxLocals) (hlen : ∀ sig, parseMethodDescriptor y.desc = some sig → argsL.length = sig.parameters.length)
    (hstack : g.stack = argsL.reverse ++ .ref a :: rest) (hd : decode c.code g.pc = .ok (.invokevirtual index, 3)) {W : Nat} (hW : 2 * g.monitorRoom + (rest.map fun v => v.category).sum ≤ W) (hf : rm.frames + 1 ≤ R.frames) (hl : W + (maxL + 11) + rm.locals ≤ R.locals) (hc : cells + rm.cells ≤ R.cells) (hs : slots + rm.slots ≤ R.slots) :
    ∃ v T' L, Stand p l e R s m args below meth c T' (locs ++ L) (cells + rm.cells) (slots + rm.slots) ∧ P v T'.heap L ∧ ∀ target, Steps p.tables e below (T'.setTop { g with pc := g.pc + 3, stack := v.toList ++ rest }) target → Steps p.tables e below (T.setTop g) target := by
  obtain ⟨cB, kB, q1, -, q3⟩ := isOf hZ eT E
  obtain ⟨v, vm₁, ⟨T', L', k', n'⟩, -, X', ⟨L, hQ, q1, q2, q3⟩, st⟩ := X.virtualBack hx (y := y) (z := y) hown (mvT hZ w1) (mvT hZ w2) (notFace_of_selects (args := #[]) (mvT hZ w2')) (mvT hZ w2') (mvT hZ w2'') hy (backOf (W := W) D hZ w4 w3 hf hl) q1 q3 hg hsize (Steps.refl _) (argsL := argsL) (rest := rest) hlen hstack hW hd (fun _ _ => ⟨rfl, eT, hc, hs⟩)
  dsimp only [Pt.U, Pt.locs, Pt.cells, Pt.slots] at X' q1 q2 q3 st hQ
  subst q1 q2 q3
  exact ⟨v, T', L, X', hQ, fun _ k => st.trans k⟩
theorem Does.virtualUp {x' z : MethodName} {owner : String} {bytes : ByteArray} {maxL : Nat} {ret : Option FieldType} {rm : Room} {P : Option Value → Heap → List Loc → Prop} {own C : String} {index : Nat} {a : Addr} {argsL rest : List Value} (D : Does l Z z bytes maxL ret [] rm (.ref a :: argsL).toArray h P)
    (X : Stand p l e R s m args below meth c T locs cells slots) (hx : p.tables.exec = Jvm.exec) (hZ : Z.Warmed39 s.vm) (hown : s.vm.findClass own = some m.cls) (eT : T.heap = h) (E : Exa Z h a C) (w1 : (Cond.methodLink own index x').before a0 Z = true) (w1' : (Cond.sameMethod x'.cls owner x'.name x'.desc).before a0 Z = true) (w2 : (Cond.declares ⟨owner, x'.name, x'.desc⟩).before a0 Z = true) (w2' : (Cond.selects C x' z).before a0 Z = true) (w2'' : (Cond.instanceMethod z).before a0 Z = true) (w3 : (Cond.initialized z.cls).before a0 Z = true) (w4 : (Cond.code z bytes maxL ret).before a0 Z = true)
    (hy : owner ≠ "java/lang/invoke/MethodHandle" ∧ owner ≠ "java/lang/invoke/VarHandle") (hg : g.method = m) (hsize : g.locals.size = c.maxLocals) (hlen : ∀ sig, parseMethodDescriptor x'.desc = some sig → argsL.length = sig.parameters.length)
    (hstack : g.stack = argsL.reverse ++ .ref a :: rest) (hd : decode c.code g.pc = .ok (.invokevirtual index, 3)) {W : Nat} (hW : 2 * g.monitorRoom + (rest.map fun v => v.category).sum ≤ W) (hf : rm.frames + 1 ≤ R.frames) (hl : W + (maxL + 11) + rm.locals ≤ R.locals) (hc : cells + rm.cells ≤ R.cells) (hs : slots + rm.slots ≤ R.slots) :
    ∃ v T' L, Stand p l e R s m args below meth c T' (locs ++ L) (cells + rm.cells) (slots + rm.slots) ∧ P v T'.heap L ∧ ∀ target, Steps p.tables e below (T'.setTop { g with pc := g.pc + 3, stack := v.toList ++ rest }) target → Steps p.tables e below (T.setTop g) target := by
  obtain ⟨cB, kB, q1, -, q3⟩ := isOf hZ eT E
  obtain ⟨v, vm₁, ⟨T', L', k', n'⟩, -, X', ⟨L, hQ, q1, q2, q3⟩, st⟩ := X.virtualBackUp hx (x := x') (y := z) hown (mvT hZ w1) (mvT hZ w1') (mvT hZ w2) hy (mvT hZ w2') (mvT hZ w2'') (backOf (W := W) D hZ w4 w3 hf hl) q1 q3 hg hsize (Steps.refl _) (argsL := argsL) (rest := rest) hlen hstack hW hd (fun _ _ => ⟨rfl, eT, hc, hs⟩)
  dsimp only [Pt.U, Pt.locs, Pt.cells, Pt.slots] at X' q1 q2 q3 st hQ
  subst q1 q2 q3
  exact ⟨v, T', L, X', hQ, fun _ k => st.trans k⟩
/-- a call that leaves the heap as it was and returns w -/
abbrev Val (w : Option Value) (h : Heap) : Option Value → Heap → List Loc → Prop := fun v h' L => v = w ∧ L = [] ∧ h' = h
theorem own_still {w : Option Value} {rm : Room} {rest : List Value} (hc : rm.cells = 0) (hs : rm.slots = 0)
    (H : ∃ v T' L, Stand p l e R s m args below meth c T' (locs ++ L) (cells + rm.cells) (slots + rm.slots) ∧ Val w h v T'.heap L ∧ ∀ target, Steps p.tables e below (T'.setTop { g with pc := g.pc + 3, stack := v.toList ++ rest }) target → Steps p.tables e below (T.setTop g) target) :
    ∃ T', Stand p l e R s m args below meth c T' locs cells slots ∧ T'.heap = h ∧ ∀ target, Steps p.tables e below (T'.setTop { g with pc := g.pc + 3, stack := w.toList ++ rest }) target → Steps p.tables e below (T.setTop g) target := by
  obtain ⟨v, T', L, X', ⟨rfl, rfl, e'⟩, st⟩ := H
  rw [hc, hs, List.append_nil] at X'
  exact ⟨T', X', e', st⟩
theorem own_Llt {x y : Int64} (h : x < y) : XT.cmpL x y < 0 := (lw_lt x y).mpr h
theorem own_Lnlt {x y : Int64} (h : ¬ x < y) : ¬ XT.cmpL x y < 0 := fun q => h ((lw_lt x y).mp q)
theorem own_Lgt {x y : Int64} (h : y < x) : 0 < XT.cmpL x y := (lw_gt x y).mpr h
theorem own_Lngt {x y : Int64} (h : ¬ y < x) : ¬ 0 < XT.cmpL x y := fun q => h ((lw_gt x y).mp q)
theorem own_Leq {x y : Int64} (h : x = y) : XT.cmpL x y = 0 := (lw_eq x y).mpr h
theorem own_Lneq {x y : Int64} (h : ¬ x = y) : ¬ XT.cmpL x y = 0 := fun q => h ((lw_eq x y).mp q)
theorem own_aeq {a b : Addr} (h : a = b) : XT.acmp .eq (.ref a) (.ref b) = true ∧ XT.acmp .ne (.ref a) (.ref b) = false := by subst h; exact ⟨decide_eq_true rfl, decide_eq_false (fun q => q rfl)⟩
theorem own_ane {a b : Addr} (h : ¬ a = b) : XT.acmp .eq (.ref a) (.ref b) = false ∧ XT.acmp .ne (.ref a) (.ref b) = true := ⟨decide_eq_false (fun q => h (by cases q; rfl)), decide_eq_true (fun q => h (by cases q; rfl))⟩
theorem own_ext {h0 h : Heap} (K : Keep h0 h []) : Ext h0 h := ⟨K.1, fun x c q => K.2.1 x c q nin0⟩
end GoKit
theorem own_sta {Z : State} {args : Array Value} {C f d K : String} (h : (Jvm.Cond.exactly (.static C f d) K).value args Z none Z [] = some true) (wi : (Jvm.Cond.initialized C).before args Z = true) (wl : (Jvm.Cond.laysStatic C f d).before args Z = true) :
    ∃ x, (Term.static C f d).eval args Z none [] Z = some (.ref x) ∧ Sta Z Z.heap C f d (.ref x) ∧ Exa Z Z.heap x K := by
  obtain ⟨x, ev⟩ := exa_v h
  exact ⟨x, ev, Sta.start ev (Or.inr ⟨wi, wl⟩), Exa.start ev h⟩
theorem own_fldI {Z : State} {args : Array Value} {t : Term} {O n d : String} {k : Int32} {x : Addr} (ev : t.eval args Z none [] Z = some (.ref x)) (h : (Jvm.Cond.eq (.field t O n d) (.int k)).value args Z none Z [] = some true) : Fld Z Z.heap x O n d (.int k) := by
  obtain ⟨u, v, e1, e2, k1, -⟩ := cmp_v (Or.inl h)
  have e3 : v = .int k := by simpa [Term.eval] using e2.symm
  subst e3
  obtain ⟨z, rfl⟩ : ∃ z, u = .int z := by cases u <;> simp [Kin, Value.isRef] at k1 ⊢
  have q : z = k := gotT (Cond.eq_ints e1 e2) h
  subst q
  exact Fld.start ((fld_at ev).symm.trans e1)
def own_pick (aR aC aW : Addr) (k : Int32) : Addr := if (k &&& (2147483647 : Int32)) % (3 : Int32) = (0 : Int32) then aR else if (k &&& (2147483647 : Int32)) % (3 : Int32) = (1 : Int32) then aC else aW
theorem own_pick_mem (aR aC aW : Addr) (k : Int32) : own_pick aR aC aW k = aR ∨ own_pick aR aC aW k = aC ∨ own_pick aR aC aW k = aW := by
  unfold own_pick; (repeat' split) <;> simp
def own_conf (aW a b : Addr) : Int32 := if a = b then (if a = aW then 1 else 0) else 1
theorem own_conf_comm (aW a b : Addr) : own_conf aW a b = own_conf aW b a := by
  unfold own_conf; (repeat' split) <;> simp_all
theorem own_conf0r {aR aC aW a b : Addr} (n1 : ¬ aR = aC) (n2 : ¬ aR = aW) (n3 : ¬ aC = aW) (h1 : a = aR) (h2 : b = aR) : own_conf aW a b = 0 := by subst h1 h2; simp [own_conf, n2]
theorem own_conf0c {aR aC aW a b : Addr} (n1 : ¬ aR = aC) (n2 : ¬ aR = aW) (n3 : ¬ aC = aW) (h1 : a = aC) (h2 : b = aC) : own_conf aW a b = 0 := by subst h1 h2; simp [own_conf, n3]
theorem own_conf1 {aR aC aW a b : Addr} (ha : a = aR ∨ a = aC ∨ a = aW) (h1 : ¬ (a = aR ∧ b = aR)) (h2 : ¬ (a = aC ∧ b = aC)) : own_conf aW a b = 1 := by
  unfold own_conf; split
  · rename_i q; subst q; simp only [and_self] at h1 h2; simp only [h1, h2, false_or] at ha; simp [ha]
  · rfl
theorem d_method_2_code_0 : decode method_2_code 0 = .ok (.iload_n 0, 1) := by decide +kernel
theorem d_method_2_code_1 : decode method_2_code 1 = .ok (.ldc 7, 2) := by decide +kernel
theorem d_method_2_code_3 : decode method_2_code 3 = .ok (.iand, 1) := by decide +kernel
theorem d_method_2_code_4 : decode method_2_code 4 = .ok (.iconst 3, 1) := by decide +kernel
theorem d_method_2_code_5 : decode method_2_code 5 = .ok (.irem, 1) := by decide +kernel
theorem d_method_2_code_6 : decode method_2_code 6 = .ok (.istore_n 1, 1) := by decide +kernel
theorem d_method_2_code_7 : decode method_2_code 7 = .ok (.iload_n 1, 1) := by decide +kernel
theorem d_method_2_code_8 : decode method_2_code 8 = .ok (.ifCond .ne 7, 3) := by decide +kernel
theorem d_method_2_code_11 : decode method_2_code 11 = .ok (.getstatic 8, 3) := by decide +kernel
theorem d_method_2_code_14 : decode method_2_code 14 = .ok (.areturn, 1) := by decide +kernel
theorem d_method_2_code_15 : decode method_2_code 15 = .ok (.iload_n 1, 1) := by decide +kernel
theorem d_method_2_code_16 : decode method_2_code 16 = .ok (.iconst 1, 1) := by decide +kernel
theorem d_method_2_code_17 : decode method_2_code 17 = .ok (.if_icmp .ne 7, 3) := by decide +kernel
theorem d_method_2_code_20 : decode method_2_code 20 = .ok (.getstatic 14, 3) := by decide +kernel
theorem d_method_2_code_23 : decode method_2_code 23 = .ok (.areturn, 1) := by decide +kernel
theorem d_method_2_code_24 : decode method_2_code 24 = .ok (.getstatic 17, 3) := by decide +kernel
theorem d_method_2_code_27 : decode method_2_code 27 = .ok (.areturn, 1) := by decide +kernel
theorem pn_ironwood_runtime_ModeConflictsPinLaw : plainName "ironwood/runtime/ModeConflictsPinLaw" = true := by first | (simp [plainName, overriddenIn]; done) | decide +kernel
theorem d_prog_80_method_4_code_0 : decode prog_80_method_4_code 0 = .ok (.aload_n 0, 1) := by decide +kernel
theorem d_prog_80_method_4_code_1 : decode prog_80_method_4_code 1 = .ok (.aload_n 1, 1) := by decide +kernel
theorem d_prog_80_method_4_code_2 : decode prog_80_method_4_code 2 = .ok (.if_acmp .ne 10, 3) := by decide +kernel
theorem d_prog_80_method_4_code_5 : decode prog_80_method_4_code 5 = .ok (.aload_n 0, 1) := by decide +kernel
theorem d_prog_80_method_4_code_6 : decode prog_80_method_4_code 6 = .ok (.getstatic 10, 3) := by decide +kernel
theorem d_prog_80_method_4_code_9 : decode prog_80_method_4_code 9 = .ok (.if_acmp .ne 7, 3) := by decide +kernel
theorem d_prog_80_method_4_code_12 : decode prog_80_method_4_code 12 = .ok (.iconst 1, 1) := by decide +kernel
theorem d_prog_80_method_4_code_13 : decode prog_80_method_4_code 13 = .ok (.goto 4, 3) := by decide +kernel
theorem d_prog_80_method_4_code_17 : decode prog_80_method_4_code 17 = .ok (.ireturn, 1) := by decide +kernel
theorem d_prog_80_method_4_code_16 : decode prog_80_method_4_code 16 = .ok (.iconst 0, 1) := by decide +kernel
theorem pn_ironwood_runtime_Locks_Mode : plainName "ironwood/runtime/Locks$Mode" = true := by first | (simp [plainName, overriddenIn]; done) | decide +kernel
theorem pd_28I29Lironwood2fruntime2fLocks24Mode3b : parseMethodDescriptor "(I)Lironwood/runtime/Locks$Mode;" = some ⟨[.int], some (.object "ironwood/runtime/Locks$Mode")⟩ := by decide +kernel
theorem pd_28Lironwood2fruntime2fLocks24Mode3b29Z : parseMethodDescriptor "(Lironwood/runtime/Locks$Mode;)Z" = some ⟨[(.object "ironwood/runtime/Locks$Mode")], some .boolean⟩ := by decide +kernel
theorem ef_rmPick (x0 : Int32) (m : MethodId) : entryFrame m #[(.int x0)] 2 = mkF m 0 #[.val (.int x0), .unset] [] := by first | (simp [entryFrame, mkF, argsToLocals, Value.category]; done) | rfl
set_option maxRecDepth 65536 in
set_option maxHeartbeats 40000000 in
theorem rmPick (l : Launch) (Z : State) (a0 : Array Value) (hw : ∀ d ∈ tables_1, d.before a0 Z = true) (p1 : Int32) (aR aC aW : Addr) (h0 : Heap) (S_READ : Sta Z h0 "ironwood/runtime/Locks$Mode" "READ" "Lironwood/runtime/Locks$Mode;" (.ref aR)) (S_COMMUTE : Sta Z h0 "ironwood/runtime/Locks$Mode" "COMMUTE" "Lironwood/runtime/Locks$Mode;" (.ref aC)) (S_WRITE : Sta Z h0 "ironwood/runtime/Locks$Mode" "WRITE" "Lironwood/runtime/Locks$Mode;" (.ref aW)) :
    Does l Z (⟨"ironwood/runtime/ModeConflictsPinLaw", "pick", "(I)Lironwood/runtime/Locks$Mode;"⟩ : MethodName) method_2_code 2 (some (.object "ironwood/runtime/Locks$Mode")) [] ({ frames := 0, cells := 0, slots := 0, locals := 0 } : Room) #[(.int p1)] h0 (Val (some (.ref (own_pick aR aC aW p1))) h0) := by
  refine Does.intro pn_ironwood_runtime_ModeConflictsPinLaw (ef_rmPick p1) ?_
  intro p e s m below meth c s₁ hx hby hml hown hnm hret hlk hZ e0 X0
  show Go p e below _ s₁ (mkF m 0 #[.val (.int p1), .unset] [])
  refine Go.st (fun _ h => XS.iloadN X0.here hx rfl (hb hby d_method_2_code_0) rfl h) ?_
  show Go p e below _ s₁ (mkF m 1 #[.val (.int p1), .unset] [(.int p1)])
  refine Go.st (fun _ h => X0.ldcI hx hown (mvT hZ (hw _ (List.mem_of_getElem? (i := 4) rfl))) rfl (hb hby d_method_2_code_1) h) ?_
  show Go p e below _ s₁ (mkF m 3 #[.val (.int p1), .unset] [(.int (2147483647 : Int32)), (.int p1)])
  refine Go.st (fun _ h => XS.iand X0.here hx rfl (hb hby d_method_2_code_3) rfl h) ?_
  show Go p e below _ s₁ (mkF m 4 #[.val (.int p1), .unset] [(.int (p1 &&& (2147483647 : Int32)))])
  refine Go.st (fun _ h => XT.iconstV X0.here hx rfl (3 : Int32) (hb hby d_method_2_code_4) (by decide) h) ?_
  show Go p e below _ s₁ (mkF m 5 #[.val (.int p1), .unset] [(.int (3 : Int32)), (.int (p1 &&& (2147483647 : Int32)))])
  refine Go.st (fun _ h => iremM X0 hx rfl (hb hby d_method_2_code_5) rfl (by decide) h) ?_
  show Go p e below _ s₁ (mkF m 6 #[.val (.int p1), .unset] [(.int ((p1 &&& (2147483647 : Int32)) % (3 : Int32)))])
  refine Go.st (fun _ h => XS.istoreN X0.here hx rfl (hb hby d_method_2_code_6) rfl (l' := #[.val (.int p1), .val (.int ((p1 &&& (2147483647 : Int32)) % (3 : Int32)))]) rfl h) ?_
  show Go p e below _ s₁ (mkF m 7 #[.val (.int p1), .val (.int ((p1 &&& (2147483647 : Int32)) % (3 : Int32)))] [])
  refine Go.st (fun _ h => XS.iloadN X0.here hx rfl (hb hby d_method_2_code_7) rfl h) ?_
  show Go p e below _ s₁ (mkF m 8 #[.val (.int p1), .val (.int ((p1 &&& (2147483647 : Int32)) % (3 : Int32)))] [(.int ((p1 &&& (2147483647 : Int32)) % (3 : Int32)))])
  by_cases hc1 : ((p1 &&& (2147483647 : Int32)) % (3 : Int32)) = (0 : Int32)
  · refine Go.st (fun _ h => XS.ifNo X0.here hx rfl (hb hby d_method_2_code_8) rfl ((if0 _ _).trans (teq hc1).2) h) ?_
    show Go p e below _ s₁ (mkF m 11 #[.val (.int p1), .val (.int ((p1 &&& (2147483647 : Int32)) % (3 : Int32)))] [])
    obtain ⟨T2, X2, e2, st2⟩ := getS2 X0 hx hZ hown (host := "") (Or.inl (hw _ (List.mem_of_getElem? (i := 5) rfl))) Via.refl e0 S_READ (g := (mkF m 11 #[.val (.int p1), .val (.int ((p1 &&& (2147483647 : Int32)) % (3 : Int32)))] [])) rfl (hb hby d_method_2_code_11)
    refine Go.st st2 ?_
    show Go p e below _ T2 (mkF m 14 #[.val (.int p1), .val (.int ((p1 &&& (2147483647 : Int32)) % (3 : Int32)))] [(.ref aR)])
    refine Go.retA X2 hx hlk hret rfl rfl rfl (hb hby d_method_2_code_14) (by decide) (by decide) ?_
    exact ⟨by rw [own_pick, if_pos hc1], rfl, e2⟩
  · refine Go.st (fun _ h => XS.ifYes X0.here hx rfl (pc0 := 8) (pc' := 15) rfl (hb hby d_method_2_code_8) rfl ((if0 _ _).trans (feq hc1).2) (by decide) (by decide) h) ?_
    show Go p e below _ s₁ (mkF m 15 #[.val (.int p1), .val (.int ((p1 &&& (2147483647 : Int32)) % (3 : Int32)))] [])
    refine Go.st (fun _ h => XS.iloadN X0.here hx rfl (hb hby d_method_2_code_15) rfl h) ?_
    show Go p e below _ s₁ (mkF m 16 #[.val (.int p1), .val (.int ((p1 &&& (2147483647 : Int32)) % (3 : Int32)))] [(.int ((p1 &&& (2147483647 : Int32)) % (3 : Int32)))])
    refine Go.st (fun _ h => XT.iconstV X0.here hx rfl (1 : Int32) (hb hby d_method_2_code_16) (by decide) h) ?_
    show Go p e below _ s₁ (mkF m 17 #[.val (.int p1), .val (.int ((p1 &&& (2147483647 : Int32)) % (3 : Int32)))] [(.int (1 : Int32)), (.int ((p1 &&& (2147483647 : Int32)) % (3 : Int32)))])
    by_cases hc3 : ((p1 &&& (2147483647 : Int32)) % (3 : Int32)) = (1 : Int32)
    · refine Go.st (fun _ h => XS.icmpNo X0.here hx rfl (hb hby d_method_2_code_17) rfl ((teq hc3).2) h) ?_
      show Go p e below _ s₁ (mkF m 20 #[.val (.int p1), .val (.int ((p1 &&& (2147483647 : Int32)) % (3 : Int32)))] [])
      obtain ⟨T4, X4, e4, st4⟩ := getS2 X0 hx hZ hown (host := "") (Or.inl (hw _ (List.mem_of_getElem? (i := 8) rfl))) Via.refl e0 S_COMMUTE (g := (mkF m 20 #[.val (.int p1), .val (.int ((p1 &&& (2147483647 : Int32)) % (3 : Int32)))] [])) rfl (hb hby d_method_2_code_20)
      refine Go.st st4 ?_
      show Go p e below _ T4 (mkF m 23 #[.val (.int p1), .val (.int ((p1 &&& (2147483647 : Int32)) % (3 : Int32)))] [(.ref aC)])
      refine Go.retA X4 hx hlk hret rfl rfl rfl (hb hby d_method_2_code_23) (by decide) (by decide) ?_
      exact ⟨by rw [own_pick, if_neg hc1, if_pos hc3], rfl, e4⟩
    · refine Go.st (fun _ h => XS.icmpYes X0.here hx rfl (pc0 := 17) (pc' := 24) rfl (hb hby d_method_2_code_17) rfl ((feq hc3).2) (by decide) (by decide) h) ?_
      show Go p e below _ s₁ (mkF m 24 #[.val (.int p1), .val (.int ((p1 &&& (2147483647 : Int32)) % (3 : Int32)))] [])
      obtain ⟨T5, X5, e5, st5⟩ := getS2 X0 hx hZ hown (host := "") (Or.inl (hw _ (List.mem_of_getElem? (i := 17) rfl))) Via.refl e0 S_WRITE (g := (mkF m 24 #[.val (.int p1), .val (.int ((p1 &&& (2147483647 : Int32)) % (3 : Int32)))] [])) rfl (hb hby d_method_2_code_24)
      refine Go.st st5 ?_
      show Go p e below _ T5 (mkF m 27 #[.val (.int p1), .val (.int ((p1 &&& (2147483647 : Int32)) % (3 : Int32)))] [(.ref aW)])
      refine Go.retA X5 hx hlk hret rfl rfl rfl (hb hby d_method_2_code_27) (by decide) (by decide) ?_
      exact ⟨by rw [own_pick, if_neg hc1, if_neg hc3], rfl, e5⟩
theorem ef_rmConf (x0 : Addr) (x1 : Addr) (m : MethodId) : entryFrame m #[(.ref x0), (.ref x1)] 2 = mkF m 0 #[.val (.ref x0), .val (.ref x1)] [] := by first | (simp [entryFrame, mkF, argsToLocals, Value.category]; done) | rfl
set_option maxRecDepth 65536 in
set_option maxHeartbeats 40000000 in
theorem rmConf (l : Launch) (Z : State) (a0 : Array Value) (hw : ∀ d ∈ tables_1, d.before a0 Z = true) (a1 a2 aW : Addr) (h0 : Heap) (S_WRITE : Sta Z h0 "ironwood/runtime/Locks$Mode" "WRITE" "Lironwood/runtime/Locks$Mode;" (.ref aW)) :
    Does l Z (⟨"ironwood/runtime/Locks$Mode", "conflicts", "(Lironwood/runtime/Locks$Mode;)Z"⟩ : MethodName) prog_80_method_4_code 2 (some .boolean) [] ({ frames := 0, cells := 0, slots := 0, locals := 0 } : Room) #[(.ref a1), (.ref a2)] h0 (Val (some (.int (own_conf aW a1 a2))) h0) := by
  refine Does.intro pn_ironwood_runtime_Locks_Mode (ef_rmConf a1 a2) ?_
  intro p e s m below meth c s₁ hx hby hml hown hnm hret hlk hZ e0 X0
  show Go p e below _ s₁ (mkF m 0 #[.val (.ref a1), .val (.ref a2)] [])
  refine Go.st (fun _ h => XS.aloadN X0.here hx rfl (hb hby d_prog_80_method_4_code_0) rfl rfl h) ?_
  show Go p e below _ s₁ (mkF m 1 #[.val (.ref a1), .val (.ref a2)] [(.ref a1)])
  refine Go.st (fun _ h => XS.aloadN X0.here hx rfl (hb hby d_prog_80_method_4_code_1) rfl rfl h) ?_
  show Go p e below _ s₁ (mkF m 2 #[.val (.ref a1), .val (.ref a2)] [(.ref a2), (.ref a1)])
  by_cases hc1 : a1 = a2
  · refine Go.st (fun _ h => XT.acmpNo X0.here hx rfl (hb hby d_prog_80_method_4_code_2) rfl rfl rfl ((own_aeq hc1).2) h) ?_
    show Go p e below _ s₁ (mkF m 5 #[.val (.ref a1), .val (.ref a2)] [])
    refine Go.st (fun _ h => XS.aloadN X0.here hx rfl (hb hby d_prog_80_method_4_code_5) rfl rfl h) ?_
    show Go p e below _ s₁ (mkF m 6 #[.val (.ref a1), .val (.ref a2)] [(.ref a1)])
    obtain ⟨T2, X2, e2, st2⟩ := getS2 X0 hx hZ hown (host := "") (Or.inl (hw _ (List.mem_of_getElem? (i := 15) rfl))) Via.refl e0 S_WRITE (g := (mkF m 6 #[.val (.ref a1), .val (.ref a2)] [(.ref a1)])) rfl (hb hby d_prog_80_method_4_code_6)
    refine Go.st st2 ?_
    show Go p e below _ T2 (mkF m 9 #[.val (.ref a1), .val (.ref a2)] [(.ref aW), (.ref a1)])
    by_cases hc3 : a1 = aW
    · refine Go.st (fun _ h => XT.acmpNo X2.here hx rfl (hb hby d_prog_80_method_4_code_9) rfl rfl rfl ((own_aeq hc3).2) h) ?_
      show Go p e below _ T2 (mkF m 12 #[.val (.ref a1), .val (.ref a2)] [])
      refine Go.st (fun _ h => XT.iconstV X2.here hx rfl (1 : Int32) (hb hby d_prog_80_method_4_code_12) (by decide) h) ?_
      show Go p e below _ T2 (mkF m 13 #[.val (.ref a1), .val (.ref a2)] [(.int (1 : Int32))])
      refine Go.st (fun _ h => XS.goto X2.here hx rfl (pc0 := 13) (pc' := 17) rfl (hb hby d_prog_80_method_4_code_13) (by decide) (by decide) h) ?_
      show Go p e below _ T2 (mkF m 17 #[.val (.ref a1), .val (.ref a2)] [(.int (1 : Int32))])
      refine Go.retZ X2 hx hlk hret rfl (hb hby d_prog_80_method_4_code_17) (by decide) (by decide) ?_
      exact ⟨by rw [own_conf, if_pos hc1, if_pos hc3], rfl, e2⟩
    · refine Go.st (fun _ h => XT.acmpYes X2.here hx rfl (pc0 := 9) (pc' := 16) rfl (hb hby d_prog_80_method_4_code_9) rfl rfl rfl ((own_ane hc3).2) (by decide) (by decide) h) ?_
      show Go p e below _ T2 (mkF m 16 #[.val (.ref a1), .val (.ref a2)] [])
      refine Go.st (fun _ h => XT.iconstV X2.here hx rfl (0 : Int32) (hb hby d_prog_80_method_4_code_16) (by decide) h) ?_
      show Go p e below _ T2 (mkF m 17 #[.val (.ref a1), .val (.ref a2)] [(.int (0 : Int32))])
      refine Go.retZ X2 hx hlk hret rfl (hb hby d_prog_80_method_4_code_17) (by decide) (by decide) ?_
      exact ⟨by rw [own_conf, if_pos hc1, if_neg hc3], rfl, e2⟩
  · refine Go.st (fun _ h => XT.acmpYes X0.here hx rfl (pc0 := 2) (pc' := 12) rfl (hb hby d_prog_80_method_4_code_2) rfl rfl rfl ((own_ane hc1).2) (by decide) (by decide) h) ?_
    show Go p e below _ s₁ (mkF m 12 #[.val (.ref a1), .val (.ref a2)] [])
    refine Go.st (fun _ h => XT.iconstV X0.here hx rfl (1 : Int32) (hb hby d_prog_80_method_4_code_12) (by decide) h) ?_
    show Go p e below _ s₁ (mkF m 13 #[.val (.ref a1), .val (.ref a2)] [(.int (1 : Int32))])
    refine Go.st (fun _ h => XS.goto X0.here hx rfl (pc0 := 13) (pc' := 17) rfl (hb hby d_prog_80_method_4_code_13) (by decide) (by decide) h) ?_
    show Go p e below _ s₁ (mkF m 17 #[.val (.ref a1), .val (.ref a2)] [(.int (1 : Int32))])
    refine Go.retZ X0 hx hlk hret rfl (hb hby d_prog_80_method_4_code_17) (by decide) (by decide) ?_
    exact ⟨by rw [own_conf, if_neg hc1], rfl, e0⟩
theorem ef_rmLaw (x0 : Int32) (x1 : Int32) (m : MethodId) : entryFrame m #[(.int x0), (.int x1)] maxLocals = mkF m 0 #[.val (.int x0), .val (.int x1), .unset, .unset, .unset, .unset, .unset, .unset, .unset] [] := by first | (simp [entryFrame, mkF, argsToLocals, Value.category, maxLocals]; done) | rfl
set_option maxRecDepth 65536 in
set_option maxHeartbeats 40000000 in
theorem rmLaw (l : Launch) (Z : State) (a0 : Array Value) (hw : ∀ d ∈ tables_1, d.before a0 Z = true) (p1 p2 : Int32) (aR aC aW : Addr) (h0 : Heap) (n0 : Nat) (S_READ : Sta Z h0 "ironwood/runtime/Locks$Mode" "READ" "Lironwood/runtime/Locks$Mode;" (.ref aR)) (E_READ : Exa Z h0 aR "ironwood/runtime/Locks$Mode") (S_COMMUTE : Sta Z h0 "ironwood/runtime/Locks$Mode" "COMMUTE" "Lironwood/runtime/Locks$Mode;" (.ref aC)) (E_COMMUTE : Exa Z h0 aC "ironwood/runtime/Locks$Mode") (S_WRITE : Sta Z h0 "ironwood/runtime/Locks$Mode" "WRITE" "Lironwood/runtime/Locks$Mode;" (.ref aW)) (E_WRITE : Exa Z h0 aW "ironwood/runtime/Locks$Mode") (n1 : ¬ aR = aC) (n2 : ¬ aR = aW) (n3 : ¬ aC = aW) :
    Does l Z x code maxLocals ret tables_1 room_1 #[(.int p1), (.int p2)] h0 (fun v h L => v = some (.int 1) ∧ Fr n0 L) := by
  refine Does.intro pn_ironwood_runtime_ModeConflictsPinLaw (ef_rmLaw p1 p2) ?_
  intro p e s m below meth c s₁ hx hby hml hown hnm hret hlk hZ e0 X0
  show Go p e below _ s₁ (mkF m 0 #[.val (.int p1), .val (.int p2), .unset, .unset, .unset, .unset, .unset, .unset, .unset] [])
  obtain ⟨kp1, gp1⟩ : ∃ z, z = own_pick aR aC aW p1 := ⟨_, rfl⟩
  obtain ⟨kp2, gp2⟩ : ∃ z, z = own_pick aR aC aW p2 := ⟨_, rfl⟩
  have m1 := own_pick_mem aR aC aW p1
  have m2 := own_pick_mem aR aC aW p2
  have D1 := rmPick l Z a0 hw p1 aR aC aW h0 S_READ S_COMMUTE S_WRITE
  have D2 := rmPick l Z a0 hw p2 aR aC aW h0 S_READ S_COMMUTE S_WRITE
  rw [← gp1] at m1 D1
  rw [← gp2] at m2 D2
  have Ekp1 : Exa Z h0 kp1 "ironwood/runtime/Locks$Mode" := by rcases m1 with q | q | q <;> rw [q] <;> assumption
  have Ekp2 : Exa Z h0 kp2 "ironwood/runtime/Locks$Mode" := by rcases m2 with q | q | q <;> rw [q] <;> assumption
  refine Go.st (fun _ h => XS.iloadN X0.here hx rfl (hb hby at_0) rfl h) ?_
  show Go p e below _ s₁ (mkF m 1 #[.val (.int p1), .val (.int p2), .unset, .unset, .unset, .unset, .unset, .unset, .unset] [(.int p1)])
  obtain ⟨T1, X1, e1, st1⟩ := own_still rfl rfl (Does.static (y := (⟨"ironwood/runtime/ModeConflictsPinLaw", "pick", "(I)Lironwood/runtime/Locks$Mode;"⟩ : MethodName)) (g := (mkF m 1 #[.val (.int p1), .val (.int p2), .unset, .unset, .unset, .unset, .unset, .unset, .unset] [(.int p1)])) D1 X0 hx hZ hown e0 (hw _ (List.mem_of_getElem? (i := 0) rfl)) (hw _ (List.mem_of_getElem? (i := 1) rfl)) (hw _ (List.mem_of_getElem? (i := 2) rfl)) (hw _ (List.mem_of_getElem? (i := 3) rfl)) (by decide) rfl (by rw [hml]; rfl) (argsL := [(.int p1)]) (rest := []) (lenOf pd_28I29Lironwood2fruntime2fLocks24Mode3b rfl) rfl (hb hby at_1) (W := 0) (by show 2 * 0 + _ ≤ _; exact Nat.le_of_eq rfl) (by decide) (by decide) (by decide) (by decide))
  refine Go.st st1 ?_
  show Go p e below _ T1 (mkF m 4 #[.val (.int p1), .val (.int p2), .unset, .unset, .unset, .unset, .unset, .unset, .unset] [(.ref kp1)])
  refine Go.st (fun _ h => XS.astoreN X1.here hx rfl (hb hby at_4) rfl rfl (l' := #[.val (.int p1), .val (.int p2), .val (.ref kp1), .unset, .unset, .unset, .unset, .unset, .unset]) rfl h) ?_
  show Go p e below _ T1 (mkF m 5 #[.val (.int p1), .val (.int p2), .val (.ref kp1), .unset, .unset, .unset, .unset, .unset, .unset] [])
  refine Go.st (fun _ h => XS.iloadN X1.here hx rfl (hb hby at_5) rfl h) ?_
  show Go p e below _ T1 (mkF m 6 #[.val (.int p1), .val (.int p2), .val (.ref kp1), .unset, .unset, .unset, .unset, .unset, .unset] [(.int p2)])
  obtain ⟨T2, X2, e2, st2⟩ := own_still rfl rfl (Does.static (y := (⟨"ironwood/runtime/ModeConflictsPinLaw", "pick", "(I)Lironwood/runtime/Locks$Mode;"⟩ : MethodName)) (g := (mkF m 6 #[.val (.int p1), .val (.int p2), .val (.ref kp1), .unset, .unset, .unset, .unset, .unset, .unset] [(.int p2)])) D2 X1 hx hZ hown e1 (hw _ (List.mem_of_getElem? (i := 0) rfl)) (hw _ (List.mem_of_getElem? (i := 1) rfl)) (hw _ (List.mem_of_getElem? (i := 2) rfl)) (hw _ (List.mem_of_getElem? (i := 3) rfl)) (by decide) rfl (by rw [hml]; rfl) (argsL := [(.int p2)]) (rest := []) (lenOf pd_28I29Lironwood2fruntime2fLocks24Mode3b rfl) rfl (hb hby at_6) (W := 0) (by show 2 * 0 + _ ≤ _; exact Nat.le_of_eq rfl) (by decide) (by decide) (by decide) (by decide))
  refine Go.st st2 ?_
  show Go p e below _ T2 (mkF m 9 #[.val (.int p1), .val (.int p2), .val (.ref kp1), .unset, .unset, .unset, .unset, .unset, .unset] [(.ref kp2)])
  refine Go.st (fun _ h => XS.astoreN X2.here hx rfl (hb hby at_9) rfl rfl (l' := #[.val (.int p1), .val (.int p2), .val (.ref kp1), .val (.ref kp2), .unset, .unset, .unset, .unset, .unset]) rfl h) ?_
  show Go p e below _ T2 (mkF m 10 #[.val (.int p1), .val (.int p2), .val (.ref kp1), .val (.ref kp2), .unset, .unset, .unset, .unset, .unset] [])
  refine Go.st (fun _ h => XS.aloadN X2.here hx rfl (hb hby at_10) rfl rfl h) ?_
  show Go p e below _ T2 (mkF m 11 #[.val (.int p1), .val (.int p2), .val (.ref kp1), .val (.ref kp2), .unset, .unset, .unset, .unset, .unset] [(.ref kp1)])
  obtain ⟨T3, X3, e3, st3⟩ := getS2 X2 hx hZ hown (host := "") (Or.inl (hw _ (List.mem_of_getElem? (i := 5) rfl))) Via.refl e2 S_READ (g := (mkF m 11 #[.val (.int p1), .val (.int p2), .val (.ref kp1), .val (.ref kp2), .unset, .unset, .unset, .unset, .unset] [(.ref kp1)])) rfl (hb hby at_11)
  refine Go.st st3 ?_
  show Go p e below _ T3 (mkF m 14 #[.val (.int p1), .val (.int p2), .val (.ref kp1), .val (.ref kp2), .unset, .unset, .unset, .unset, .unset] [(.ref aR), (.ref kp1)])
  by_cases hc4 : kp1 = aR
  · refine Go.st (fun _ h => XT.acmpNo X3.here hx rfl (hb hby at_14) rfl rfl rfl ((own_aeq hc4).2) h) ?_
    show Go p e below _ T3 (mkF m 17 #[.val (.int p1), .val (.int p2), .val (.ref kp1), .val (.ref kp2), .unset, .unset, .unset, .unset, .unset] [])
    refine Go.st (fun _ h => XS.aloadN X3.here hx rfl (hb hby at_17) rfl rfl h) ?_
    show Go p e below _ T3 (mkF m 18 #[.val (.int p1), .val (.int p2), .val (.ref kp1), .val (.ref kp2), .unset, .unset, .unset, .unset, .unset] [(.ref kp2)])
    obtain ⟨T5, X5, e5, st5⟩ := getS2 X3 hx hZ hown (host := "") (Or.inl (hw _ (List.mem_of_getElem? (i := 5) rfl))) Via.refl e3 S_READ (g := (mkF m 18 #[.val (.int p1), .val (.int p2), .val (.ref kp1), .val (.ref kp2), .unset, .unset, .unset, .unset, .unset] [(.ref kp2)])) rfl (hb hby at_18)
    refine Go.st st5 ?_
    show Go p e below _ T5 (mkF m 21 #[.val (.int p1), .val (.int p2), .val (.ref kp1), .val (.ref kp2), .unset, .unset, .unset, .unset, .unset] [(.ref aR), (.ref kp2)])
    by_cases hc6 : kp2 = aR
    · refine Go.st (fun _ h => XT.acmpNo X5.here hx rfl (hb hby at_21) rfl rfl rfl ((own_aeq hc6).2) h) ?_
      show Go p e below _ T5 (mkF m 24 #[.val (.int p1), .val (.int p2), .val (.ref kp1), .val (.ref kp2), .unset, .unset, .unset, .unset, .unset] [])
      refine Go.st (fun _ h => XT.iconstV X5.here hx rfl (1 : Int32) (hb hby at_24) (by decide) h) ?_
      show Go p e below _ T5 (mkF m 25 #[.val (.int p1), .val (.int p2), .val (.ref kp1), .val (.ref kp2), .unset, .unset, .unset, .unset, .unset] [(.int (1 : Int32))])
      refine Go.st (fun _ h => XS.goto X5.here hx rfl (pc0 := 25) (pc' := 29) rfl (hb hby at_25) (by decide) (by decide) h) ?_
      show Go p e below _ T5 (mkF m 29 #[.val (.int p1), .val (.int p2), .val (.ref kp1), .val (.ref kp2), .unset, .unset, .unset, .unset, .unset] [(.int (1 : Int32))])
      refine Go.st (fun _ h => XS.istore X5.here hx rfl (hb hby at_29) rfl (l' := #[.val (.int p1), .val (.int p2), .val (.ref kp1), .val (.ref kp2), .val (.int (1 : Int32)), .unset, .unset, .unset, .unset]) rfl h) ?_
      show Go p e below _ T5 (mkF m 31 #[.val (.int p1), .val (.int p2), .val (.ref kp1), .val (.ref kp2), .val (.int (1 : Int32)), .unset, .unset, .unset, .unset] [])
      refine Go.st (fun _ h => XS.aloadN X5.here hx rfl (hb hby at_31) rfl rfl h) ?_
      show Go p e below _ T5 (mkF m 32 #[.val (.int p1), .val (.int p2), .val (.ref kp1), .val (.ref kp2), .val (.int (1 : Int32)), .unset, .unset, .unset, .unset] [(.ref kp1)])
      obtain ⟨T7, X7, e7, st7⟩ := getS2 X5 hx hZ hown (host := "") (Or.inl (hw _ (List.mem_of_getElem? (i := 8) rfl))) Via.refl e5 S_COMMUTE (g := (mkF m 32 #[.val (.int p1), .val (.int p2), .val (.ref kp1), .val (.ref kp2), .val (.int (1 : Int32)), .unset, .unset, .unset, .unset] [(.ref kp1)])) rfl (hb hby at_32)
      refine Go.st st7 ?_
      show Go p e below _ T7 (mkF m 35 #[.val (.int p1), .val (.int p2), .val (.ref kp1), .val (.ref kp2), .val (.int (1 : Int32)), .unset, .unset, .unset, .unset] [(.ref aC), (.ref kp1)])
      by_cases hc8 : kp1 = aC
      · refine Go.st (fun _ h => XT.acmpNo X7.here hx rfl (hb hby at_35) rfl rfl rfl ((own_aeq hc8).2) h) ?_
        show Go p e below _ T7 (mkF m 38 #[.val (.int p1), .val (.int p2), .val (.ref kp1), .val (.ref kp2), .val (.int (1 : Int32)), .unset, .unset, .unset, .unset] [])
        refine Go.st (fun _ h => XS.aloadN X7.here hx rfl (hb hby at_38) rfl rfl h) ?_
        show Go p e below _ T7 (mkF m 39 #[.val (.int p1), .val (.int p2), .val (.ref kp1), .val (.ref kp2), .val (.int (1 : Int32)), .unset, .unset, .unset, .unset] [(.ref kp2)])
        obtain ⟨T9, X9, e9, st9⟩ := getS2 X7 hx hZ hown (host := "") (Or.inl (hw _ (List.mem_of_getElem? (i := 8) rfl))) Via.refl e7 S_COMMUTE (g := (mkF m 39 #[.val (.int p1), .val (.int p2), .val (.ref kp1), .val (.ref kp2), .val (.int (1 : Int32)), .unset, .unset, .unset, .unset] [(.ref kp2)])) rfl (hb hby at_39)
        refine Go.st st9 ?_
        show Go p e below _ T9 (mkF m 42 #[.val (.int p1), .val (.int p2), .val (.ref kp1), .val (.ref kp2), .val (.int (1 : Int32)), .unset, .unset, .unset, .unset] [(.ref aC), (.ref kp2)])
        by_cases hc10 : kp2 = aC
        · refine Go.st (fun _ h => XT.acmpNo X9.here hx rfl (hb hby at_42) rfl rfl rfl ((own_aeq hc10).2) h) ?_
          show Go p e below _ T9 (mkF m 45 #[.val (.int p1), .val (.int p2), .val (.ref kp1), .val (.ref kp2), .val (.int (1 : Int32)), .unset, .unset, .unset, .unset] [])
          refine Go.st (fun _ h => XT.iconstV X9.here hx rfl (1 : Int32) (hb hby at_45) (by decide) h) ?_
          show Go p e below _ T9 (mkF m 46 #[.val (.int p1), .val (.int p2), .val (.ref kp1), .val (.ref kp2), .val (.int (1 : Int32)), .unset, .unset, .unset, .unset] [(.int (1 : Int32))])
          refine Go.st (fun _ h => XS.goto X9.here hx rfl (pc0 := 46) (pc' := 50) rfl (hb hby at_46) (by decide) (by decide) h) ?_
          show Go p e below _ T9 (mkF m 50 #[.val (.int p1), .val (.int p2), .val (.ref kp1), .val (.ref kp2), .val (.int (1 : Int32)), .unset, .unset, .unset, .unset] [(.int (1 : Int32))])
          refine Go.st (fun _ h => XS.istore X9.here hx rfl (hb hby at_50) rfl (l' := #[.val (.int p1), .val (.int p2), .val (.ref kp1), .val (.ref kp2), .val (.int (1 : Int32)), .val (.int (1 : Int32)), .unset, .unset, .unset]) rfl h) ?_
          show Go p e below _ T9 (mkF m 52 #[.val (.int p1), .val (.int p2), .val (.ref kp1), .val (.ref kp2), .val (.int (1 : Int32)), .val (.int (1 : Int32)), .unset, .unset, .unset] [])
          refine Go.st (fun _ h => XS.iload X9.here hx rfl (hb hby at_52) rfl h) ?_
          show Go p e below _ T9 (mkF m 54 #[.val (.int p1), .val (.int p2), .val (.ref kp1), .val (.ref kp2), .val (.int (1 : Int32)), .val (.int (1 : Int32)), .unset, .unset, .unset] [(.int (1 : Int32))])
          refine Go.st (fun _ h => XS.ifYes X9.here hx rfl (pc0 := 54) (pc' := 66) rfl (hb hby at_54) rfl (by decide) (by decide) (by decide) h) ?_
          show Go p e below _ T9 (mkF m 66 #[.val (.int p1), .val (.int p2), .val (.ref kp1), .val (.ref kp2), .val (.int (1 : Int32)), .val (.int (1 : Int32)), .unset, .unset, .unset] [])
          refine Go.st (fun _ h => XT.iconstV X9.here hx rfl (0 : Int32) (hb hby at_66) (by decide) h) ?_
          show Go p e below _ T9 (mkF m 67 #[.val (.int p1), .val (.int p2), .val (.ref kp1), .val (.ref kp2), .val (.int (1 : Int32)), .val (.int (1 : Int32)), .unset, .unset, .unset] [(.int (0 : Int32))])
          refine Go.st (fun _ h => XS.istore X9.here hx rfl (hb hby at_67) rfl (l' := #[.val (.int p1), .val (.int p2), .val (.ref kp1), .val (.ref kp2), .val (.int (1 : Int32)), .val (.int (1 : Int32)), .val (.int (0 : Int32)), .unset, .unset]) rfl h) ?_
          show Go p e below _ T9 (mkF m 69 #[.val (.int p1), .val (.int p2), .val (.ref kp1), .val (.ref kp2), .val (.int (1 : Int32)), .val (.int (1 : Int32)), .val (.int (0 : Int32)), .unset, .unset] [])
          refine Go.st (fun _ h => XS.aloadN X9.here hx rfl (hb hby at_69) rfl rfl h) ?_
          show Go p e below _ T9 (mkF m 70 #[.val (.int p1), .val (.int p2), .val (.ref kp1), .val (.ref kp2), .val (.int (1 : Int32)), .val (.int (1 : Int32)), .val (.int (0 : Int32)), .unset, .unset] [(.ref kp1)])
          refine Go.st (fun _ h => XS.aloadN X9.here hx rfl (hb hby at_70) rfl rfl h) ?_
          show Go p e below _ T9 (mkF m 71 #[.val (.int p1), .val (.int p2), .val (.ref kp1), .val (.ref kp2), .val (.int (1 : Int32)), .val (.int (1 : Int32)), .val (.int (0 : Int32)), .unset, .unset] [(.ref kp2), (.ref kp1)])
          obtain ⟨T11, X11, e11, st11⟩ := own_still rfl rfl (Does.virtual (y := (⟨"ironwood/runtime/Locks$Mode", "conflicts", "(Lironwood/runtime/Locks$Mode;)Z"⟩ : MethodName)) (g := (mkF m 71 #[.val (.int p1), .val (.int p2), .val (.ref kp1), .val (.ref kp2), .val (.int (1 : Int32)), .val (.int (1 : Int32)), .val (.int (0 : Int32)), .unset, .unset] [(.ref kp2), (.ref kp1)])) (a := kp1) (rmConf l Z a0 hw kp1 kp2 aW h0 S_WRITE) X9 hx hZ hown e9 Ekp1 (hw _ (List.mem_of_getElem? (i := 10) rfl)) (hw _ (List.mem_of_getElem? (i := 11) rfl)) (hw _ (List.mem_of_getElem? (i := 13) rfl)) (hw _ (List.mem_of_getElem? (i := 12) rfl)) (hw _ (List.mem_of_getElem? (i := 6) rfl)) (hw _ (List.mem_of_getElem? (i := 14) rfl)) (by decide) rfl (by rw [hml]; rfl) (argsL := [(.ref kp2)]) (rest := []) (lenOf pd_28Lironwood2fruntime2fLocks24Mode3b29Z rfl) rfl (hb hby at_71) (W := 0) (by show 2 * 0 + _ ≤ _; exact Nat.le_of_eq rfl) (by decide) (by decide) (by decide) (by decide))
          refine Go.st st11 ?_
          show Go p e below _ T11 (mkF m 74 #[.val (.int p1), .val (.int p2), .val (.ref kp1), .val (.ref kp2), .val (.int (1 : Int32)), .val (.int (1 : Int32)), .val (.int (0 : Int32)), .unset, .unset] [(.int (own_conf aW kp1 kp2))])
          refine Go.st (fun _ h => XS.istore X11.here hx rfl (hb hby at_74) rfl (l' := #[.val (.int p1), .val (.int p2), .val (.ref kp1), .val (.ref kp2), .val (.int (1 : Int32)), .val (.int (1 : Int32)), .val (.int (0 : Int32)), .val (.int (own_conf aW kp1 kp2)), .unset]) rfl h) ?_
          show Go p e below _ T11 (mkF m 76 #[.val (.int p1), .val (.int p2), .val (.ref kp1), .val (.ref kp2), .val (.int (1 : Int32)), .val (.int (1 : Int32)), .val (.int (0 : Int32)), .val (.int (own_conf aW kp1 kp2)), .unset] [])
          refine Go.st (fun _ h => XS.aloadN X11.here hx rfl (hb hby at_76) rfl rfl h) ?_
          show Go p e below _ T11 (mkF m 77 #[.val (.int p1), .val (.int p2), .val (.ref kp1), .val (.ref kp2), .val (.int (1 : Int32)), .val (.int (1 : Int32)), .val (.int (0 : Int32)), .val (.int (own_conf aW kp1 kp2)), .unset] [(.ref kp2)])
          refine Go.st (fun _ h => XS.aloadN X11.here hx rfl (hb hby at_77) rfl rfl h) ?_
          show Go p e below _ T11 (mkF m 78 #[.val (.int p1), .val (.int p2), .val (.ref kp1), .val (.ref kp2), .val (.int (1 : Int32)), .val (.int (1 : Int32)), .val (.int (0 : Int32)), .val (.int (own_conf aW kp1 kp2)), .unset] [(.ref kp1), (.ref kp2)])
          obtain ⟨T12, X12, e12, st12⟩ := own_still rfl rfl (Does.virtual (y := (⟨"ironwood/runtime/Locks$Mode", "conflicts", "(Lironwood/runtime/Locks$Mode;)Z"⟩ : MethodName)) (g := (mkF m 78 #[.val (.int p1), .val (.int p2), .val (.ref kp1), .val (.ref kp2), .val (.int (1 : Int32)), .val (.int (1 : Int32)), .val (.int (0 : Int32)), .val (.int (own_conf aW kp1 kp2)), .unset] [(.ref kp1), (.ref kp2)])) (a := kp2) (rmConf l Z a0 hw kp2 kp1 aW h0 S_WRITE) X11 hx hZ hown e11 Ekp2 (hw _ (List.mem_of_getElem? (i := 10) rfl)) (hw _ (List.mem_of_getElem? (i := 11) rfl)) (hw _ (List.mem_of_getElem? (i := 13) rfl)) (hw _ (List.mem_of_getElem? (i := 12) rfl)) (hw _ (List.mem_of_getElem? (i := 6) rfl)) (hw _ (List.mem_of_getElem? (i := 14) rfl)) (by decide) rfl (by rw [hml]; rfl) (argsL := [(.ref kp1)]) (rest := []) (lenOf pd_28Lironwood2fruntime2fLocks24Mode3b29Z rfl) rfl (hb hby at_78) (W := 0) (by show 2 * 0 + _ ≤ _; exact Nat.le_of_eq rfl) (by decide) (by decide) (by decide) (by decide))
          refine Go.st st12 ?_
          show Go p e below _ T12 (mkF m 81 #[.val (.int p1), .val (.int p2), .val (.ref kp1), .val (.ref kp2), .val (.int (1 : Int32)), .val (.int (1 : Int32)), .val (.int (0 : Int32)), .val (.int (own_conf aW kp1 kp2)), .unset] [(.int (own_conf aW kp2 kp1))])
          refine Go.st (fun _ h => XS.istore X12.here hx rfl (hb hby at_81) rfl (l' := #[.val (.int p1), .val (.int p2), .val (.ref kp1), .val (.ref kp2), .val (.int (1 : Int32)), .val (.int (1 : Int32)), .val (.int (0 : Int32)), .val (.int (own_conf aW kp1 kp2)), .val (.int (own_conf aW kp2 kp1))]) rfl h) ?_
          show Go p e below _ T12 (mkF m 83 #[.val (.int p1), .val (.int p2), .val (.ref kp1), .val (.ref kp2), .val (.int (1 : Int32)), .val (.int (1 : Int32)), .val (.int (0 : Int32)), .val (.int (own_conf aW kp1 kp2)), .val (.int (own_conf aW kp2 kp1))] [])
          refine Go.st (fun _ h => XS.iload X12.here hx rfl (hb hby at_83) rfl h) ?_
          show Go p e below _ T12 (mkF m 85 #[.val (.int p1), .val (.int p2), .val (.ref kp1), .val (.ref kp2), .val (.int (1 : Int32)), .val (.int (1 : Int32)), .val (.int (0 : Int32)), .val (.int (own_conf aW kp1 kp2)), .val (.int (own_conf aW kp2 kp1))] [(.int (own_conf aW kp1 kp2))])
          refine Go.st (fun _ h => XS.iload X12.here hx rfl (hb hby at_85) rfl h) ?_
          show Go p e below _ T12 (mkF m 87 #[.val (.int p1), .val (.int p2), .val (.ref kp1), .val (.ref kp2), .val (.int (1 : Int32)), .val (.int (1 : Int32)), .val (.int (0 : Int32)), .val (.int (own_conf aW kp1 kp2)), .val (.int (own_conf aW kp2 kp1))] [(.int (0 : Int32)), (.int (own_conf aW kp1 kp2))])
          refine Go.st (fun _ h => XS.icmpNo X12.here hx rfl (hb hby at_87) rfl ((teq (own_conf0r n1 n2 n3 hc4 hc6 : (own_conf aW kp1 kp2) = (0 : Int32))).2) h) ?_
          show Go p e below _ T12 (mkF m 90 #[.val (.int p1), .val (.int p2), .val (.ref kp1), .val (.ref kp2), .val (.int (1 : Int32)), .val (.int (1 : Int32)), .val (.int (0 : Int32)), .val (.int (own_conf aW kp1 kp2)), .val (.int (own_conf aW kp2 kp1))] [])
          refine Go.st (fun _ h => XS.iload X12.here hx rfl (hb hby at_90) rfl h) ?_
          show Go p e below _ T12 (mkF m 92 #[.val (.int p1), .val (.int p2), .val (.ref kp1), .val (.ref kp2), .val (.int (1 : Int32)), .val (.int (1 : Int32)), .val (.int (0 : Int32)), .val (.int (own_conf aW kp1 kp2)), .val (.int (own_conf aW kp2 kp1))] [(.int (own_conf aW kp1 kp2))])
          refine Go.st (fun _ h => XS.iload X12.here hx rfl (hb hby at_92) rfl h) ?_
          show Go p e below _ T12 (mkF m 94 #[.val (.int p1), .val (.int p2), .val (.ref kp1), .val (.ref kp2), .val (.int (1 : Int32)), .val (.int (1 : Int32)), .val (.int (0 : Int32)), .val (.int (own_conf aW kp1 kp2)), .val (.int (own_conf aW kp2 kp1))] [(.int (own_conf aW kp2 kp1)), (.int (own_conf aW kp1 kp2))])
          refine Go.st (fun _ h => XS.icmpNo X12.here hx rfl (hb hby at_94) rfl ((teq (own_conf_comm _ _ _ : (own_conf aW kp1 kp2) = (own_conf aW kp2 kp1))).2) h) ?_
          show Go p e below _ T12 (mkF m 97 #[.val (.int p1), .val (.int p2), .val (.ref kp1), .val (.ref kp2), .val (.int (1 : Int32)), .val (.int (1 : Int32)), .val (.int (0 : Int32)), .val (.int (own_conf aW kp1 kp2)), .val (.int (own_conf aW kp2 kp1))] [])
          refine Go.st (fun _ h => XT.iconstV X12.here hx rfl (1 : Int32) (hb hby at_97) (by decide) h) ?_
          show Go p e below _ T12 (mkF m 98 #[.val (.int p1), .val (.int p2), .val (.ref kp1), .val (.ref kp2), .val (.int (1 : Int32)), .val (.int (1 : Int32)), .val (.int (0 : Int32)), .val (.int (own_conf aW kp1 kp2)), .val (.int (own_conf aW kp2 kp1))] [(.int (1 : Int32))])
          refine Go.st (fun _ h => XS.goto X12.here hx rfl (pc0 := 98) (pc' := 102) rfl (hb hby at_98) (by decide) (by decide) h) ?_
          show Go p e below _ T12 (mkF m 102 #[.val (.int p1), .val (.int p2), .val (.ref kp1), .val (.ref kp2), .val (.int (1 : Int32)), .val (.int (1 : Int32)), .val (.int (0 : Int32)), .val (.int (own_conf aW kp1 kp2)), .val (.int (own_conf aW kp2 kp1))] [(.int (1 : Int32))])
          refine Go.retZ X12 hx hlk hret rfl (hb hby at_102) (by decide) (by decide) ?_
          exact ⟨rfl, Fr.nil _⟩
        · refine Go.st (fun _ h => XT.acmpYes X9.here hx rfl (pc0 := 42) (pc' := 49) rfl (hb hby at_42) rfl rfl rfl ((own_ane hc10).2) (by decide) (by decide) h) ?_
          show Go p e below _ T9 (mkF m 49 #[.val (.int p1), .val (.int p2), .val (.ref kp1), .val (.ref kp2), .val (.int (1 : Int32)), .unset, .unset, .unset, .unset] [])
          refine Go.st (fun _ h => XT.iconstV X9.here hx rfl (0 : Int32) (hb hby at_49) (by decide) h) ?_
          show Go p e below _ T9 (mkF m 50 #[.val (.int p1), .val (.int p2), .val (.ref kp1), .val (.ref kp2), .val (.int (1 : Int32)), .unset, .unset, .unset, .unset] [(.int (0 : Int32))])
          refine Go.st (fun _ h => XS.istore X9.here hx rfl (hb hby at_50) rfl (l' := #[.val (.int p1), .val (.int p2), .val (.ref kp1), .val (.ref kp2), .val (.int (1 : Int32)), .val (.int (0 : Int32)), .unset, .unset, .unset]) rfl h) ?_
          show Go p e below _ T9 (mkF m 52 #[.val (.int p1), .val (.int p2), .val (.ref kp1), .val (.ref kp2), .val (.int (1 : Int32)), .val (.int (0 : Int32)), .unset, .unset, .unset] [])
          refine Go.st (fun _ h => XS.iload X9.here hx rfl (hb hby at_52) rfl h) ?_
          show Go p e below _ T9 (mkF m 54 #[.val (.int p1), .val (.int p2), .val (.ref kp1), .val (.ref kp2), .val (.int (1 : Int32)), .val (.int (0 : Int32)), .unset, .unset, .unset] [(.int (1 : Int32))])
          refine Go.st (fun _ h => XS.ifYes X9.here hx rfl (pc0 := 54) (pc' := 66) rfl (hb hby at_54) rfl (by decide) (by decide) (by decide) h) ?_
          show Go p e below _ T9 (mkF m 66 #[.val (.int p1), .val (.int p2), .val (.ref kp1), .val (.ref kp2), .val (.int (1 : Int32)), .val (.int (0 : Int32)), .unset, .unset, .unset] [])
          refine Go.st (fun _ h => XT.iconstV X9.here hx rfl (0 : Int32) (hb hby at_66) (by decide) h) ?_
          show Go p e below _ T9 (mkF m 67 #[.val (.int p1), .val (.int p2), .val (.ref kp1), .val (.ref kp2), .val (.int (1 : Int32)), .val (.int (0 : Int32)), .unset, .unset, .unset] [(.int (0 : Int32))])
          refine Go.st (fun _ h => XS.istore X9.here hx rfl (hb hby at_67) rfl (l' := #[.val (.int p1), .val (.int p2), .val (.ref kp1), .val (.ref kp2), .val (.int (1 : Int32)), .val (.int (0 : Int32)), .val (.int (0 : Int32)), .unset, .unset]) rfl h) ?_
          show Go p e below _ T9 (mkF m 69 #[.val (.int p1), .val (.int p2), .val (.ref kp1), .val (.ref kp2), .val (.int (1 : Int32)), .val (.int (0 : Int32)), .val (.int (0 : Int32)), .unset, .unset] [])
          refine Go.st (fun _ h => XS.aloadN X9.here hx rfl (hb hby at_69) rfl rfl h) ?_
          show Go p e below _ T9 (mkF m 70 #[.val (.int p1), .val (.int p2), .val (.ref kp1), .val (.ref kp2), .val (.int (1 : Int32)), .val (.int (0 : Int32)), .val (.int (0 : Int32)), .unset, .unset] [(.ref kp1)])
          refine Go.st (fun _ h => XS.aloadN X9.here hx rfl (hb hby at_70) rfl rfl h) ?_
          show Go p e below _ T9 (mkF m 71 #[.val (.int p1), .val (.int p2), .val (.ref kp1), .val (.ref kp2), .val (.int (1 : Int32)), .val (.int (0 : Int32)), .val (.int (0 : Int32)), .unset, .unset] [(.ref kp2), (.ref kp1)])
          obtain ⟨T13, X13, e13, st13⟩ := own_still rfl rfl (Does.virtual (y := (⟨"ironwood/runtime/Locks$Mode", "conflicts", "(Lironwood/runtime/Locks$Mode;)Z"⟩ : MethodName)) (g := (mkF m 71 #[.val (.int p1), .val (.int p2), .val (.ref kp1), .val (.ref kp2), .val (.int (1 : Int32)), .val (.int (0 : Int32)), .val (.int (0 : Int32)), .unset, .unset] [(.ref kp2), (.ref kp1)])) (a := kp1) (rmConf l Z a0 hw kp1 kp2 aW h0 S_WRITE) X9 hx hZ hown e9 Ekp1 (hw _ (List.mem_of_getElem? (i := 10) rfl)) (hw _ (List.mem_of_getElem? (i := 11) rfl)) (hw _ (List.mem_of_getElem? (i := 13) rfl)) (hw _ (List.mem_of_getElem? (i := 12) rfl)) (hw _ (List.mem_of_getElem? (i := 6) rfl)) (hw _ (List.mem_of_getElem? (i := 14) rfl)) (by decide) rfl (by rw [hml]; rfl) (argsL := [(.ref kp2)]) (rest := []) (lenOf pd_28Lironwood2fruntime2fLocks24Mode3b29Z rfl) rfl (hb hby at_71) (W := 0) (by show 2 * 0 + _ ≤ _; exact Nat.le_of_eq rfl) (by decide) (by decide) (by decide) (by decide))
          refine Go.st st13 ?_
          show Go p e below _ T13 (mkF m 74 #[.val (.int p1), .val (.int p2), .val (.ref kp1), .val (.ref kp2), .val (.int (1 : Int32)), .val (.int (0 : Int32)), .val (.int (0 : Int32)), .unset, .unset] [(.int (own_conf aW kp1 kp2))])
          refine Go.st (fun _ h => XS.istore X13.here hx rfl (hb hby at_74) rfl (l' := #[.val (.int p1), .val (.int p2), .val (.ref kp1), .val (.ref kp2), .val (.int (1 : Int32)), .val (.int (0 : Int32)), .val (.int (0 : Int32)), .val (.int (own_conf aW kp1 kp2)), .unset]) rfl h) ?_
          show Go p e below _ T13 (mkF m 76 #[.val (.int p1), .val (.int p2), .val (.ref kp1), .val (.ref kp2), .val (.int (1 : Int32)), .val (.int (0 : Int32)), .val (.int (0 : Int32)), .val (.int (own_conf aW kp1 kp2)), .unset] [])
          refine Go.st (fun _ h => XS.aloadN X13.here hx rfl (hb hby at_76) rfl rfl h) ?_
          show Go p e below _ T13 (mkF m 77 #[.val (.int p1), .val (.int p2), .val (.ref kp1), .val (.ref kp2), .val (.int (1 : Int32)), .val (.int (0 : Int32)), .val (.int (0 : Int32)), .val (.int (own_conf aW kp1 kp2)), .unset] [(.ref kp2)])
          refine Go.st (fun _ h => XS.aloadN X13.here hx rfl (hb hby at_77) rfl rfl h) ?_
          show Go p e below _ T13 (mkF m 78 #[.val (.int p1), .val (.int p2), .val (.ref kp1), .val (.ref kp2), .val (.int (1 : Int32)), .val (.int (0 : Int32)), .val (.int (0 : Int32)), .val (.int (own_conf aW kp1 kp2)), .unset] [(.ref kp1), (.ref kp2)])
          obtain ⟨T14, X14, e14, st14⟩ := own_still rfl rfl (Does.virtual (y := (⟨"ironwood/runtime/Locks$Mode", "conflicts", "(Lironwood/runtime/Locks$Mode;)Z"⟩ : MethodName)) (g := (mkF m 78 #[.val (.int p1), .val (.int p2), .val (.ref kp1), .val (.ref kp2), .val (.int (1 : Int32)), .val (.int (0 : Int32)), .val (.int (0 : Int32)), .val (.int (own_conf aW kp1 kp2)), .unset] [(.ref kp1), (.ref kp2)])) (a := kp2) (rmConf l Z a0 hw kp2 kp1 aW h0 S_WRITE) X13 hx hZ hown e13 Ekp2 (hw _ (List.mem_of_getElem? (i := 10) rfl)) (hw _ (List.mem_of_getElem? (i := 11) rfl)) (hw _ (List.mem_of_getElem? (i := 13) rfl)) (hw _ (List.mem_of_getElem? (i := 12) rfl)) (hw _ (List.mem_of_getElem? (i := 6) rfl)) (hw _ (List.mem_of_getElem? (i := 14) rfl)) (by decide) rfl (by rw [hml]; rfl) (argsL := [(.ref kp1)]) (rest := []) (lenOf pd_28Lironwood2fruntime2fLocks24Mode3b29Z rfl) rfl (hb hby at_78) (W := 0) (by show 2 * 0 + _ ≤ _; exact Nat.le_of_eq rfl) (by decide) (by decide) (by decide) (by decide))
          refine Go.st st14 ?_
          show Go p e below _ T14 (mkF m 81 #[.val (.int p1), .val (.int p2), .val (.ref kp1), .val (.ref kp2), .val (.int (1 : Int32)), .val (.int (0 : Int32)), .val (.int (0 : Int32)), .val (.int (own_conf aW kp1 kp2)), .unset] [(.int (own_conf aW kp2 kp1))])
          refine Go.st (fun _ h => XS.istore X14.here hx rfl (hb hby at_81) rfl (l' := #[.val (.int p1), .val (.int p2), .val (.ref kp1), .val (.ref kp2), .val (.int (1 : Int32)), .val (.int (0 : Int32)), .val (.int (0 : Int32)), .val (.int (own_conf aW kp1 kp2)), .val (.int (own_conf aW kp2 kp1))]) rfl h) ?_
          show Go p e below _ T14 (mkF m 83 #[.val (.int p1), .val (.int p2), .val (.ref kp1), .val (.ref kp2), .val (.int (1 : Int32)), .val (.int (0 : Int32)), .val (.int (0 : Int32)), .val (.int (own_conf aW kp1 kp2)), .val (.int (own_conf aW kp2 kp1))] [])
          refine Go.st (fun _ h => XS.iload X14.here hx rfl (hb hby at_83) rfl h) ?_
          show Go p e below _ T14 (mkF m 85 #[.val (.int p1), .val (.int p2), .val (.ref kp1), .val (.ref kp2), .val (.int (1 : Int32)), .val (.int (0 : Int32)), .val (.int (0 : Int32)), .val (.int (own_conf aW kp1 kp2)), .val (.int (own_conf aW kp2 kp1))] [(.int (own_conf aW kp1 kp2))])
          refine Go.st (fun _ h => XS.iload X14.here hx rfl (hb hby at_85) rfl h) ?_
          show Go p e below _ T14 (mkF m 87 #[.val (.int p1), .val (.int p2), .val (.ref kp1), .val (.ref kp2), .val (.int (1 : Int32)), .val (.int (0 : Int32)), .val (.int (0 : Int32)), .val (.int (own_conf aW kp1 kp2)), .val (.int (own_conf aW kp2 kp1))] [(.int (0 : Int32)), (.int (own_conf aW kp1 kp2))])
          refine Go.st (fun _ h => XS.icmpNo X14.here hx rfl (hb hby at_87) rfl ((teq (own_conf0r n1 n2 n3 hc4 hc6 : (own_conf aW kp1 kp2) = (0 : Int32))).2) h) ?_
          show Go p e below _ T14 (mkF m 90 #[.val (.int p1), .val (.int p2), .val (.ref kp1), .val (.ref kp2), .val (.int (1 : Int32)), .val (.int (0 : Int32)), .val (.int (0 : Int32)), .val (.int (own_conf aW kp1 kp2)), .val (.int (own_conf aW kp2 kp1))] [])
          refine Go.st (fun _ h => XS.iload X14.here hx rfl (hb hby at_90) rfl h) ?_
          show Go p e below _ T14 (mkF m 92 #[.val (.int p1), .val (.int p2), .val (.ref kp1), .val (.ref kp2), .val (.int (1 : Int32)), .val (.int (0 : Int32)), .val (.int (0 : Int32)), .val (.int (own_conf aW kp1 kp2)), .val (.int (own_conf aW kp2 kp1))] [(.int (own_conf aW kp1 kp2))])
          refine Go.st (fun _ h => XS.iload X14.here hx rfl (hb hby at_92) rfl h) ?_
          show Go p e below _ T14 (mkF m 94 #[.val (.int p1), .val (.int p2), .val (.ref kp1), .val (.ref kp2), .val (.int (1 : Int32)), .val (.int (0 : Int32)), .val (.int (0 : Int32)), .val (.int (own_conf aW kp1 kp2)), .val (.int (own_conf aW kp2 kp1))] [(.int (own_conf aW kp2 kp1)), (.int (own_conf aW kp1 kp2))])
          refine Go.st (fun _ h => XS.icmpNo X14.here hx rfl (hb hby at_94) rfl ((teq (own_conf_comm _ _ _ : (own_conf aW kp1 kp2) = (own_conf aW kp2 kp1))).2) h) ?_
          show Go p e below _ T14 (mkF m 97 #[.val (.int p1), .val (.int p2), .val (.ref kp1), .val (.ref kp2), .val (.int (1 : Int32)), .val (.int (0 : Int32)), .val (.int (0 : Int32)), .val (.int (own_conf aW kp1 kp2)), .val (.int (own_conf aW kp2 kp1))] [])
          refine Go.st (fun _ h => XT.iconstV X14.here hx rfl (1 : Int32) (hb hby at_97) (by decide) h) ?_
          show Go p e below _ T14 (mkF m 98 #[.val (.int p1), .val (.int p2), .val (.ref kp1), .val (.ref kp2), .val (.int (1 : Int32)), .val (.int (0 : Int32)), .val (.int (0 : Int32)), .val (.int (own_conf aW kp1 kp2)), .val (.int (own_conf aW kp2 kp1))] [(.int (1 : Int32))])
          refine Go.st (fun _ h => XS.goto X14.here hx rfl (pc0 := 98) (pc' := 102) rfl (hb hby at_98) (by decide) (by decide) h) ?_
          show Go p e below _ T14 (mkF m 102 #[.val (.int p1), .val (.int p2), .val (.ref kp1), .val (.ref kp2), .val (.int (1 : Int32)), .val (.int (0 : Int32)), .val (.int (0 : Int32)), .val (.int (own_conf aW kp1 kp2)), .val (.int (own_conf aW kp2 kp1))] [(.int (1 : Int32))])
          refine Go.retZ X14 hx hlk hret rfl (hb hby at_102) (by decide) (by decide) ?_
          exact ⟨rfl, Fr.nil _⟩
      · refine Go.st (fun _ h => XT.acmpYes X7.here hx rfl (pc0 := 35) (pc' := 49) rfl (hb hby at_35) rfl rfl rfl ((own_ane hc8).2) (by decide) (by decide) h) ?_
        show Go p e below _ T7 (mkF m 49 #[.val (.int p1), .val (.int p2), .val (.ref kp1), .val (.ref kp2), .val (.int (1 : Int32)), .unset, .unset, .unset, .unset] [])
        refine Go.st (fun _ h => XT.iconstV X7.here hx rfl (0 : Int32) (hb hby at_49) (by decide) h) ?_
        show Go p e below _ T7 (mkF m 50 #[.val (.int p1), .val (.int p2), .val (.ref kp1), .val (.ref kp2), .val (.int (1 : Int32)), .unset, .unset, .unset, .unset] [(.int (0 : Int32))])
        refine Go.st (fun _ h => XS.istore X7.here hx rfl (hb hby at_50) rfl (l' := #[.val (.int p1), .val (.int p2), .val (.ref kp1), .val (.ref kp2), .val (.int (1 : Int32)), .val (.int (0 : Int32)), .unset, .unset, .unset]) rfl h) ?_
        show Go p e below _ T7 (mkF m 52 #[.val (.int p1), .val (.int p2), .val (.ref kp1), .val (.ref kp2), .val (.int (1 : Int32)), .val (.int (0 : Int32)), .unset, .unset, .unset] [])
        refine Go.st (fun _ h => XS.iload X7.here hx rfl (hb hby at_52) rfl h) ?_
        show Go p e below _ T7 (mkF m 54 #[.val (.int p1), .val (.int p2), .val (.ref kp1), .val (.ref kp2), .val (.int (1 : Int32)), .val (.int (0 : Int32)), .unset, .unset, .unset] [(.int (1 : Int32))])
        refine Go.st (fun _ h => XS.ifYes X7.here hx rfl (pc0 := 54) (pc' := 66) rfl (hb hby at_54) rfl (by decide) (by decide) (by decide) h) ?_
        show Go p e below _ T7 (mkF m 66 #[.val (.int p1), .val (.int p2), .val (.ref kp1), .val (.ref kp2), .val (.int (1 : Int32)), .val (.int (0 : Int32)), .unset, .unset, .unset] [])
        refine Go.st (fun _ h => XT.iconstV X7.here hx rfl (0 : Int32) (hb hby at_66) (by decide) h) ?_
        show Go p e below _ T7 (mkF m 67 #[.val (.int p1), .val (.int p2), .val (.ref kp1), .val (.ref kp2), .val (.int (1 : Int32)), .val (.int (0 : Int32)), .unset, .unset, .unset] [(.int (0 : Int32))])
        refine Go.st (fun _ h => XS.istore X7.here hx rfl (hb hby at_67) rfl (l' := #[.val (.int p1), .val (.int p2), .val (.ref kp1), .val (.ref kp2), .val (.int (1 : Int32)), .val (.int (0 : Int32)), .val (.int (0 : Int32)), .unset, .unset]) rfl h) ?_
        show Go p e below _ T7 (mkF m 69 #[.val (.int p1), .val (.int p2), .val (.ref kp1), .val (.ref kp2), .val (.int (1 : Int32)), .val (.int (0 : Int32)), .val (.int (0 : Int32)), .unset, .unset] [])
        refine Go.st (fun _ h => XS.aloadN X7.here hx rfl (hb hby at_69) rfl rfl h) ?_
        show Go p e below _ T7 (mkF m 70 #[.val (.int p1), .val (.int p2), .val (.ref kp1), .val (.ref kp2), .val (.int (1 : Int32)), .val (.int (0 : Int32)), .val (.int (0 : Int32)), .unset, .unset] [(.ref kp1)])
        refine Go.st (fun _ h => XS.aloadN X7.here hx rfl (hb hby at_70) rfl rfl h) ?_
        show Go p e below _ T7 (mkF m 71 #[.val (.int p1), .val (.int p2), .val (.ref kp1), .val (.ref kp2), .val (.int (1 : Int32)), .val (.int (0 : Int32)), .val (.int (0 : Int32)), .unset, .unset] [(.ref kp2), (.ref kp1)])
        obtain ⟨T15, X15, e15, st15⟩ := own_still rfl rfl (Does.virtual (y := (⟨"ironwood/runtime/Locks$Mode", "conflicts", "(Lironwood/runtime/Locks$Mode;)Z"⟩ : MethodName)) (g := (mkF m 71 #[.val (.int p1), .val (.int p2), .val (.ref kp1), .val (.ref kp2), .val (.int (1 : Int32)), .val (.int (0 : Int32)), .val (.int (0 : Int32)), .unset, .unset] [(.ref kp2), (.ref kp1)])) (a := kp1) (rmConf l Z a0 hw kp1 kp2 aW h0 S_WRITE) X7 hx hZ hown e7 Ekp1 (hw _ (List.mem_of_getElem? (i := 10) rfl)) (hw _ (List.mem_of_getElem? (i := 11) rfl)) (hw _ (List.mem_of_getElem? (i := 13) rfl)) (hw _ (List.mem_of_getElem? (i := 12) rfl)) (hw _ (List.mem_of_getElem? (i := 6) rfl)) (hw _ (List.mem_of_getElem? (i := 14) rfl)) (by decide) rfl (by rw [hml]; rfl) (argsL := [(.ref kp2)]) (rest := []) (lenOf pd_28Lironwood2fruntime2fLocks24Mode3b29Z rfl) rfl (hb hby at_71) (W := 0) (by show 2 * 0 + _ ≤ _; exact Nat.le_of_eq rfl) (by decide) (by decide) (by decide) (by decide))
        refine Go.st st15 ?_
        show Go p e below _ T15 (mkF m 74 #[.val (.int p1), .val (.int p2), .val (.ref kp1), .val (.ref kp2), .val (.int (1 : Int32)), .val (.int (0 : Int32)), .val (.int (0 : Int32)), .unset, .unset] [(.int (own_conf aW kp1 kp2))])
        refine Go.st (fun _ h => XS.istore X15.here hx rfl (hb hby at_74) rfl (l' := #[.val (.int p1), .val (.int p2), .val (.ref kp1), .val (.ref kp2), .val (.int (1 : Int32)), .val (.int (0 : Int32)), .val (.int (0 : Int32)), .val (.int (own_conf aW kp1 kp2)), .unset]) rfl h) ?_
        show Go p e below _ T15 (mkF m 76 #[.val (.int p1), .val (.int p2), .val (.ref kp1), .val (.ref kp2), .val (.int (1 : Int32)), .val (.int (0 : Int32)), .val (.int (0 : Int32)), .val (.int (own_conf aW kp1 kp2)), .unset] [])
        refine Go.st (fun _ h => XS.aloadN X15.here hx rfl (hb hby at_76) rfl rfl h) ?_
        show Go p e below _ T15 (mkF m 77 #[.val (.int p1), .val (.int p2), .val (.ref kp1), .val (.ref kp2), .val (.int (1 : Int32)), .val (.int (0 : Int32)), .val (.int (0 : Int32)), .val (.int (own_conf aW kp1 kp2)), .unset] [(.ref kp2)])
        refine Go.st (fun _ h => XS.aloadN X15.here hx rfl (hb hby at_77) rfl rfl h) ?_
        show Go p e below _ T15 (mkF m 78 #[.val (.int p1), .val (.int p2), .val (.ref kp1), .val (.ref kp2), .val (.int (1 : Int32)), .val (.int (0 : Int32)), .val (.int (0 : Int32)), .val (.int (own_conf aW kp1 kp2)), .unset] [(.ref kp1), (.ref kp2)])
        obtain ⟨T16, X16, e16, st16⟩ := own_still rfl rfl (Does.virtual (y := (⟨"ironwood/runtime/Locks$Mode", "conflicts", "(Lironwood/runtime/Locks$Mode;)Z"⟩ : MethodName)) (g := (mkF m 78 #[.val (.int p1), .val (.int p2), .val (.ref kp1), .val (.ref kp2), .val (.int (1 : Int32)), .val (.int (0 : Int32)), .val (.int (0 : Int32)), .val (.int (own_conf aW kp1 kp2)), .unset] [(.ref kp1), (.ref kp2)])) (a := kp2) (rmConf l Z a0 hw kp2 kp1 aW h0 S_WRITE) X15 hx hZ hown e15 Ekp2 (hw _ (List.mem_of_getElem? (i := 10) rfl)) (hw _ (List.mem_of_getElem? (i := 11) rfl)) (hw _ (List.mem_of_getElem? (i := 13) rfl)) (hw _ (List.mem_of_getElem? (i := 12) rfl)) (hw _ (List.mem_of_getElem? (i := 6) rfl)) (hw _ (List.mem_of_getElem? (i := 14) rfl)) (by decide) rfl (by rw [hml]; rfl) (argsL := [(.ref kp1)]) (rest := []) (lenOf pd_28Lironwood2fruntime2fLocks24Mode3b29Z rfl) rfl (hb hby at_78) (W := 0) (by show 2 * 0 + _ ≤ _; exact Nat.le_of_eq rfl) (by decide) (by decide) (by decide) (by decide))
        refine Go.st st16 ?_
        show Go p e below _ T16 (mkF m 81 #[.val (.int p1), .val (.int p2), .val (.ref kp1), .val (.ref kp2), .val (.int (1 : Int32)), .val (.int (0 : Int32)), .val (.int (0 : Int32)), .val (.int (own_conf aW kp1 kp2)), .unset] [(.int (own_conf aW kp2 kp1))])
        refine Go.st (fun _ h => XS.istore X16.here hx rfl (hb hby at_81) rfl (l' := #[.val (.int p1), .val (.int p2), .val (.ref kp1), .val (.ref kp2), .val (.int (1 : Int32)), .val (.int (0 : Int32)), .val (.int (0 : Int32)), .val (.int (own_conf aW kp1 kp2)), .val (.int (own_conf aW kp2 kp1))]) rfl h) ?_
        show Go p e below _ T16 (mkF m 83 #[.val (.int p1), .val (.int p2), .val (.ref kp1), .val (.ref kp2), .val (.int (1 : Int32)), .val (.int (0 : Int32)), .val (.int (0 : Int32)), .val (.int (own_conf aW kp1 kp2)), .val (.int (own_conf aW kp2 kp1))] [])
        refine Go.st (fun _ h => XS.iload X16.here hx rfl (hb hby at_83) rfl h) ?_
        show Go p e below _ T16 (mkF m 85 #[.val (.int p1), .val (.int p2), .val (.ref kp1), .val (.ref kp2), .val (.int (1 : Int32)), .val (.int (0 : Int32)), .val (.int (0 : Int32)), .val (.int (own_conf aW kp1 kp2)), .val (.int (own_conf aW kp2 kp1))] [(.int (own_conf aW kp1 kp2))])
        refine Go.st (fun _ h => XS.iload X16.here hx rfl (hb hby at_85) rfl h) ?_
        show Go p e below _ T16 (mkF m 87 #[.val (.int p1), .val (.int p2), .val (.ref kp1), .val (.ref kp2), .val (.int (1 : Int32)), .val (.int (0 : Int32)), .val (.int (0 : Int32)), .val (.int (own_conf aW kp1 kp2)), .val (.int (own_conf aW kp2 kp1))] [(.int (0 : Int32)), (.int (own_conf aW kp1 kp2))])
        refine Go.st (fun _ h => XS.icmpNo X16.here hx rfl (hb hby at_87) rfl ((teq (own_conf0r n1 n2 n3 hc4 hc6 : (own_conf aW kp1 kp2) = (0 : Int32))).2) h) ?_
        show Go p e below _ T16 (mkF m 90 #[.val (.int p1), .val (.int p2), .val (.ref kp1), .val (.ref kp2), .val (.int (1 : Int32)), .val (.int (0 : Int32)), .val (.int (0 : Int32)), .val (.int (own_conf aW kp1 kp2)), .val (.int (own_conf aW kp2 kp1))] [])
        refine Go.st (fun _ h => XS.iload X16.here hx rfl (hb hby at_90) rfl h) ?_
        show Go p e below _ T16 (mkF m 92 #[.val (.int p1), .val (.int p2), .val (.ref kp1), .val (.ref kp2), .val (.int (1 : Int32)), .val (.int (0 : Int32)), .val (.int (0 : Int32)), .val (.int (own_conf aW kp1 kp2)), .val (.int (own_conf aW kp2 kp1))] [(.int (own_conf aW kp1 kp2))])
        refine Go.st (fun _ h => XS.iload X16.here hx rfl (hb hby at_92) rfl h) ?_
        show Go p e below _ T16 (mkF m 94 #[.val (.int p1), .val (.int p2), .val (.ref kp1), .val (.ref kp2), .val (.int (1 : Int32)), .val (.int (0 : Int32)), .val (.int (0 : Int32)), .val (.int (own_conf aW kp1 kp2)), .val (.int (own_conf aW kp2 kp1))] [(.int (own_conf aW kp2 kp1)), (.int (own_conf aW kp1 kp2))])
        refine Go.st (fun _ h => XS.icmpNo X16.here hx rfl (hb hby at_94) rfl ((teq (own_conf_comm _ _ _ : (own_conf aW kp1 kp2) = (own_conf aW kp2 kp1))).2) h) ?_
        show Go p e below _ T16 (mkF m 97 #[.val (.int p1), .val (.int p2), .val (.ref kp1), .val (.ref kp2), .val (.int (1 : Int32)), .val (.int (0 : Int32)), .val (.int (0 : Int32)), .val (.int (own_conf aW kp1 kp2)), .val (.int (own_conf aW kp2 kp1))] [])
        refine Go.st (fun _ h => XT.iconstV X16.here hx rfl (1 : Int32) (hb hby at_97) (by decide) h) ?_
        show Go p e below _ T16 (mkF m 98 #[.val (.int p1), .val (.int p2), .val (.ref kp1), .val (.ref kp2), .val (.int (1 : Int32)), .val (.int (0 : Int32)), .val (.int (0 : Int32)), .val (.int (own_conf aW kp1 kp2)), .val (.int (own_conf aW kp2 kp1))] [(.int (1 : Int32))])
        refine Go.st (fun _ h => XS.goto X16.here hx rfl (pc0 := 98) (pc' := 102) rfl (hb hby at_98) (by decide) (by decide) h) ?_
        show Go p e below _ T16 (mkF m 102 #[.val (.int p1), .val (.int p2), .val (.ref kp1), .val (.ref kp2), .val (.int (1 : Int32)), .val (.int (0 : Int32)), .val (.int (0 : Int32)), .val (.int (own_conf aW kp1 kp2)), .val (.int (own_conf aW kp2 kp1))] [(.int (1 : Int32))])
        refine Go.retZ X16 hx hlk hret rfl (hb hby at_102) (by decide) (by decide) ?_
        exact ⟨rfl, Fr.nil _⟩
    · refine Go.st (fun _ h => XT.acmpYes X5.here hx rfl (pc0 := 21) (pc' := 28) rfl (hb hby at_21) rfl rfl rfl ((own_ane hc6).2) (by decide) (by decide) h) ?_
      show Go p e below _ T5 (mkF m 28 #[.val (.int p1), .val (.int p2), .val (.ref kp1), .val (.ref kp2), .unset, .unset, .unset, .unset, .unset] [])
      refine Go.st (fun _ h => XT.iconstV X5.here hx rfl (0 : Int32) (hb hby at_28) (by decide) h) ?_
      show Go p e below _ T5 (mkF m 29 #[.val (.int p1), .val (.int p2), .val (.ref kp1), .val (.ref kp2), .unset, .unset, .unset, .unset, .unset] [(.int (0 : Int32))])
      refine Go.st (fun _ h => XS.istore X5.here hx rfl (hb hby at_29) rfl (l' := #[.val (.int p1), .val (.int p2), .val (.ref kp1), .val (.ref kp2), .val (.int (0 : Int32)), .unset, .unset, .unset, .unset]) rfl h) ?_
      show Go p e below _ T5 (mkF m 31 #[.val (.int p1), .val (.int p2), .val (.ref kp1), .val (.ref kp2), .val (.int (0 : Int32)), .unset, .unset, .unset, .unset] [])
      refine Go.st (fun _ h => XS.aloadN X5.here hx rfl (hb hby at_31) rfl rfl h) ?_
      show Go p e below _ T5 (mkF m 32 #[.val (.int p1), .val (.int p2), .val (.ref kp1), .val (.ref kp2), .val (.int (0 : Int32)), .unset, .unset, .unset, .unset] [(.ref kp1)])
      obtain ⟨T17, X17, e17, st17⟩ := getS2 X5 hx hZ hown (host := "") (Or.inl (hw _ (List.mem_of_getElem? (i := 8) rfl))) Via.refl e5 S_COMMUTE (g := (mkF m 32 #[.val (.int p1), .val (.int p2), .val (.ref kp1), .val (.ref kp2), .val (.int (0 : Int32)), .unset, .unset, .unset, .unset] [(.ref kp1)])) rfl (hb hby at_32)
      refine Go.st st17 ?_
      show Go p e below _ T17 (mkF m 35 #[.val (.int p1), .val (.int p2), .val (.ref kp1), .val (.ref kp2), .val (.int (0 : Int32)), .unset, .unset, .unset, .unset] [(.ref aC), (.ref kp1)])
      by_cases hc18 : kp1 = aC
      · refine Go.st (fun _ h => XT.acmpNo X17.here hx rfl (hb hby at_35) rfl rfl rfl ((own_aeq hc18).2) h) ?_
        show Go p e below _ T17 (mkF m 38 #[.val (.int p1), .val (.int p2), .val (.ref kp1), .val (.ref kp2), .val (.int (0 : Int32)), .unset, .unset, .unset, .unset] [])
        refine Go.st (fun _ h => XS.aloadN X17.here hx rfl (hb hby at_38) rfl rfl h) ?_
        show Go p e below _ T17 (mkF m 39 #[.val (.int p1), .val (.int p2), .val (.ref kp1), .val (.ref kp2), .val (.int (0 : Int32)), .unset, .unset, .unset, .unset] [(.ref kp2)])
        obtain ⟨T19, X19, e19, st19⟩ := getS2 X17 hx hZ hown (host := "") (Or.inl (hw _ (List.mem_of_getElem? (i := 8) rfl))) Via.refl e17 S_COMMUTE (g := (mkF m 39 #[.val (.int p1), .val (.int p2), .val (.ref kp1), .val (.ref kp2), .val (.int (0 : Int32)), .unset, .unset, .unset, .unset] [(.ref kp2)])) rfl (hb hby at_39)
        refine Go.st st19 ?_
        show Go p e below _ T19 (mkF m 42 #[.val (.int p1), .val (.int p2), .val (.ref kp1), .val (.ref kp2), .val (.int (0 : Int32)), .unset, .unset, .unset, .unset] [(.ref aC), (.ref kp2)])
        by_cases hc20 : kp2 = aC
        · refine Go.st (fun _ h => XT.acmpNo X19.here hx rfl (hb hby at_42) rfl rfl rfl ((own_aeq hc20).2) h) ?_
          show Go p e below _ T19 (mkF m 45 #[.val (.int p1), .val (.int p2), .val (.ref kp1), .val (.ref kp2), .val (.int (0 : Int32)), .unset, .unset, .unset, .unset] [])
          refine Go.st (fun _ h => XT.iconstV X19.here hx rfl (1 : Int32) (hb hby at_45) (by decide) h) ?_
          show Go p e below _ T19 (mkF m 46 #[.val (.int p1), .val (.int p2), .val (.ref kp1), .val (.ref kp2), .val (.int (0 : Int32)), .unset, .unset, .unset, .unset] [(.int (1 : Int32))])
          refine Go.st (fun _ h => XS.goto X19.here hx rfl (pc0 := 46) (pc' := 50) rfl (hb hby at_46) (by decide) (by decide) h) ?_
          show Go p e below _ T19 (mkF m 50 #[.val (.int p1), .val (.int p2), .val (.ref kp1), .val (.ref kp2), .val (.int (0 : Int32)), .unset, .unset, .unset, .unset] [(.int (1 : Int32))])
          refine Go.st (fun _ h => XS.istore X19.here hx rfl (hb hby at_50) rfl (l' := #[.val (.int p1), .val (.int p2), .val (.ref kp1), .val (.ref kp2), .val (.int (0 : Int32)), .val (.int (1 : Int32)), .unset, .unset, .unset]) rfl h) ?_
          show Go p e below _ T19 (mkF m 52 #[.val (.int p1), .val (.int p2), .val (.ref kp1), .val (.ref kp2), .val (.int (0 : Int32)), .val (.int (1 : Int32)), .unset, .unset, .unset] [])
          refine Go.st (fun _ h => XS.iload X19.here hx rfl (hb hby at_52) rfl h) ?_
          show Go p e below _ T19 (mkF m 54 #[.val (.int p1), .val (.int p2), .val (.ref kp1), .val (.ref kp2), .val (.int (0 : Int32)), .val (.int (1 : Int32)), .unset, .unset, .unset] [(.int (0 : Int32))])
          refine Go.st (fun _ h => XS.ifNo X19.here hx rfl (hb hby at_54) rfl (by decide) h) ?_
          show Go p e below _ T19 (mkF m 57 #[.val (.int p1), .val (.int p2), .val (.ref kp1), .val (.ref kp2), .val (.int (0 : Int32)), .val (.int (1 : Int32)), .unset, .unset, .unset] [])
          refine Go.st (fun _ h => XS.iload X19.here hx rfl (hb hby at_57) rfl h) ?_
          show Go p e below _ T19 (mkF m 59 #[.val (.int p1), .val (.int p2), .val (.ref kp1), .val (.ref kp2), .val (.int (0 : Int32)), .val (.int (1 : Int32)), .unset, .unset, .unset] [(.int (1 : Int32))])
          refine Go.st (fun _ h => XS.ifYes X19.here hx rfl (pc0 := 59) (pc' := 66) rfl (hb hby at_59) rfl (by decide) (by decide) (by decide) h) ?_
          show Go p e below _ T19 (mkF m 66 #[.val (.int p1), .val (.int p2), .val (.ref kp1), .val (.ref kp2), .val (.int (0 : Int32)), .val (.int (1 : Int32)), .unset, .unset, .unset] [])
          refine Go.st (fun _ h => XT.iconstV X19.here hx rfl (0 : Int32) (hb hby at_66) (by decide) h) ?_
          show Go p e below _ T19 (mkF m 67 #[.val (.int p1), .val (.int p2), .val (.ref kp1), .val (.ref kp2), .val (.int (0 : Int32)), .val (.int (1 : Int32)), .unset, .unset, .unset] [(.int (0 : Int32))])
          refine Go.st (fun _ h => XS.istore X19.here hx rfl (hb hby at_67) rfl (l' := #[.val (.int p1), .val (.int p2), .val (.ref kp1), .val (.ref kp2), .val (.int (0 : Int32)), .val (.int (1 : Int32)), .val (.int (0 : Int32)), .unset, .unset]) rfl h) ?_
          show Go p e below _ T19 (mkF m 69 #[.val (.int p1), .val (.int p2), .val (.ref kp1), .val (.ref kp2), .val (.int (0 : Int32)), .val (.int (1 : Int32)), .val (.int (0 : Int32)), .unset, .unset] [])
          refine Go.st (fun _ h => XS.aloadN X19.here hx rfl (hb hby at_69) rfl rfl h) ?_
          show Go p e below _ T19 (mkF m 70 #[.val (.int p1), .val (.int p2), .val (.ref kp1), .val (.ref kp2), .val (.int (0 : Int32)), .val (.int (1 : Int32)), .val (.int (0 : Int32)), .unset, .unset] [(.ref kp1)])
          refine Go.st (fun _ h => XS.aloadN X19.here hx rfl (hb hby at_70) rfl rfl h) ?_
          show Go p e below _ T19 (mkF m 71 #[.val (.int p1), .val (.int p2), .val (.ref kp1), .val (.ref kp2), .val (.int (0 : Int32)), .val (.int (1 : Int32)), .val (.int (0 : Int32)), .unset, .unset] [(.ref kp2), (.ref kp1)])
          obtain ⟨T21, X21, e21, st21⟩ := own_still rfl rfl (Does.virtual (y := (⟨"ironwood/runtime/Locks$Mode", "conflicts", "(Lironwood/runtime/Locks$Mode;)Z"⟩ : MethodName)) (g := (mkF m 71 #[.val (.int p1), .val (.int p2), .val (.ref kp1), .val (.ref kp2), .val (.int (0 : Int32)), .val (.int (1 : Int32)), .val (.int (0 : Int32)), .unset, .unset] [(.ref kp2), (.ref kp1)])) (a := kp1) (rmConf l Z a0 hw kp1 kp2 aW h0 S_WRITE) X19 hx hZ hown e19 Ekp1 (hw _ (List.mem_of_getElem? (i := 10) rfl)) (hw _ (List.mem_of_getElem? (i := 11) rfl)) (hw _ (List.mem_of_getElem? (i := 13) rfl)) (hw _ (List.mem_of_getElem? (i := 12) rfl)) (hw _ (List.mem_of_getElem? (i := 6) rfl)) (hw _ (List.mem_of_getElem? (i := 14) rfl)) (by decide) rfl (by rw [hml]; rfl) (argsL := [(.ref kp2)]) (rest := []) (lenOf pd_28Lironwood2fruntime2fLocks24Mode3b29Z rfl) rfl (hb hby at_71) (W := 0) (by show 2 * 0 + _ ≤ _; exact Nat.le_of_eq rfl) (by decide) (by decide) (by decide) (by decide))
          refine Go.st st21 ?_
          show Go p e below _ T21 (mkF m 74 #[.val (.int p1), .val (.int p2), .val (.ref kp1), .val (.ref kp2), .val (.int (0 : Int32)), .val (.int (1 : Int32)), .val (.int (0 : Int32)), .unset, .unset] [(.int (own_conf aW kp1 kp2))])
          refine Go.st (fun _ h => XS.istore X21.here hx rfl (hb hby at_74) rfl (l' := #[.val (.int p1), .val (.int p2), .val (.ref kp1), .val (.ref kp2), .val (.int (0 : Int32)), .val (.int (1 : Int32)), .val (.int (0 : Int32)), .val (.int (own_conf aW kp1 kp2)), .unset]) rfl h) ?_
          show Go p e below _ T21 (mkF m 76 #[.val (.int p1), .val (.int p2), .val (.ref kp1), .val (.ref kp2), .val (.int (0 : Int32)), .val (.int (1 : Int32)), .val (.int (0 : Int32)), .val (.int (own_conf aW kp1 kp2)), .unset] [])
          refine Go.st (fun _ h => XS.aloadN X21.here hx rfl (hb hby at_76) rfl rfl h) ?_
          show Go p e below _ T21 (mkF m 77 #[.val (.int p1), .val (.int p2), .val (.ref kp1), .val (.ref kp2), .val (.int (0 : Int32)), .val (.int (1 : Int32)), .val (.int (0 : Int32)), .val (.int (own_conf aW kp1 kp2)), .unset] [(.ref kp2)])
          refine Go.st (fun _ h => XS.aloadN X21.here hx rfl (hb hby at_77) rfl rfl h) ?_
          show Go p e below _ T21 (mkF m 78 #[.val (.int p1), .val (.int p2), .val (.ref kp1), .val (.ref kp2), .val (.int (0 : Int32)), .val (.int (1 : Int32)), .val (.int (0 : Int32)), .val (.int (own_conf aW kp1 kp2)), .unset] [(.ref kp1), (.ref kp2)])
          obtain ⟨T22, X22, e22, st22⟩ := own_still rfl rfl (Does.virtual (y := (⟨"ironwood/runtime/Locks$Mode", "conflicts", "(Lironwood/runtime/Locks$Mode;)Z"⟩ : MethodName)) (g := (mkF m 78 #[.val (.int p1), .val (.int p2), .val (.ref kp1), .val (.ref kp2), .val (.int (0 : Int32)), .val (.int (1 : Int32)), .val (.int (0 : Int32)), .val (.int (own_conf aW kp1 kp2)), .unset] [(.ref kp1), (.ref kp2)])) (a := kp2) (rmConf l Z a0 hw kp2 kp1 aW h0 S_WRITE) X21 hx hZ hown e21 Ekp2 (hw _ (List.mem_of_getElem? (i := 10) rfl)) (hw _ (List.mem_of_getElem? (i := 11) rfl)) (hw _ (List.mem_of_getElem? (i := 13) rfl)) (hw _ (List.mem_of_getElem? (i := 12) rfl)) (hw _ (List.mem_of_getElem? (i := 6) rfl)) (hw _ (List.mem_of_getElem? (i := 14) rfl)) (by decide) rfl (by rw [hml]; rfl) (argsL := [(.ref kp1)]) (rest := []) (lenOf pd_28Lironwood2fruntime2fLocks24Mode3b29Z rfl) rfl (hb hby at_78) (W := 0) (by show 2 * 0 + _ ≤ _; exact Nat.le_of_eq rfl) (by decide) (by decide) (by decide) (by decide))
          refine Go.st st22 ?_
          show Go p e below _ T22 (mkF m 81 #[.val (.int p1), .val (.int p2), .val (.ref kp1), .val (.ref kp2), .val (.int (0 : Int32)), .val (.int (1 : Int32)), .val (.int (0 : Int32)), .val (.int (own_conf aW kp1 kp2)), .unset] [(.int (own_conf aW kp2 kp1))])
          refine Go.st (fun _ h => XS.istore X22.here hx rfl (hb hby at_81) rfl (l' := #[.val (.int p1), .val (.int p2), .val (.ref kp1), .val (.ref kp2), .val (.int (0 : Int32)), .val (.int (1 : Int32)), .val (.int (0 : Int32)), .val (.int (own_conf aW kp1 kp2)), .val (.int (own_conf aW kp2 kp1))]) rfl h) ?_
          show Go p e below _ T22 (mkF m 83 #[.val (.int p1), .val (.int p2), .val (.ref kp1), .val (.ref kp2), .val (.int (0 : Int32)), .val (.int (1 : Int32)), .val (.int (0 : Int32)), .val (.int (own_conf aW kp1 kp2)), .val (.int (own_conf aW kp2 kp1))] [])
          refine Go.st (fun _ h => XS.iload X22.here hx rfl (hb hby at_83) rfl h) ?_
          show Go p e below _ T22 (mkF m 85 #[.val (.int p1), .val (.int p2), .val (.ref kp1), .val (.ref kp2), .val (.int (0 : Int32)), .val (.int (1 : Int32)), .val (.int (0 : Int32)), .val (.int (own_conf aW kp1 kp2)), .val (.int (own_conf aW kp2 kp1))] [(.int (own_conf aW kp1 kp2))])
          refine Go.st (fun _ h => XS.iload X22.here hx rfl (hb hby at_85) rfl h) ?_
          show Go p e below _ T22 (mkF m 87 #[.val (.int p1), .val (.int p2), .val (.ref kp1), .val (.ref kp2), .val (.int (0 : Int32)), .val (.int (1 : Int32)), .val (.int (0 : Int32)), .val (.int (own_conf aW kp1 kp2)), .val (.int (own_conf aW kp2 kp1))] [(.int (0 : Int32)), (.int (own_conf aW kp1 kp2))])
          refine Go.st (fun _ h => XS.icmpNo X22.here hx rfl (hb hby at_87) rfl ((teq (own_conf0c n1 n2 n3 hc18 hc20 : (own_conf aW kp1 kp2) = (0 : Int32))).2) h) ?_
          show Go p e below _ T22 (mkF m 90 #[.val (.int p1), .val (.int p2), .val (.ref kp1), .val (.ref kp2), .val (.int (0 : Int32)), .val (.int (1 : Int32)), .val (.int (0 : Int32)), .val (.int (own_conf aW kp1 kp2)), .val (.int (own_conf aW kp2 kp1))] [])
          refine Go.st (fun _ h => XS.iload X22.here hx rfl (hb hby at_90) rfl h) ?_
          show Go p e below _ T22 (mkF m 92 #[.val (.int p1), .val (.int p2), .val (.ref kp1), .val (.ref kp2), .val (.int (0 : Int32)), .val (.int (1 : Int32)), .val (.int (0 : Int32)), .val (.int (own_conf aW kp1 kp2)), .val (.int (own_conf aW kp2 kp1))] [(.int (own_conf aW kp1 kp2))])
          refine Go.st (fun _ h => XS.iload X22.here hx rfl (hb hby at_92) rfl h) ?_
          show Go p e below _ T22 (mkF m 94 #[.val (.int p1), .val (.int p2), .val (.ref kp1), .val (.ref kp2), .val (.int (0 : Int32)), .val (.int (1 : Int32)), .val (.int (0 : Int32)), .val (.int (own_conf aW kp1 kp2)), .val (.int (own_conf aW kp2 kp1))] [(.int (own_conf aW kp2 kp1)), (.int (own_conf aW kp1 kp2))])
          refine Go.st (fun _ h => XS.icmpNo X22.here hx rfl (hb hby at_94) rfl ((teq (own_conf_comm _ _ _ : (own_conf aW kp1 kp2) = (own_conf aW kp2 kp1))).2) h) ?_
          show Go p e below _ T22 (mkF m 97 #[.val (.int p1), .val (.int p2), .val (.ref kp1), .val (.ref kp2), .val (.int (0 : Int32)), .val (.int (1 : Int32)), .val (.int (0 : Int32)), .val (.int (own_conf aW kp1 kp2)), .val (.int (own_conf aW kp2 kp1))] [])
          refine Go.st (fun _ h => XT.iconstV X22.here hx rfl (1 : Int32) (hb hby at_97) (by decide) h) ?_
          show Go p e below _ T22 (mkF m 98 #[.val (.int p1), .val (.int p2), .val (.ref kp1), .val (.ref kp2), .val (.int (0 : Int32)), .val (.int (1 : Int32)), .val (.int (0 : Int32)), .val (.int (own_conf aW kp1 kp2)), .val (.int (own_conf aW kp2 kp1))] [(.int (1 : Int32))])
          refine Go.st (fun _ h => XS.goto X22.here hx rfl (pc0 := 98) (pc' := 102) rfl (hb hby at_98) (by decide) (by decide) h) ?_
          show Go p e below _ T22 (mkF m 102 #[.val (.int p1), .val (.int p2), .val (.ref kp1), .val (.ref kp2), .val (.int (0 : Int32)), .val (.int (1 : Int32)), .val (.int (0 : Int32)), .val (.int (own_conf aW kp1 kp2)), .val (.int (own_conf aW kp2 kp1))] [(.int (1 : Int32))])
          refine Go.retZ X22 hx hlk hret rfl (hb hby at_102) (by decide) (by decide) ?_
          exact ⟨rfl, Fr.nil _⟩
        · refine Go.st (fun _ h => XT.acmpYes X19.here hx rfl (pc0 := 42) (pc' := 49) rfl (hb hby at_42) rfl rfl rfl ((own_ane hc20).2) (by decide) (by decide) h) ?_
          show Go p e below _ T19 (mkF m 49 #[.val (.int p1), .val (.int p2), .val (.ref kp1), .val (.ref kp2), .val (.int (0 : Int32)), .unset, .unset, .unset, .unset] [])
          refine Go.st (fun _ h => XT.iconstV X19.here hx rfl (0 : Int32) (hb hby at_49) (by decide) h) ?_
          show Go p e below _ T19 (mkF m 50 #[.val (.int p1), .val (.int p2), .val (.ref kp1), .val (.ref kp2), .val (.int (0 : Int32)), .unset, .unset, .unset, .unset] [(.int (0 : Int32))])
          refine Go.st (fun _ h => XS.istore X19.here hx rfl (hb hby at_50) rfl (l' := #[.val (.int p1), .val (.int p2), .val (.ref kp1), .val (.ref kp2), .val (.int (0 : Int32)), .val (.int (0 : Int32)), .unset, .unset, .unset]) rfl h) ?_
          show Go p e below _ T19 (mkF m 52 #[.val (.int p1), .val (.int p2), .val (.ref kp1), .val (.ref kp2), .val (.int (0 : Int32)), .val (.int (0 : Int32)), .unset, .unset, .unset] [])
          refine Go.st (fun _ h => XS.iload X19.here hx rfl (hb hby at_52) rfl h) ?_
          show Go p e below _ T19 (mkF m 54 #[.val (.int p1), .val (.int p2), .val (.ref kp1), .val (.ref kp2), .val (.int (0 : Int32)), .val (.int (0 : Int32)), .unset, .unset, .unset] [(.int (0 : Int32))])
          refine Go.st (fun _ h => XS.ifNo X19.here hx rfl (hb hby at_54) rfl (by decide) h) ?_
          show Go p e below _ T19 (mkF m 57 #[.val (.int p1), .val (.int p2), .val (.ref kp1), .val (.ref kp2), .val (.int (0 : Int32)), .val (.int (0 : Int32)), .unset, .unset, .unset] [])
          refine Go.st (fun _ h => XS.iload X19.here hx rfl (hb hby at_57) rfl h) ?_
          show Go p e below _ T19 (mkF m 59 #[.val (.int p1), .val (.int p2), .val (.ref kp1), .val (.ref kp2), .val (.int (0 : Int32)), .val (.int (0 : Int32)), .unset, .unset, .unset] [(.int (0 : Int32))])
          refine Go.st (fun _ h => XS.ifNo X19.here hx rfl (hb hby at_59) rfl (by decide) h) ?_
          show Go p e below _ T19 (mkF m 62 #[.val (.int p1), .val (.int p2), .val (.ref kp1), .val (.ref kp2), .val (.int (0 : Int32)), .val (.int (0 : Int32)), .unset, .unset, .unset] [])
          refine Go.st (fun _ h => XT.iconstV X19.here hx rfl (1 : Int32) (hb hby at_62) (by decide) h) ?_
          show Go p e below _ T19 (mkF m 63 #[.val (.int p1), .val (.int p2), .val (.ref kp1), .val (.ref kp2), .val (.int (0 : Int32)), .val (.int (0 : Int32)), .unset, .unset, .unset] [(.int (1 : Int32))])
          refine Go.st (fun _ h => XS.goto X19.here hx rfl (pc0 := 63) (pc' := 67) rfl (hb hby at_63) (by decide) (by decide) h) ?_
          show Go p e below _ T19 (mkF m 67 #[.val (.int p1), .val (.int p2), .val (.ref kp1), .val (.ref kp2), .val (.int (0 : Int32)), .val (.int (0 : Int32)), .unset, .unset, .unset] [(.int (1 : Int32))])
          refine Go.st (fun _ h => XS.istore X19.here hx rfl (hb hby at_67) rfl (l' := #[.val (.int p1), .val (.int p2), .val (.ref kp1), .val (.ref kp2), .val (.int (0 : Int32)), .val (.int (0 : Int32)), .val (.int (1 : Int32)), .unset, .unset]) rfl h) ?_
          show Go p e below _ T19 (mkF m 69 #[.val (.int p1), .val (.int p2), .val (.ref kp1), .val (.ref kp2), .val (.int (0 : Int32)), .val (.int (0 : Int32)), .val (.int (1 : Int32)), .unset, .unset] [])
          refine Go.st (fun _ h => XS.aloadN X19.here hx rfl (hb hby at_69) rfl rfl h) ?_
          show Go p e below _ T19 (mkF m 70 #[.val (.int p1), .val (.int p2), .val (.ref kp1), .val (.ref kp2), .val (.int (0 : Int32)), .val (.int (0 : Int32)), .val (.int (1 : Int32)), .unset, .unset] [(.ref kp1)])
          refine Go.st (fun _ h => XS.aloadN X19.here hx rfl (hb hby at_70) rfl rfl h) ?_
          show Go p e below _ T19 (mkF m 71 #[.val (.int p1), .val (.int p2), .val (.ref kp1), .val (.ref kp2), .val (.int (0 : Int32)), .val (.int (0 : Int32)), .val (.int (1 : Int32)), .unset, .unset] [(.ref kp2), (.ref kp1)])
          obtain ⟨T23, X23, e23, st23⟩ := own_still rfl rfl (Does.virtual (y := (⟨"ironwood/runtime/Locks$Mode", "conflicts", "(Lironwood/runtime/Locks$Mode;)Z"⟩ : MethodName)) (g := (mkF m 71 #[.val (.int p1), .val (.int p2), .val (.ref kp1), .val (.ref kp2), .val (.int (0 : Int32)), .val (.int (0 : Int32)), .val (.int (1 : Int32)), .unset, .unset] [(.ref kp2), (.ref kp1)])) (a := kp1) (rmConf l Z a0 hw kp1 kp2 aW h0 S_WRITE) X19 hx hZ hown e19 Ekp1 (hw _ (List.mem_of_getElem? (i := 10) rfl)) (hw _ (List.mem_of_getElem? (i := 11) rfl)) (hw _ (List.mem_of_getElem? (i := 13) rfl)) (hw _ (List.mem_of_getElem? (i := 12) rfl)) (hw _ (List.mem_of_getElem? (i := 6) rfl)) (hw _ (List.mem_of_getElem? (i := 14) rfl)) (by decide) rfl (by rw [hml]; rfl) (argsL := [(.ref kp2)]) (rest := []) (lenOf pd_28Lironwood2fruntime2fLocks24Mode3b29Z rfl) rfl (hb hby at_71) (W := 0) (by show 2 * 0 + _ ≤ _; exact Nat.le_of_eq rfl) (by decide) (by decide) (by decide) (by decide))
          refine Go.st st23 ?_
          show Go p e below _ T23 (mkF m 74 #[.val (.int p1), .val (.int p2), .val (.ref kp1), .val (.ref kp2), .val (.int (0 : Int32)), .val (.int (0 : Int32)), .val (.int (1 : Int32)), .unset, .unset] [(.int (own_conf aW kp1 kp2))])
          refine Go.st (fun _ h => XS.istore X23.here hx rfl (hb hby at_74) rfl (l' := #[.val (.int p1), .val (.int p2), .val (.ref kp1), .val (.ref kp2), .val (.int (0 : Int32)), .val (.int (0 : Int32)), .val (.int (1 : Int32)), .val (.int (own_conf aW kp1 kp2)), .unset]) rfl h) ?_
          show Go p e below _ T23 (mkF m 76 #[.val (.int p1), .val (.int p2), .val (.ref kp1), .val (.ref kp2), .val (.int (0 : Int32)), .val (.int (0 : Int32)), .val (.int (1 : Int32)), .val (.int (own_conf aW kp1 kp2)), .unset] [])
          refine Go.st (fun _ h => XS.aloadN X23.here hx rfl (hb hby at_76) rfl rfl h) ?_
          show Go p e below _ T23 (mkF m 77 #[.val (.int p1), .val (.int p2), .val (.ref kp1), .val (.ref kp2), .val (.int (0 : Int32)), .val (.int (0 : Int32)), .val (.int (1 : Int32)), .val (.int (own_conf aW kp1 kp2)), .unset] [(.ref kp2)])
          refine Go.st (fun _ h => XS.aloadN X23.here hx rfl (hb hby at_77) rfl rfl h) ?_
          show Go p e below _ T23 (mkF m 78 #[.val (.int p1), .val (.int p2), .val (.ref kp1), .val (.ref kp2), .val (.int (0 : Int32)), .val (.int (0 : Int32)), .val (.int (1 : Int32)), .val (.int (own_conf aW kp1 kp2)), .unset] [(.ref kp1), (.ref kp2)])
          obtain ⟨T24, X24, e24, st24⟩ := own_still rfl rfl (Does.virtual (y := (⟨"ironwood/runtime/Locks$Mode", "conflicts", "(Lironwood/runtime/Locks$Mode;)Z"⟩ : MethodName)) (g := (mkF m 78 #[.val (.int p1), .val (.int p2), .val (.ref kp1), .val (.ref kp2), .val (.int (0 : Int32)), .val (.int (0 : Int32)), .val (.int (1 : Int32)), .val (.int (own_conf aW kp1 kp2)), .unset] [(.ref kp1), (.ref kp2)])) (a := kp2) (rmConf l Z a0 hw kp2 kp1 aW h0 S_WRITE) X23 hx hZ hown e23 Ekp2 (hw _ (List.mem_of_getElem? (i := 10) rfl)) (hw _ (List.mem_of_getElem? (i := 11) rfl)) (hw _ (List.mem_of_getElem? (i := 13) rfl)) (hw _ (List.mem_of_getElem? (i := 12) rfl)) (hw _ (List.mem_of_getElem? (i := 6) rfl)) (hw _ (List.mem_of_getElem? (i := 14) rfl)) (by decide) rfl (by rw [hml]; rfl) (argsL := [(.ref kp1)]) (rest := []) (lenOf pd_28Lironwood2fruntime2fLocks24Mode3b29Z rfl) rfl (hb hby at_78) (W := 0) (by show 2 * 0 + _ ≤ _; exact Nat.le_of_eq rfl) (by decide) (by decide) (by decide) (by decide))
          refine Go.st st24 ?_
          show Go p e below _ T24 (mkF m 81 #[.val (.int p1), .val (.int p2), .val (.ref kp1), .val (.ref kp2), .val (.int (0 : Int32)), .val (.int (0 : Int32)), .val (.int (1 : Int32)), .val (.int (own_conf aW kp1 kp2)), .unset] [(.int (own_conf aW kp2 kp1))])
          refine Go.st (fun _ h => XS.istore X24.here hx rfl (hb hby at_81) rfl (l' := #[.val (.int p1), .val (.int p2), .val (.ref kp1), .val (.ref kp2), .val (.int (0 : Int32)), .val (.int (0 : Int32)), .val (.int (1 : Int32)), .val (.int (own_conf aW kp1 kp2)), .val (.int (own_conf aW kp2 kp1))]) rfl h) ?_
          show Go p e below _ T24 (mkF m 83 #[.val (.int p1), .val (.int p2), .val (.ref kp1), .val (.ref kp2), .val (.int (0 : Int32)), .val (.int (0 : Int32)), .val (.int (1 : Int32)), .val (.int (own_conf aW kp1 kp2)), .val (.int (own_conf aW kp2 kp1))] [])
          refine Go.st (fun _ h => XS.iload X24.here hx rfl (hb hby at_83) rfl h) ?_
          show Go p e below _ T24 (mkF m 85 #[.val (.int p1), .val (.int p2), .val (.ref kp1), .val (.ref kp2), .val (.int (0 : Int32)), .val (.int (0 : Int32)), .val (.int (1 : Int32)), .val (.int (own_conf aW kp1 kp2)), .val (.int (own_conf aW kp2 kp1))] [(.int (own_conf aW kp1 kp2))])
          refine Go.st (fun _ h => XS.iload X24.here hx rfl (hb hby at_85) rfl h) ?_
          show Go p e below _ T24 (mkF m 87 #[.val (.int p1), .val (.int p2), .val (.ref kp1), .val (.ref kp2), .val (.int (0 : Int32)), .val (.int (0 : Int32)), .val (.int (1 : Int32)), .val (.int (own_conf aW kp1 kp2)), .val (.int (own_conf aW kp2 kp1))] [(.int (1 : Int32)), (.int (own_conf aW kp1 kp2))])
          refine Go.st (fun _ h => XS.icmpNo X24.here hx rfl (hb hby at_87) rfl ((teq (own_conf1 m1 (fun q => hc6 q.2) (fun q => hc20 q.2) : (own_conf aW kp1 kp2) = (1 : Int32))).2) h) ?_
          show Go p e below _ T24 (mkF m 90 #[.val (.int p1), .val (.int p2), .val (.ref kp1), .val (.ref kp2), .val (.int (0 : Int32)), .val (.int (0 : Int32)), .val (.int (1 : Int32)), .val (.int (own_conf aW kp1 kp2)), .val (.int (own_conf aW kp2 kp1))] [])
          refine Go.st (fun _ h => XS.iload X24.here hx rfl (hb hby at_90) rfl h) ?_
          show Go p e below _ T24 (mkF m 92 #[.val (.int p1), .val (.int p2), .val (.ref kp1), .val (.ref kp2), .val (.int (0 : Int32)), .val (.int (0 : Int32)), .val (.int (1 : Int32)), .val (.int (own_conf aW kp1 kp2)), .val (.int (own_conf aW kp2 kp1))] [(.int (own_conf aW kp1 kp2))])
          refine Go.st (fun _ h => XS.iload X24.here hx rfl (hb hby at_92) rfl h) ?_
          show Go p e below _ T24 (mkF m 94 #[.val (.int p1), .val (.int p2), .val (.ref kp1), .val (.ref kp2), .val (.int (0 : Int32)), .val (.int (0 : Int32)), .val (.int (1 : Int32)), .val (.int (own_conf aW kp1 kp2)), .val (.int (own_conf aW kp2 kp1))] [(.int (own_conf aW kp2 kp1)), (.int (own_conf aW kp1 kp2))])
          refine Go.st (fun _ h => XS.icmpNo X24.here hx rfl (hb hby at_94) rfl ((teq (own_conf_comm _ _ _ : (own_conf aW kp1 kp2) = (own_conf aW kp2 kp1))).2) h) ?_
          show Go p e below _ T24 (mkF m 97 #[.val (.int p1), .val (.int p2), .val (.ref kp1), .val (.ref kp2), .val (.int (0 : Int32)), .val (.int (0 : Int32)), .val (.int (1 : Int32)), .val (.int (own_conf aW kp1 kp2)), .val (.int (own_conf aW kp2 kp1))] [])
          refine Go.st (fun _ h => XT.iconstV X24.here hx rfl (1 : Int32) (hb hby at_97) (by decide) h) ?_
          show Go p e below _ T24 (mkF m 98 #[.val (.int p1), .val (.int p2), .val (.ref kp1), .val (.ref kp2), .val (.int (0 : Int32)), .val (.int (0 : Int32)), .val (.int (1 : Int32)), .val (.int (own_conf aW kp1 kp2)), .val (.int (own_conf aW kp2 kp1))] [(.int (1 : Int32))])
          refine Go.st (fun _ h => XS.goto X24.here hx rfl (pc0 := 98) (pc' := 102) rfl (hb hby at_98) (by decide) (by decide) h) ?_
          show Go p e below _ T24 (mkF m 102 #[.val (.int p1), .val (.int p2), .val (.ref kp1), .val (.ref kp2), .val (.int (0 : Int32)), .val (.int (0 : Int32)), .val (.int (1 : Int32)), .val (.int (own_conf aW kp1 kp2)), .val (.int (own_conf aW kp2 kp1))] [(.int (1 : Int32))])
          refine Go.retZ X24 hx hlk hret rfl (hb hby at_102) (by decide) (by decide) ?_
          exact ⟨rfl, Fr.nil _⟩
      · refine Go.st (fun _ h => XT.acmpYes X17.here hx rfl (pc0 := 35) (pc' := 49) rfl (hb hby at_35) rfl rfl rfl ((own_ane hc18).2) (by decide) (by decide) h) ?_
        show Go p e below _ T17 (mkF m 49 #[.val (.int p1), .val (.int p2), .val (.ref kp1), .val (.ref kp2), .val (.int (0 : Int32)), .unset, .unset, .unset, .unset] [])
        refine Go.st (fun _ h => XT.iconstV X17.here hx rfl (0 : Int32) (hb hby at_49) (by decide) h) ?_
        show Go p e below _ T17 (mkF m 50 #[.val (.int p1), .val (.int p2), .val (.ref kp1), .val (.ref kp2), .val (.int (0 : Int32)), .unset, .unset, .unset, .unset] [(.int (0 : Int32))])
        refine Go.st (fun _ h => XS.istore X17.here hx rfl (hb hby at_50) rfl (l' := #[.val (.int p1), .val (.int p2), .val (.ref kp1), .val (.ref kp2), .val (.int (0 : Int32)), .val (.int (0 : Int32)), .unset, .unset, .unset]) rfl h) ?_
        show Go p e below _ T17 (mkF m 52 #[.val (.int p1), .val (.int p2), .val (.ref kp1), .val (.ref kp2), .val (.int (0 : Int32)), .val (.int (0 : Int32)), .unset, .unset, .unset] [])
        refine Go.st (fun _ h => XS.iload X17.here hx rfl (hb hby at_52) rfl h) ?_
        show Go p e below _ T17 (mkF m 54 #[.val (.int p1), .val (.int p2), .val (.ref kp1), .val (.ref kp2), .val (.int (0 : Int32)), .val (.int (0 : Int32)), .unset, .unset, .unset] [(.int (0 : Int32))])
        refine Go.st (fun _ h => XS.ifNo X17.here hx rfl (hb hby at_54) rfl (by decide) h) ?_
        show Go p e below _ T17 (mkF m 57 #[.val (.int p1), .val (.int p2), .val (.ref kp1), .val (.ref kp2), .val (.int (0 : Int32)), .val (.int (0 : Int32)), .unset, .unset, .unset] [])
        refine Go.st (fun _ h => XS.iload X17.here hx rfl (hb hby at_57) rfl h) ?_
        show Go p e below _ T17 (mkF m 59 #[.val (.int p1), .val (.int p2), .val (.ref kp1), .val (.ref kp2), .val (.int (0 : Int32)), .val (.int (0 : Int32)), .unset, .unset, .unset] [(.int (0 : Int32))])
        refine Go.st (fun _ h => XS.ifNo X17.here hx rfl (hb hby at_59) rfl (by decide) h) ?_
        show Go p e below _ T17 (mkF m 62 #[.val (.int p1), .val (.int p2), .val (.ref kp1), .val (.ref kp2), .val (.int (0 : Int32)), .val (.int (0 : Int32)), .unset, .unset, .unset] [])
        refine Go.st (fun _ h => XT.iconstV X17.here hx rfl (1 : Int32) (hb hby at_62) (by decide) h) ?_
        show Go p e below _ T17 (mkF m 63 #[.val (.int p1), .val (.int p2), .val (.ref kp1), .val (.ref kp2), .val (.int (0 : Int32)), .val (.int (0 : Int32)), .unset, .unset, .unset] [(.int (1 : Int32))])
        refine Go.st (fun _ h => XS.goto X17.here hx rfl (pc0 := 63) (pc' := 67) rfl (hb hby at_63) (by decide) (by decide) h) ?_
        show Go p e below _ T17 (mkF m 67 #[.val (.int p1), .val (.int p2), .val (.ref kp1), .val (.ref kp2), .val (.int (0 : Int32)), .val (.int (0 : Int32)), .unset, .unset, .unset] [(.int (1 : Int32))])
        refine Go.st (fun _ h => XS.istore X17.here hx rfl (hb hby at_67) rfl (l' := #[.val (.int p1), .val (.int p2), .val (.ref kp1), .val (.ref kp2), .val (.int (0 : Int32)), .val (.int (0 : Int32)), .val (.int (1 : Int32)), .unset, .unset]) rfl h) ?_
        show Go p e below _ T17 (mkF m 69 #[.val (.int p1), .val (.int p2), .val (.ref kp1), .val (.ref kp2), .val (.int (0 : Int32)), .val (.int (0 : Int32)), .val (.int (1 : Int32)), .unset, .unset] [])
        refine Go.st (fun _ h => XS.aloadN X17.here hx rfl (hb hby at_69) rfl rfl h) ?_
        show Go p e below _ T17 (mkF m 70 #[.val (.int p1), .val (.int p2), .val (.ref kp1), .val (.ref kp2), .val (.int (0 : Int32)), .val (.int (0 : Int32)), .val (.int (1 : Int32)), .unset, .unset] [(.ref kp1)])
        refine Go.st (fun _ h => XS.aloadN X17.here hx rfl (hb hby at_70) rfl rfl h) ?_
        show Go p e below _ T17 (mkF m 71 #[.val (.int p1), .val (.int p2), .val (.ref kp1), .val (.ref kp2), .val (.int (0 : Int32)), .val (.int (0 : Int32)), .val (.int (1 : Int32)), .unset, .unset] [(.ref kp2), (.ref kp1)])
        obtain ⟨T25, X25, e25, st25⟩ := own_still rfl rfl (Does.virtual (y := (⟨"ironwood/runtime/Locks$Mode", "conflicts", "(Lironwood/runtime/Locks$Mode;)Z"⟩ : MethodName)) (g := (mkF m 71 #[.val (.int p1), .val (.int p2), .val (.ref kp1), .val (.ref kp2), .val (.int (0 : Int32)), .val (.int (0 : Int32)), .val (.int (1 : Int32)), .unset, .unset] [(.ref kp2), (.ref kp1)])) (a := kp1) (rmConf l Z a0 hw kp1 kp2 aW h0 S_WRITE) X17 hx hZ hown e17 Ekp1 (hw _ (List.mem_of_getElem? (i := 10) rfl)) (hw _ (List.mem_of_getElem? (i := 11) rfl)) (hw _ (List.mem_of_getElem? (i := 13) rfl)) (hw _ (List.mem_of_getElem? (i := 12) rfl)) (hw _ (List.mem_of_getElem? (i := 6) rfl)) (hw _ (List.mem_of_getElem? (i := 14) rfl)) (by decide) rfl (by rw [hml]; rfl) (argsL := [(.ref kp2)]) (rest := []) (lenOf pd_28Lironwood2fruntime2fLocks24Mode3b29Z rfl) rfl (hb hby at_71) (W := 0) (by show 2 * 0 + _ ≤ _; exact Nat.le_of_eq rfl) (by decide) (by decide) (by decide) (by decide))
        refine Go.st st25 ?_
        show Go p e below _ T25 (mkF m 74 #[.val (.int p1), .val (.int p2), .val (.ref kp1), .val (.ref kp2), .val (.int (0 : Int32)), .val (.int (0 : Int32)), .val (.int (1 : Int32)), .unset, .unset] [(.int (own_conf aW kp1 kp2))])
        refine Go.st (fun _ h => XS.istore X25.here hx rfl (hb hby at_74) rfl (l' := #[.val (.int p1), .val (.int p2), .val (.ref kp1), .val (.ref kp2), .val (.int (0 : Int32)), .val (.int (0 : Int32)), .val (.int (1 : Int32)), .val (.int (own_conf aW kp1 kp2)), .unset]) rfl h) ?_
        show Go p e below _ T25 (mkF m 76 #[.val (.int p1), .val (.int p2), .val (.ref kp1), .val (.ref kp2), .val (.int (0 : Int32)), .val (.int (0 : Int32)), .val (.int (1 : Int32)), .val (.int (own_conf aW kp1 kp2)), .unset] [])
        refine Go.st (fun _ h => XS.aloadN X25.here hx rfl (hb hby at_76) rfl rfl h) ?_
        show Go p e below _ T25 (mkF m 77 #[.val (.int p1), .val (.int p2), .val (.ref kp1), .val (.ref kp2), .val (.int (0 : Int32)), .val (.int (0 : Int32)), .val (.int (1 : Int32)), .val (.int (own_conf aW kp1 kp2)), .unset] [(.ref kp2)])
        refine Go.st (fun _ h => XS.aloadN X25.here hx rfl (hb hby at_77) rfl rfl h) ?_
        show Go p e below _ T25 (mkF m 78 #[.val (.int p1), .val (.int p2), .val (.ref kp1), .val (.ref kp2), .val (.int (0 : Int32)), .val (.int (0 : Int32)), .val (.int (1 : Int32)), .val (.int (own_conf aW kp1 kp2)), .unset] [(.ref kp1), (.ref kp2)])
        obtain ⟨T26, X26, e26, st26⟩ := own_still rfl rfl (Does.virtual (y := (⟨"ironwood/runtime/Locks$Mode", "conflicts", "(Lironwood/runtime/Locks$Mode;)Z"⟩ : MethodName)) (g := (mkF m 78 #[.val (.int p1), .val (.int p2), .val (.ref kp1), .val (.ref kp2), .val (.int (0 : Int32)), .val (.int (0 : Int32)), .val (.int (1 : Int32)), .val (.int (own_conf aW kp1 kp2)), .unset] [(.ref kp1), (.ref kp2)])) (a := kp2) (rmConf l Z a0 hw kp2 kp1 aW h0 S_WRITE) X25 hx hZ hown e25 Ekp2 (hw _ (List.mem_of_getElem? (i := 10) rfl)) (hw _ (List.mem_of_getElem? (i := 11) rfl)) (hw _ (List.mem_of_getElem? (i := 13) rfl)) (hw _ (List.mem_of_getElem? (i := 12) rfl)) (hw _ (List.mem_of_getElem? (i := 6) rfl)) (hw _ (List.mem_of_getElem? (i := 14) rfl)) (by decide) rfl (by rw [hml]; rfl) (argsL := [(.ref kp1)]) (rest := []) (lenOf pd_28Lironwood2fruntime2fLocks24Mode3b29Z rfl) rfl (hb hby at_78) (W := 0) (by show 2 * 0 + _ ≤ _; exact Nat.le_of_eq rfl) (by decide) (by decide) (by decide) (by decide))
        refine Go.st st26 ?_
        show Go p e below _ T26 (mkF m 81 #[.val (.int p1), .val (.int p2), .val (.ref kp1), .val (.ref kp2), .val (.int (0 : Int32)), .val (.int (0 : Int32)), .val (.int (1 : Int32)), .val (.int (own_conf aW kp1 kp2)), .unset] [(.int (own_conf aW kp2 kp1))])
        refine Go.st (fun _ h => XS.istore X26.here hx rfl (hb hby at_81) rfl (l' := #[.val (.int p1), .val (.int p2), .val (.ref kp1), .val (.ref kp2), .val (.int (0 : Int32)), .val (.int (0 : Int32)), .val (.int (1 : Int32)), .val (.int (own_conf aW kp1 kp2)), .val (.int (own_conf aW kp2 kp1))]) rfl h) ?_
        show Go p e below _ T26 (mkF m 83 #[.val (.int p1), .val (.int p2), .val (.ref kp1), .val (.ref kp2), .val (.int (0 : Int32)), .val (.int (0 : Int32)), .val (.int (1 : Int32)), .val (.int (own_conf aW kp1 kp2)), .val (.int (own_conf aW kp2 kp1))] [])
        refine Go.st (fun _ h => XS.iload X26.here hx rfl (hb hby at_83) rfl h) ?_
        show Go p e below _ T26 (mkF m 85 #[.val (.int p1), .val (.int p2), .val (.ref kp1), .val (.ref kp2), .val (.int (0 : Int32)), .val (.int (0 : Int32)), .val (.int (1 : Int32)), .val (.int (own_conf aW kp1 kp2)), .val (.int (own_conf aW kp2 kp1))] [(.int (own_conf aW kp1 kp2))])
        refine Go.st (fun _ h => XS.iload X26.here hx rfl (hb hby at_85) rfl h) ?_
        show Go p e below _ T26 (mkF m 87 #[.val (.int p1), .val (.int p2), .val (.ref kp1), .val (.ref kp2), .val (.int (0 : Int32)), .val (.int (0 : Int32)), .val (.int (1 : Int32)), .val (.int (own_conf aW kp1 kp2)), .val (.int (own_conf aW kp2 kp1))] [(.int (1 : Int32)), (.int (own_conf aW kp1 kp2))])
        refine Go.st (fun _ h => XS.icmpNo X26.here hx rfl (hb hby at_87) rfl ((teq (own_conf1 m1 (fun q => hc6 q.2) (fun q => hc18 q.1) : (own_conf aW kp1 kp2) = (1 : Int32))).2) h) ?_
        show Go p e below _ T26 (mkF m 90 #[.val (.int p1), .val (.int p2), .val (.ref kp1), .val (.ref kp2), .val (.int (0 : Int32)), .val (.int (0 : Int32)), .val (.int (1 : Int32)), .val (.int (own_conf aW kp1 kp2)), .val (.int (own_conf aW kp2 kp1))] [])
        refine Go.st (fun _ h => XS.iload X26.here hx rfl (hb hby at_90) rfl h) ?_
        show Go p e below _ T26 (mkF m 92 #[.val (.int p1), .val (.int p2), .val (.ref kp1), .val (.ref kp2), .val (.int (0 : Int32)), .val (.int (0 : Int32)), .val (.int (1 : Int32)), .val (.int (own_conf aW kp1 kp2)), .val (.int (own_conf aW kp2 kp1))] [(.int (own_conf aW kp1 kp2))])
        refine Go.st (fun _ h => XS.iload X26.here hx rfl (hb hby at_92) rfl h) ?_
        show Go p e below _ T26 (mkF m 94 #[.val (.int p1), .val (.int p2), .val (.ref kp1), .val (.ref kp2), .val (.int (0 : Int32)), .val (.int (0 : Int32)), .val (.int (1 : Int32)), .val (.int (own_conf aW kp1 kp2)), .val (.int (own_conf aW kp2 kp1))] [(.int (own_conf aW kp2 kp1)), (.int (own_conf aW kp1 kp2))])
        refine Go.st (fun _ h => XS.icmpNo X26.here hx rfl (hb hby at_94) rfl ((teq (own_conf_comm _ _ _ : (own_conf aW kp1 kp2) = (own_conf aW kp2 kp1))).2) h) ?_
        show Go p e below _ T26 (mkF m 97 #[.val (.int p1), .val (.int p2), .val (.ref kp1), .val (.ref kp2), .val (.int (0 : Int32)), .val (.int (0 : Int32)), .val (.int (1 : Int32)), .val (.int (own_conf aW kp1 kp2)), .val (.int (own_conf aW kp2 kp1))] [])
        refine Go.st (fun _ h => XT.iconstV X26.here hx rfl (1 : Int32) (hb hby at_97) (by decide) h) ?_
        show Go p e below _ T26 (mkF m 98 #[.val (.int p1), .val (.int p2), .val (.ref kp1), .val (.ref kp2), .val (.int (0 : Int32)), .val (.int (0 : Int32)), .val (.int (1 : Int32)), .val (.int (own_conf aW kp1 kp2)), .val (.int (own_conf aW kp2 kp1))] [(.int (1 : Int32))])
        refine Go.st (fun _ h => XS.goto X26.here hx rfl (pc0 := 98) (pc' := 102) rfl (hb hby at_98) (by decide) (by decide) h) ?_
        show Go p e below _ T26 (mkF m 102 #[.val (.int p1), .val (.int p2), .val (.ref kp1), .val (.ref kp2), .val (.int (0 : Int32)), .val (.int (0 : Int32)), .val (.int (1 : Int32)), .val (.int (own_conf aW kp1 kp2)), .val (.int (own_conf aW kp2 kp1))] [(.int (1 : Int32))])
        refine Go.retZ X26 hx hlk hret rfl (hb hby at_102) (by decide) (by decide) ?_
        exact ⟨rfl, Fr.nil _⟩
  · refine Go.st (fun _ h => XT.acmpYes X3.here hx rfl (pc0 := 14) (pc' := 28) rfl (hb hby at_14) rfl rfl rfl ((own_ane hc4).2) (by decide) (by decide) h) ?_
    show Go p e below _ T3 (mkF m 28 #[.val (.int p1), .val (.int p2), .val (.ref kp1), .val (.ref kp2), .unset, .unset, .unset, .unset, .unset] [])
    refine Go.st (fun _ h => XT.iconstV X3.here hx rfl (0 : Int32) (hb hby at_28) (by decide) h) ?_
    show Go p e below _ T3 (mkF m 29 #[.val (.int p1), .val (.int p2), .val (.ref kp1), .val (.ref kp2), .unset, .unset, .unset, .unset, .unset] [(.int (0 : Int32))])
    refine Go.st (fun _ h => XS.istore X3.here hx rfl (hb hby at_29) rfl (l' := #[.val (.int p1), .val (.int p2), .val (.ref kp1), .val (.ref kp2), .val (.int (0 : Int32)), .unset, .unset, .unset, .unset]) rfl h) ?_
    show Go p e below _ T3 (mkF m 31 #[.val (.int p1), .val (.int p2), .val (.ref kp1), .val (.ref kp2), .val (.int (0 : Int32)), .unset, .unset, .unset, .unset] [])
    refine Go.st (fun _ h => XS.aloadN X3.here hx rfl (hb hby at_31) rfl rfl h) ?_
    show Go p e below _ T3 (mkF m 32 #[.val (.int p1), .val (.int p2), .val (.ref kp1), .val (.ref kp2), .val (.int (0 : Int32)), .unset, .unset, .unset, .unset] [(.ref kp1)])
    obtain ⟨T27, X27, e27, st27⟩ := getS2 X3 hx hZ hown (host := "") (Or.inl (hw _ (List.mem_of_getElem? (i := 8) rfl))) Via.refl e3 S_COMMUTE (g := (mkF m 32 #[.val (.int p1), .val (.int p2), .val (.ref kp1), .val (.ref kp2), .val (.int (0 : Int32)), .unset, .unset, .unset, .unset] [(.ref kp1)])) rfl (hb hby at_32)
    refine Go.st st27 ?_
    show Go p e below _ T27 (mkF m 35 #[.val (.int p1), .val (.int p2), .val (.ref kp1), .val (.ref kp2), .val (.int (0 : Int32)), .unset, .unset, .unset, .unset] [(.ref aC), (.ref kp1)])
    by_cases hc28 : kp1 = aC
    · refine Go.st (fun _ h => XT.acmpNo X27.here hx rfl (hb hby at_35) rfl rfl rfl ((own_aeq hc28).2) h) ?_
      show Go p e below _ T27 (mkF m 38 #[.val (.int p1), .val (.int p2), .val (.ref kp1), .val (.ref kp2), .val (.int (0 : Int32)), .unset, .unset, .unset, .unset] [])
      refine Go.st (fun _ h => XS.aloadN X27.here hx rfl (hb hby at_38) rfl rfl h) ?_
      show Go p e below _ T27 (mkF m 39 #[.val (.int p1), .val (.int p2), .val (.ref kp1), .val (.ref kp2), .val (.int (0 : Int32)), .unset, .unset, .unset, .unset] [(.ref kp2)])
      obtain ⟨T29, X29, e29, st29⟩ := getS2 X27 hx hZ hown (host := "") (Or.inl (hw _ (List.mem_of_getElem? (i := 8) rfl))) Via.refl e27 S_COMMUTE (g := (mkF m 39 #[.val (.int p1), .val (.int p2), .val (.ref kp1), .val (.ref kp2), .val (.int (0 : Int32)), .unset, .unset, .unset, .unset] [(.ref kp2)])) rfl (hb hby at_39)
      refine Go.st st29 ?_
      show Go p e below _ T29 (mkF m 42 #[.val (.int p1), .val (.int p2), .val (.ref kp1), .val (.ref kp2), .val (.int (0 : Int32)), .unset, .unset, .unset, .unset] [(.ref aC), (.ref kp2)])
      by_cases hc30 : kp2 = aC
      · refine Go.st (fun _ h => XT.acmpNo X29.here hx rfl (hb hby at_42) rfl rfl rfl ((own_aeq hc30).2) h) ?_
        show Go p e below _ T29 (mkF m 45 #[.val (.int p1), .val (.int p2), .val (.ref kp1), .val (.ref kp2), .val (.int (0 : Int32)), .unset, .unset, .unset, .unset] [])
        refine Go.st (fun _ h => XT.iconstV X29.here hx rfl (1 : Int32) (hb hby at_45) (by decide) h) ?_
        show Go p e below _ T29 (mkF m 46 #[.val (.int p1), .val (.int p2), .val (.ref kp1), .val (.ref kp2), .val (.int (0 : Int32)), .unset, .unset, .unset, .unset] [(.int (1 : Int32))])
        refine Go.st (fun _ h => XS.goto X29.here hx rfl (pc0 := 46) (pc' := 50) rfl (hb hby at_46) (by decide) (by decide) h) ?_
        show Go p e below _ T29 (mkF m 50 #[.val (.int p1), .val (.int p2), .val (.ref kp1), .val (.ref kp2), .val (.int (0 : Int32)), .unset, .unset, .unset, .unset] [(.int (1 : Int32))])
        refine Go.st (fun _ h => XS.istore X29.here hx rfl (hb hby at_50) rfl (l' := #[.val (.int p1), .val (.int p2), .val (.ref kp1), .val (.ref kp2), .val (.int (0 : Int32)), .val (.int (1 : Int32)), .unset, .unset, .unset]) rfl h) ?_
        show Go p e below _ T29 (mkF m 52 #[.val (.int p1), .val (.int p2), .val (.ref kp1), .val (.ref kp2), .val (.int (0 : Int32)), .val (.int (1 : Int32)), .unset, .unset, .unset] [])
        refine Go.st (fun _ h => XS.iload X29.here hx rfl (hb hby at_52) rfl h) ?_
        show Go p e below _ T29 (mkF m 54 #[.val (.int p1), .val (.int p2), .val (.ref kp1), .val (.ref kp2), .val (.int (0 : Int32)), .val (.int (1 : Int32)), .unset, .unset, .unset] [(.int (0 : Int32))])
        refine Go.st (fun _ h => XS.ifNo X29.here hx rfl (hb hby at_54) rfl (by decide) h) ?_
        show Go p e below _ T29 (mkF m 57 #[.val (.int p1), .val (.int p2), .val (.ref kp1), .val (.ref kp2), .val (.int (0 : Int32)), .val (.int (1 : Int32)), .unset, .unset, .unset] [])
        refine Go.st (fun _ h => XS.iload X29.here hx rfl (hb hby at_57) rfl h) ?_
        show Go p e below _ T29 (mkF m 59 #[.val (.int p1), .val (.int p2), .val (.ref kp1), .val (.ref kp2), .val (.int (0 : Int32)), .val (.int (1 : Int32)), .unset, .unset, .unset] [(.int (1 : Int32))])
        refine Go.st (fun _ h => XS.ifYes X29.here hx rfl (pc0 := 59) (pc' := 66) rfl (hb hby at_59) rfl (by decide) (by decide) (by decide) h) ?_
        show Go p e below _ T29 (mkF m 66 #[.val (.int p1), .val (.int p2), .val (.ref kp1), .val (.ref kp2), .val (.int (0 : Int32)), .val (.int (1 : Int32)), .unset, .unset, .unset] [])
        refine Go.st (fun _ h => XT.iconstV X29.here hx rfl (0 : Int32) (hb hby at_66) (by decide) h) ?_
        show Go p e below _ T29 (mkF m 67 #[.val (.int p1), .val (.int p2), .val (.ref kp1), .val (.ref kp2), .val (.int (0 : Int32)), .val (.int (1 : Int32)), .unset, .unset, .unset] [(.int (0 : Int32))])
        refine Go.st (fun _ h => XS.istore X29.here hx rfl (hb hby at_67) rfl (l' := #[.val (.int p1), .val (.int p2), .val (.ref kp1), .val (.ref kp2), .val (.int (0 : Int32)), .val (.int (1 : Int32)), .val (.int (0 : Int32)), .unset, .unset]) rfl h) ?_
        show Go p e below _ T29 (mkF m 69 #[.val (.int p1), .val (.int p2), .val (.ref kp1), .val (.ref kp2), .val (.int (0 : Int32)), .val (.int (1 : Int32)), .val (.int (0 : Int32)), .unset, .unset] [])
        refine Go.st (fun _ h => XS.aloadN X29.here hx rfl (hb hby at_69) rfl rfl h) ?_
        show Go p e below _ T29 (mkF m 70 #[.val (.int p1), .val (.int p2), .val (.ref kp1), .val (.ref kp2), .val (.int (0 : Int32)), .val (.int (1 : Int32)), .val (.int (0 : Int32)), .unset, .unset] [(.ref kp1)])
        refine Go.st (fun _ h => XS.aloadN X29.here hx rfl (hb hby at_70) rfl rfl h) ?_
        show Go p e below _ T29 (mkF m 71 #[.val (.int p1), .val (.int p2), .val (.ref kp1), .val (.ref kp2), .val (.int (0 : Int32)), .val (.int (1 : Int32)), .val (.int (0 : Int32)), .unset, .unset] [(.ref kp2), (.ref kp1)])
        obtain ⟨T31, X31, e31, st31⟩ := own_still rfl rfl (Does.virtual (y := (⟨"ironwood/runtime/Locks$Mode", "conflicts", "(Lironwood/runtime/Locks$Mode;)Z"⟩ : MethodName)) (g := (mkF m 71 #[.val (.int p1), .val (.int p2), .val (.ref kp1), .val (.ref kp2), .val (.int (0 : Int32)), .val (.int (1 : Int32)), .val (.int (0 : Int32)), .unset, .unset] [(.ref kp2), (.ref kp1)])) (a := kp1) (rmConf l Z a0 hw kp1 kp2 aW h0 S_WRITE) X29 hx hZ hown e29 Ekp1 (hw _ (List.mem_of_getElem? (i := 10) rfl)) (hw _ (List.mem_of_getElem? (i := 11) rfl)) (hw _ (List.mem_of_getElem? (i := 13) rfl)) (hw _ (List.mem_of_getElem? (i := 12) rfl)) (hw _ (List.mem_of_getElem? (i := 6) rfl)) (hw _ (List.mem_of_getElem? (i := 14) rfl)) (by decide) rfl (by rw [hml]; rfl) (argsL := [(.ref kp2)]) (rest := []) (lenOf pd_28Lironwood2fruntime2fLocks24Mode3b29Z rfl) rfl (hb hby at_71) (W := 0) (by show 2 * 0 + _ ≤ _; exact Nat.le_of_eq rfl) (by decide) (by decide) (by decide) (by decide))
        refine Go.st st31 ?_
        show Go p e below _ T31 (mkF m 74 #[.val (.int p1), .val (.int p2), .val (.ref kp1), .val (.ref kp2), .val (.int (0 : Int32)), .val (.int (1 : Int32)), .val (.int (0 : Int32)), .unset, .unset] [(.int (own_conf aW kp1 kp2))])
        refine Go.st (fun _ h => XS.istore X31.here hx rfl (hb hby at_74) rfl (l' := #[.val (.int p1), .val (.int p2), .val (.ref kp1), .val (.ref kp2), .val (.int (0 : Int32)), .val (.int (1 : Int32)), .val (.int (0 : Int32)), .val (.int (own_conf aW kp1 kp2)), .unset]) rfl h) ?_
        show Go p e below _ T31 (mkF m 76 #[.val (.int p1), .val (.int p2), .val (.ref kp1), .val (.ref kp2), .val (.int (0 : Int32)), .val (.int (1 : Int32)), .val (.int (0 : Int32)), .val (.int (own_conf aW kp1 kp2)), .unset] [])
        refine Go.st (fun _ h => XS.aloadN X31.here hx rfl (hb hby at_76) rfl rfl h) ?_
        show Go p e below _ T31 (mkF m 77 #[.val (.int p1), .val (.int p2), .val (.ref kp1), .val (.ref kp2), .val (.int (0 : Int32)), .val (.int (1 : Int32)), .val (.int (0 : Int32)), .val (.int (own_conf aW kp1 kp2)), .unset] [(.ref kp2)])
        refine Go.st (fun _ h => XS.aloadN X31.here hx rfl (hb hby at_77) rfl rfl h) ?_
        show Go p e below _ T31 (mkF m 78 #[.val (.int p1), .val (.int p2), .val (.ref kp1), .val (.ref kp2), .val (.int (0 : Int32)), .val (.int (1 : Int32)), .val (.int (0 : Int32)), .val (.int (own_conf aW kp1 kp2)), .unset] [(.ref kp1), (.ref kp2)])
        obtain ⟨T32, X32, e32, st32⟩ := own_still rfl rfl (Does.virtual (y := (⟨"ironwood/runtime/Locks$Mode", "conflicts", "(Lironwood/runtime/Locks$Mode;)Z"⟩ : MethodName)) (g := (mkF m 78 #[.val (.int p1), .val (.int p2), .val (.ref kp1), .val (.ref kp2), .val (.int (0 : Int32)), .val (.int (1 : Int32)), .val (.int (0 : Int32)), .val (.int (own_conf aW kp1 kp2)), .unset] [(.ref kp1), (.ref kp2)])) (a := kp2) (rmConf l Z a0 hw kp2 kp1 aW h0 S_WRITE) X31 hx hZ hown e31 Ekp2 (hw _ (List.mem_of_getElem? (i := 10) rfl)) (hw _ (List.mem_of_getElem? (i := 11) rfl)) (hw _ (List.mem_of_getElem? (i := 13) rfl)) (hw _ (List.mem_of_getElem? (i := 12) rfl)) (hw _ (List.mem_of_getElem? (i := 6) rfl)) (hw _ (List.mem_of_getElem? (i := 14) rfl)) (by decide) rfl (by rw [hml]; rfl) (argsL := [(.ref kp1)]) (rest := []) (lenOf pd_28Lironwood2fruntime2fLocks24Mode3b29Z rfl) rfl (hb hby at_78) (W := 0) (by show 2 * 0 + _ ≤ _; exact Nat.le_of_eq rfl) (by decide) (by decide) (by decide) (by decide))
        refine Go.st st32 ?_
        show Go p e below _ T32 (mkF m 81 #[.val (.int p1), .val (.int p2), .val (.ref kp1), .val (.ref kp2), .val (.int (0 : Int32)), .val (.int (1 : Int32)), .val (.int (0 : Int32)), .val (.int (own_conf aW kp1 kp2)), .unset] [(.int (own_conf aW kp2 kp1))])
        refine Go.st (fun _ h => XS.istore X32.here hx rfl (hb hby at_81) rfl (l' := #[.val (.int p1), .val (.int p2), .val (.ref kp1), .val (.ref kp2), .val (.int (0 : Int32)), .val (.int (1 : Int32)), .val (.int (0 : Int32)), .val (.int (own_conf aW kp1 kp2)), .val (.int (own_conf aW kp2 kp1))]) rfl h) ?_
        show Go p e below _ T32 (mkF m 83 #[.val (.int p1), .val (.int p2), .val (.ref kp1), .val (.ref kp2), .val (.int (0 : Int32)), .val (.int (1 : Int32)), .val (.int (0 : Int32)), .val (.int (own_conf aW kp1 kp2)), .val (.int (own_conf aW kp2 kp1))] [])
        refine Go.st (fun _ h => XS.iload X32.here hx rfl (hb hby at_83) rfl h) ?_
        show Go p e below _ T32 (mkF m 85 #[.val (.int p1), .val (.int p2), .val (.ref kp1), .val (.ref kp2), .val (.int (0 : Int32)), .val (.int (1 : Int32)), .val (.int (0 : Int32)), .val (.int (own_conf aW kp1 kp2)), .val (.int (own_conf aW kp2 kp1))] [(.int (own_conf aW kp1 kp2))])
        refine Go.st (fun _ h => XS.iload X32.here hx rfl (hb hby at_85) rfl h) ?_
        show Go p e below _ T32 (mkF m 87 #[.val (.int p1), .val (.int p2), .val (.ref kp1), .val (.ref kp2), .val (.int (0 : Int32)), .val (.int (1 : Int32)), .val (.int (0 : Int32)), .val (.int (own_conf aW kp1 kp2)), .val (.int (own_conf aW kp2 kp1))] [(.int (0 : Int32)), (.int (own_conf aW kp1 kp2))])
        refine Go.st (fun _ h => XS.icmpNo X32.here hx rfl (hb hby at_87) rfl ((teq (own_conf0c n1 n2 n3 hc28 hc30 : (own_conf aW kp1 kp2) = (0 : Int32))).2) h) ?_
        show Go p e below _ T32 (mkF m 90 #[.val (.int p1), .val (.int p2), .val (.ref kp1), .val (.ref kp2), .val (.int (0 : Int32)), .val (.int (1 : Int32)), .val (.int (0 : Int32)), .val (.int (own_conf aW kp1 kp2)), .val (.int (own_conf aW kp2 kp1))] [])
        refine Go.st (fun _ h => XS.iload X32.here hx rfl (hb hby at_90) rfl h) ?_
        show Go p e below _ T32 (mkF m 92 #[.val (.int p1), .val (.int p2), .val (.ref kp1), .val (.ref kp2), .val (.int (0 : Int32)), .val (.int (1 : Int32)), .val (.int (0 : Int32)), .val (.int (own_conf aW kp1 kp2)), .val (.int (own_conf aW kp2 kp1))] [(.int (own_conf aW kp1 kp2))])
        refine Go.st (fun _ h => XS.iload X32.here hx rfl (hb hby at_92) rfl h) ?_
        show Go p e below _ T32 (mkF m 94 #[.val (.int p1), .val (.int p2), .val (.ref kp1), .val (.ref kp2), .val (.int (0 : Int32)), .val (.int (1 : Int32)), .val (.int (0 : Int32)), .val (.int (own_conf aW kp1 kp2)), .val (.int (own_conf aW kp2 kp1))] [(.int (own_conf aW kp2 kp1)), (.int (own_conf aW kp1 kp2))])
        refine Go.st (fun _ h => XS.icmpNo X32.here hx rfl (hb hby at_94) rfl ((teq (own_conf_comm _ _ _ : (own_conf aW kp1 kp2) = (own_conf aW kp2 kp1))).2) h) ?_
        show Go p e below _ T32 (mkF m 97 #[.val (.int p1), .val (.int p2), .val (.ref kp1), .val (.ref kp2), .val (.int (0 : Int32)), .val (.int (1 : Int32)), .val (.int (0 : Int32)), .val (.int (own_conf aW kp1 kp2)), .val (.int (own_conf aW kp2 kp1))] [])
        refine Go.st (fun _ h => XT.iconstV X32.here hx rfl (1 : Int32) (hb hby at_97) (by decide) h) ?_
        show Go p e below _ T32 (mkF m 98 #[.val (.int p1), .val (.int p2), .val (.ref kp1), .val (.ref kp2), .val (.int (0 : Int32)), .val (.int (1 : Int32)), .val (.int (0 : Int32)), .val (.int (own_conf aW kp1 kp2)), .val (.int (own_conf aW kp2 kp1))] [(.int (1 : Int32))])
        refine Go.st (fun _ h => XS.goto X32.here hx rfl (pc0 := 98) (pc' := 102) rfl (hb hby at_98) (by decide) (by decide) h) ?_
        show Go p e below _ T32 (mkF m 102 #[.val (.int p1), .val (.int p2), .val (.ref kp1), .val (.ref kp2), .val (.int (0 : Int32)), .val (.int (1 : Int32)), .val (.int (0 : Int32)), .val (.int (own_conf aW kp1 kp2)), .val (.int (own_conf aW kp2 kp1))] [(.int (1 : Int32))])
        refine Go.retZ X32 hx hlk hret rfl (hb hby at_102) (by decide) (by decide) ?_
        exact ⟨rfl, Fr.nil _⟩
      · refine Go.st (fun _ h => XT.acmpYes X29.here hx rfl (pc0 := 42) (pc' := 49) rfl (hb hby at_42) rfl rfl rfl ((own_ane hc30).2) (by decide) (by decide) h) ?_
        show Go p e below _ T29 (mkF m 49 #[.val (.int p1), .val (.int p2), .val (.ref kp1), .val (.ref kp2), .val (.int (0 : Int32)), .unset, .unset, .unset, .unset] [])
        refine Go.st (fun _ h => XT.iconstV X29.here hx rfl (0 : Int32) (hb hby at_49) (by decide) h) ?_
        show Go p e below _ T29 (mkF m 50 #[.val (.int p1), .val (.int p2), .val (.ref kp1), .val (.ref kp2), .val (.int (0 : Int32)), .unset, .unset, .unset, .unset] [(.int (0 : Int32))])
        refine Go.st (fun _ h => XS.istore X29.here hx rfl (hb hby at_50) rfl (l' := #[.val (.int p1), .val (.int p2), .val (.ref kp1), .val (.ref kp2), .val (.int (0 : Int32)), .val (.int (0 : Int32)), .unset, .unset, .unset]) rfl h) ?_
        show Go p e below _ T29 (mkF m 52 #[.val (.int p1), .val (.int p2), .val (.ref kp1), .val (.ref kp2), .val (.int (0 : Int32)), .val (.int (0 : Int32)), .unset, .unset, .unset] [])
        refine Go.st (fun _ h => XS.iload X29.here hx rfl (hb hby at_52) rfl h) ?_
        show Go p e below _ T29 (mkF m 54 #[.val (.int p1), .val (.int p2), .val (.ref kp1), .val (.ref kp2), .val (.int (0 : Int32)), .val (.int (0 : Int32)), .unset, .unset, .unset] [(.int (0 : Int32))])
        refine Go.st (fun _ h => XS.ifNo X29.here hx rfl (hb hby at_54) rfl (by decide) h) ?_
        show Go p e below _ T29 (mkF m 57 #[.val (.int p1), .val (.int p2), .val (.ref kp1), .val (.ref kp2), .val (.int (0 : Int32)), .val (.int (0 : Int32)), .unset, .unset, .unset] [])
        refine Go.st (fun _ h => XS.iload X29.here hx rfl (hb hby at_57) rfl h) ?_
        show Go p e below _ T29 (mkF m 59 #[.val (.int p1), .val (.int p2), .val (.ref kp1), .val (.ref kp2), .val (.int (0 : Int32)), .val (.int (0 : Int32)), .unset, .unset, .unset] [(.int (0 : Int32))])
        refine Go.st (fun _ h => XS.ifNo X29.here hx rfl (hb hby at_59) rfl (by decide) h) ?_
        show Go p e below _ T29 (mkF m 62 #[.val (.int p1), .val (.int p2), .val (.ref kp1), .val (.ref kp2), .val (.int (0 : Int32)), .val (.int (0 : Int32)), .unset, .unset, .unset] [])
        refine Go.st (fun _ h => XT.iconstV X29.here hx rfl (1 : Int32) (hb hby at_62) (by decide) h) ?_
        show Go p e below _ T29 (mkF m 63 #[.val (.int p1), .val (.int p2), .val (.ref kp1), .val (.ref kp2), .val (.int (0 : Int32)), .val (.int (0 : Int32)), .unset, .unset, .unset] [(.int (1 : Int32))])
        refine Go.st (fun _ h => XS.goto X29.here hx rfl (pc0 := 63) (pc' := 67) rfl (hb hby at_63) (by decide) (by decide) h) ?_
        show Go p e below _ T29 (mkF m 67 #[.val (.int p1), .val (.int p2), .val (.ref kp1), .val (.ref kp2), .val (.int (0 : Int32)), .val (.int (0 : Int32)), .unset, .unset, .unset] [(.int (1 : Int32))])
        refine Go.st (fun _ h => XS.istore X29.here hx rfl (hb hby at_67) rfl (l' := #[.val (.int p1), .val (.int p2), .val (.ref kp1), .val (.ref kp2), .val (.int (0 : Int32)), .val (.int (0 : Int32)), .val (.int (1 : Int32)), .unset, .unset]) rfl h) ?_
        show Go p e below _ T29 (mkF m 69 #[.val (.int p1), .val (.int p2), .val (.ref kp1), .val (.ref kp2), .val (.int (0 : Int32)), .val (.int (0 : Int32)), .val (.int (1 : Int32)), .unset, .unset] [])
        refine Go.st (fun _ h => XS.aloadN X29.here hx rfl (hb hby at_69) rfl rfl h) ?_
        show Go p e below _ T29 (mkF m 70 #[.val (.int p1), .val (.int p2), .val (.ref kp1), .val (.ref kp2), .val (.int (0 : Int32)), .val (.int (0 : Int32)), .val (.int (1 : Int32)), .unset, .unset] [(.ref kp1)])
        refine Go.st (fun _ h => XS.aloadN X29.here hx rfl (hb hby at_70) rfl rfl h) ?_
        show Go p e below _ T29 (mkF m 71 #[.val (.int p1), .val (.int p2), .val (.ref kp1), .val (.ref kp2), .val (.int (0 : Int32)), .val (.int (0 : Int32)), .val (.int (1 : Int32)), .unset, .unset] [(.ref kp2), (.ref kp1)])
        obtain ⟨T33, X33, e33, st33⟩ := own_still rfl rfl (Does.virtual (y := (⟨"ironwood/runtime/Locks$Mode", "conflicts", "(Lironwood/runtime/Locks$Mode;)Z"⟩ : MethodName)) (g := (mkF m 71 #[.val (.int p1), .val (.int p2), .val (.ref kp1), .val (.ref kp2), .val (.int (0 : Int32)), .val (.int (0 : Int32)), .val (.int (1 : Int32)), .unset, .unset] [(.ref kp2), (.ref kp1)])) (a := kp1) (rmConf l Z a0 hw kp1 kp2 aW h0 S_WRITE) X29 hx hZ hown e29 Ekp1 (hw _ (List.mem_of_getElem? (i := 10) rfl)) (hw _ (List.mem_of_getElem? (i := 11) rfl)) (hw _ (List.mem_of_getElem? (i := 13) rfl)) (hw _ (List.mem_of_getElem? (i := 12) rfl)) (hw _ (List.mem_of_getElem? (i := 6) rfl)) (hw _ (List.mem_of_getElem? (i := 14) rfl)) (by decide) rfl (by rw [hml]; rfl) (argsL := [(.ref kp2)]) (rest := []) (lenOf pd_28Lironwood2fruntime2fLocks24Mode3b29Z rfl) rfl (hb hby at_71) (W := 0) (by show 2 * 0 + _ ≤ _; exact Nat.le_of_eq rfl) (by decide) (by decide) (by decide) (by decide))
        refine Go.st st33 ?_
        show Go p e below _ T33 (mkF m 74 #[.val (.int p1), .val (.int p2), .val (.ref kp1), .val (.ref kp2), .val (.int (0 : Int32)), .val (.int (0 : Int32)), .val (.int (1 : Int32)), .unset, .unset] [(.int (own_conf aW kp1 kp2))])
        refine Go.st (fun _ h => XS.istore X33.here hx rfl (hb hby at_74) rfl (l' := #[.val (.int p1), .val (.int p2), .val (.ref kp1), .val (.ref kp2), .val (.int (0 : Int32)), .val (.int (0 : Int32)), .val (.int (1 : Int32)), .val (.int (own_conf aW kp1 kp2)), .unset]) rfl h) ?_
        show Go p e below _ T33 (mkF m 76 #[.val (.int p1), .val (.int p2), .val (.ref kp1), .val (.ref kp2), .val (.int (0 : Int32)), .val (.int (0 : Int32)), .val (.int (1 : Int32)), .val (.int (own_conf aW kp1 kp2)), .unset] [])
        refine Go.st (fun _ h => XS.aloadN X33.here hx rfl (hb hby at_76) rfl rfl h) ?_
        show Go p e below _ T33 (mkF m 77 #[.val (.int p1), .val (.int p2), .val (.ref kp1), .val (.ref kp2), .val (.int (0 : Int32)), .val (.int (0 : Int32)), .val (.int (1 : Int32)), .val (.int (own_conf aW kp1 kp2)), .unset] [(.ref kp2)])
        refine Go.st (fun _ h => XS.aloadN X33.here hx rfl (hb hby at_77) rfl rfl h) ?_
        show Go p e below _ T33 (mkF m 78 #[.val (.int p1), .val (.int p2), .val (.ref kp1), .val (.ref kp2), .val (.int (0 : Int32)), .val (.int (0 : Int32)), .val (.int (1 : Int32)), .val (.int (own_conf aW kp1 kp2)), .unset] [(.ref kp1), (.ref kp2)])
        obtain ⟨T34, X34, e34, st34⟩ := own_still rfl rfl (Does.virtual (y := (⟨"ironwood/runtime/Locks$Mode", "conflicts", "(Lironwood/runtime/Locks$Mode;)Z"⟩ : MethodName)) (g := (mkF m 78 #[.val (.int p1), .val (.int p2), .val (.ref kp1), .val (.ref kp2), .val (.int (0 : Int32)), .val (.int (0 : Int32)), .val (.int (1 : Int32)), .val (.int (own_conf aW kp1 kp2)), .unset] [(.ref kp1), (.ref kp2)])) (a := kp2) (rmConf l Z a0 hw kp2 kp1 aW h0 S_WRITE) X33 hx hZ hown e33 Ekp2 (hw _ (List.mem_of_getElem? (i := 10) rfl)) (hw _ (List.mem_of_getElem? (i := 11) rfl)) (hw _ (List.mem_of_getElem? (i := 13) rfl)) (hw _ (List.mem_of_getElem? (i := 12) rfl)) (hw _ (List.mem_of_getElem? (i := 6) rfl)) (hw _ (List.mem_of_getElem? (i := 14) rfl)) (by decide) rfl (by rw [hml]; rfl) (argsL := [(.ref kp1)]) (rest := []) (lenOf pd_28Lironwood2fruntime2fLocks24Mode3b29Z rfl) rfl (hb hby at_78) (W := 0) (by show 2 * 0 + _ ≤ _; exact Nat.le_of_eq rfl) (by decide) (by decide) (by decide) (by decide))
        refine Go.st st34 ?_
        show Go p e below _ T34 (mkF m 81 #[.val (.int p1), .val (.int p2), .val (.ref kp1), .val (.ref kp2), .val (.int (0 : Int32)), .val (.int (0 : Int32)), .val (.int (1 : Int32)), .val (.int (own_conf aW kp1 kp2)), .unset] [(.int (own_conf aW kp2 kp1))])
        refine Go.st (fun _ h => XS.istore X34.here hx rfl (hb hby at_81) rfl (l' := #[.val (.int p1), .val (.int p2), .val (.ref kp1), .val (.ref kp2), .val (.int (0 : Int32)), .val (.int (0 : Int32)), .val (.int (1 : Int32)), .val (.int (own_conf aW kp1 kp2)), .val (.int (own_conf aW kp2 kp1))]) rfl h) ?_
        show Go p e below _ T34 (mkF m 83 #[.val (.int p1), .val (.int p2), .val (.ref kp1), .val (.ref kp2), .val (.int (0 : Int32)), .val (.int (0 : Int32)), .val (.int (1 : Int32)), .val (.int (own_conf aW kp1 kp2)), .val (.int (own_conf aW kp2 kp1))] [])
        refine Go.st (fun _ h => XS.iload X34.here hx rfl (hb hby at_83) rfl h) ?_
        show Go p e below _ T34 (mkF m 85 #[.val (.int p1), .val (.int p2), .val (.ref kp1), .val (.ref kp2), .val (.int (0 : Int32)), .val (.int (0 : Int32)), .val (.int (1 : Int32)), .val (.int (own_conf aW kp1 kp2)), .val (.int (own_conf aW kp2 kp1))] [(.int (own_conf aW kp1 kp2))])
        refine Go.st (fun _ h => XS.iload X34.here hx rfl (hb hby at_85) rfl h) ?_
        show Go p e below _ T34 (mkF m 87 #[.val (.int p1), .val (.int p2), .val (.ref kp1), .val (.ref kp2), .val (.int (0 : Int32)), .val (.int (0 : Int32)), .val (.int (1 : Int32)), .val (.int (own_conf aW kp1 kp2)), .val (.int (own_conf aW kp2 kp1))] [(.int (1 : Int32)), (.int (own_conf aW kp1 kp2))])
        refine Go.st (fun _ h => XS.icmpNo X34.here hx rfl (hb hby at_87) rfl ((teq (own_conf1 m1 (fun q => hc4 q.1) (fun q => hc30 q.2) : (own_conf aW kp1 kp2) = (1 : Int32))).2) h) ?_
        show Go p e below _ T34 (mkF m 90 #[.val (.int p1), .val (.int p2), .val (.ref kp1), .val (.ref kp2), .val (.int (0 : Int32)), .val (.int (0 : Int32)), .val (.int (1 : Int32)), .val (.int (own_conf aW kp1 kp2)), .val (.int (own_conf aW kp2 kp1))] [])
        refine Go.st (fun _ h => XS.iload X34.here hx rfl (hb hby at_90) rfl h) ?_
        show Go p e below _ T34 (mkF m 92 #[.val (.int p1), .val (.int p2), .val (.ref kp1), .val (.ref kp2), .val (.int (0 : Int32)), .val (.int (0 : Int32)), .val (.int (1 : Int32)), .val (.int (own_conf aW kp1 kp2)), .val (.int (own_conf aW kp2 kp1))] [(.int (own_conf aW kp1 kp2))])
        refine Go.st (fun _ h => XS.iload X34.here hx rfl (hb hby at_92) rfl h) ?_
        show Go p e below _ T34 (mkF m 94 #[.val (.int p1), .val (.int p2), .val (.ref kp1), .val (.ref kp2), .val (.int (0 : Int32)), .val (.int (0 : Int32)), .val (.int (1 : Int32)), .val (.int (own_conf aW kp1 kp2)), .val (.int (own_conf aW kp2 kp1))] [(.int (own_conf aW kp2 kp1)), (.int (own_conf aW kp1 kp2))])
        refine Go.st (fun _ h => XS.icmpNo X34.here hx rfl (hb hby at_94) rfl ((teq (own_conf_comm _ _ _ : (own_conf aW kp1 kp2) = (own_conf aW kp2 kp1))).2) h) ?_
        show Go p e below _ T34 (mkF m 97 #[.val (.int p1), .val (.int p2), .val (.ref kp1), .val (.ref kp2), .val (.int (0 : Int32)), .val (.int (0 : Int32)), .val (.int (1 : Int32)), .val (.int (own_conf aW kp1 kp2)), .val (.int (own_conf aW kp2 kp1))] [])
        refine Go.st (fun _ h => XT.iconstV X34.here hx rfl (1 : Int32) (hb hby at_97) (by decide) h) ?_
        show Go p e below _ T34 (mkF m 98 #[.val (.int p1), .val (.int p2), .val (.ref kp1), .val (.ref kp2), .val (.int (0 : Int32)), .val (.int (0 : Int32)), .val (.int (1 : Int32)), .val (.int (own_conf aW kp1 kp2)), .val (.int (own_conf aW kp2 kp1))] [(.int (1 : Int32))])
        refine Go.st (fun _ h => XS.goto X34.here hx rfl (pc0 := 98) (pc' := 102) rfl (hb hby at_98) (by decide) (by decide) h) ?_
        show Go p e below _ T34 (mkF m 102 #[.val (.int p1), .val (.int p2), .val (.ref kp1), .val (.ref kp2), .val (.int (0 : Int32)), .val (.int (0 : Int32)), .val (.int (1 : Int32)), .val (.int (own_conf aW kp1 kp2)), .val (.int (own_conf aW kp2 kp1))] [(.int (1 : Int32))])
        refine Go.retZ X34 hx hlk hret rfl (hb hby at_102) (by decide) (by decide) ?_
        exact ⟨rfl, Fr.nil _⟩
    · refine Go.st (fun _ h => XT.acmpYes X27.here hx rfl (pc0 := 35) (pc' := 49) rfl (hb hby at_35) rfl rfl rfl ((own_ane hc28).2) (by decide) (by decide) h) ?_
      show Go p e below _ T27 (mkF m 49 #[.val (.int p1), .val (.int p2), .val (.ref kp1), .val (.ref kp2), .val (.int (0 : Int32)), .unset, .unset, .unset, .unset] [])
      refine Go.st (fun _ h => XT.iconstV X27.here hx rfl (0 : Int32) (hb hby at_49) (by decide) h) ?_
      show Go p e below _ T27 (mkF m 50 #[.val (.int p1), .val (.int p2), .val (.ref kp1), .val (.ref kp2), .val (.int (0 : Int32)), .unset, .unset, .unset, .unset] [(.int (0 : Int32))])
      refine Go.st (fun _ h => XS.istore X27.here hx rfl (hb hby at_50) rfl (l' := #[.val (.int p1), .val (.int p2), .val (.ref kp1), .val (.ref kp2), .val (.int (0 : Int32)), .val (.int (0 : Int32)), .unset, .unset, .unset]) rfl h) ?_
      show Go p e below _ T27 (mkF m 52 #[.val (.int p1), .val (.int p2), .val (.ref kp1), .val (.ref kp2), .val (.int (0 : Int32)), .val (.int (0 : Int32)), .unset, .unset, .unset] [])
      refine Go.st (fun _ h => XS.iload X27.here hx rfl (hb hby at_52) rfl h) ?_
      show Go p e below _ T27 (mkF m 54 #[.val (.int p1), .val (.int p2), .val (.ref kp1), .val (.ref kp2), .val (.int (0 : Int32)), .val (.int (0 : Int32)), .unset, .unset, .unset] [(.int (0 : Int32))])
      refine Go.st (fun _ h => XS.ifNo X27.here hx rfl (hb hby at_54) rfl (by decide) h) ?_
      show Go p e below _ T27 (mkF m 57 #[.val (.int p1), .val (.int p2), .val (.ref kp1), .val (.ref kp2), .val (.int (0 : Int32)), .val (.int (0 : Int32)), .unset, .unset, .unset] [])
      refine Go.st (fun _ h => XS.iload X27.here hx rfl (hb hby at_57) rfl h) ?_
      show Go p e below _ T27 (mkF m 59 #[.val (.int p1), .val (.int p2), .val (.ref kp1), .val (.ref kp2), .val (.int (0 : Int32)), .val (.int (0 : Int32)), .unset, .unset, .unset] [(.int (0 : Int32))])
      refine Go.st (fun _ h => XS.ifNo X27.here hx rfl (hb hby at_59) rfl (by decide) h) ?_
      show Go p e below _ T27 (mkF m 62 #[.val (.int p1), .val (.int p2), .val (.ref kp1), .val (.ref kp2), .val (.int (0 : Int32)), .val (.int (0 : Int32)), .unset, .unset, .unset] [])
      refine Go.st (fun _ h => XT.iconstV X27.here hx rfl (1 : Int32) (hb hby at_62) (by decide) h) ?_
      show Go p e below _ T27 (mkF m 63 #[.val (.int p1), .val (.int p2), .val (.ref kp1), .val (.ref kp2), .val (.int (0 : Int32)), .val (.int (0 : Int32)), .unset, .unset, .unset] [(.int (1 : Int32))])
      refine Go.st (fun _ h => XS.goto X27.here hx rfl (pc0 := 63) (pc' := 67) rfl (hb hby at_63) (by decide) (by decide) h) ?_
      show Go p e below _ T27 (mkF m 67 #[.val (.int p1), .val (.int p2), .val (.ref kp1), .val (.ref kp2), .val (.int (0 : Int32)), .val (.int (0 : Int32)), .unset, .unset, .unset] [(.int (1 : Int32))])
      refine Go.st (fun _ h => XS.istore X27.here hx rfl (hb hby at_67) rfl (l' := #[.val (.int p1), .val (.int p2), .val (.ref kp1), .val (.ref kp2), .val (.int (0 : Int32)), .val (.int (0 : Int32)), .val (.int (1 : Int32)), .unset, .unset]) rfl h) ?_
      show Go p e below _ T27 (mkF m 69 #[.val (.int p1), .val (.int p2), .val (.ref kp1), .val (.ref kp2), .val (.int (0 : Int32)), .val (.int (0 : Int32)), .val (.int (1 : Int32)), .unset, .unset] [])
      refine Go.st (fun _ h => XS.aloadN X27.here hx rfl (hb hby at_69) rfl rfl h) ?_
      show Go p e below _ T27 (mkF m 70 #[.val (.int p1), .val (.int p2), .val (.ref kp1), .val (.ref kp2), .val (.int (0 : Int32)), .val (.int (0 : Int32)), .val (.int (1 : Int32)), .unset, .unset] [(.ref kp1)])
      refine Go.st (fun _ h => XS.aloadN X27.here hx rfl (hb hby at_70) rfl rfl h) ?_
      show Go p e below _ T27 (mkF m 71 #[.val (.int p1), .val (.int p2), .val (.ref kp1), .val (.ref kp2), .val (.int (0 : Int32)), .val (.int (0 : Int32)), .val (.int (1 : Int32)), .unset, .unset] [(.ref kp2), (.ref kp1)])
      obtain ⟨T35, X35, e35, st35⟩ := own_still rfl rfl (Does.virtual (y := (⟨"ironwood/runtime/Locks$Mode", "conflicts", "(Lironwood/runtime/Locks$Mode;)Z"⟩ : MethodName)) (g := (mkF m 71 #[.val (.int p1), .val (.int p2), .val (.ref kp1), .val (.ref kp2), .val (.int (0 : Int32)), .val (.int (0 : Int32)), .val (.int (1 : Int32)), .unset, .unset] [(.ref kp2), (.ref kp1)])) (a := kp1) (rmConf l Z a0 hw kp1 kp2 aW h0 S_WRITE) X27 hx hZ hown e27 Ekp1 (hw _ (List.mem_of_getElem? (i := 10) rfl)) (hw _ (List.mem_of_getElem? (i := 11) rfl)) (hw _ (List.mem_of_getElem? (i := 13) rfl)) (hw _ (List.mem_of_getElem? (i := 12) rfl)) (hw _ (List.mem_of_getElem? (i := 6) rfl)) (hw _ (List.mem_of_getElem? (i := 14) rfl)) (by decide) rfl (by rw [hml]; rfl) (argsL := [(.ref kp2)]) (rest := []) (lenOf pd_28Lironwood2fruntime2fLocks24Mode3b29Z rfl) rfl (hb hby at_71) (W := 0) (by show 2 * 0 + _ ≤ _; exact Nat.le_of_eq rfl) (by decide) (by decide) (by decide) (by decide))
      refine Go.st st35 ?_
      show Go p e below _ T35 (mkF m 74 #[.val (.int p1), .val (.int p2), .val (.ref kp1), .val (.ref kp2), .val (.int (0 : Int32)), .val (.int (0 : Int32)), .val (.int (1 : Int32)), .unset, .unset] [(.int (own_conf aW kp1 kp2))])
      refine Go.st (fun _ h => XS.istore X35.here hx rfl (hb hby at_74) rfl (l' := #[.val (.int p1), .val (.int p2), .val (.ref kp1), .val (.ref kp2), .val (.int (0 : Int32)), .val (.int (0 : Int32)), .val (.int (1 : Int32)), .val (.int (own_conf aW kp1 kp2)), .unset]) rfl h) ?_
      show Go p e below _ T35 (mkF m 76 #[.val (.int p1), .val (.int p2), .val (.ref kp1), .val (.ref kp2), .val (.int (0 : Int32)), .val (.int (0 : Int32)), .val (.int (1 : Int32)), .val (.int (own_conf aW kp1 kp2)), .unset] [])
      refine Go.st (fun _ h => XS.aloadN X35.here hx rfl (hb hby at_76) rfl rfl h) ?_
      show Go p e below _ T35 (mkF m 77 #[.val (.int p1), .val (.int p2), .val (.ref kp1), .val (.ref kp2), .val (.int (0 : Int32)), .val (.int (0 : Int32)), .val (.int (1 : Int32)), .val (.int (own_conf aW kp1 kp2)), .unset] [(.ref kp2)])
      refine Go.st (fun _ h => XS.aloadN X35.here hx rfl (hb hby at_77) rfl rfl h) ?_
      show Go p e below _ T35 (mkF m 78 #[.val (.int p1), .val (.int p2), .val (.ref kp1), .val (.ref kp2), .val (.int (0 : Int32)), .val (.int (0 : Int32)), .val (.int (1 : Int32)), .val (.int (own_conf aW kp1 kp2)), .unset] [(.ref kp1), (.ref kp2)])
      obtain ⟨T36, X36, e36, st36⟩ := own_still rfl rfl (Does.virtual (y := (⟨"ironwood/runtime/Locks$Mode", "conflicts", "(Lironwood/runtime/Locks$Mode;)Z"⟩ : MethodName)) (g := (mkF m 78 #[.val (.int p1), .val (.int p2), .val (.ref kp1), .val (.ref kp2), .val (.int (0 : Int32)), .val (.int (0 : Int32)), .val (.int (1 : Int32)), .val (.int (own_conf aW kp1 kp2)), .unset] [(.ref kp1), (.ref kp2)])) (a := kp2) (rmConf l Z a0 hw kp2 kp1 aW h0 S_WRITE) X35 hx hZ hown e35 Ekp2 (hw _ (List.mem_of_getElem? (i := 10) rfl)) (hw _ (List.mem_of_getElem? (i := 11) rfl)) (hw _ (List.mem_of_getElem? (i := 13) rfl)) (hw _ (List.mem_of_getElem? (i := 12) rfl)) (hw _ (List.mem_of_getElem? (i := 6) rfl)) (hw _ (List.mem_of_getElem? (i := 14) rfl)) (by decide) rfl (by rw [hml]; rfl) (argsL := [(.ref kp1)]) (rest := []) (lenOf pd_28Lironwood2fruntime2fLocks24Mode3b29Z rfl) rfl (hb hby at_78) (W := 0) (by show 2 * 0 + _ ≤ _; exact Nat.le_of_eq rfl) (by decide) (by decide) (by decide) (by decide))
      refine Go.st st36 ?_
      show Go p e below _ T36 (mkF m 81 #[.val (.int p1), .val (.int p2), .val (.ref kp1), .val (.ref kp2), .val (.int (0 : Int32)), .val (.int (0 : Int32)), .val (.int (1 : Int32)), .val (.int (own_conf aW kp1 kp2)), .unset] [(.int (own_conf aW kp2 kp1))])
      refine Go.st (fun _ h => XS.istore X36.here hx rfl (hb hby at_81) rfl (l' := #[.val (.int p1), .val (.int p2), .val (.ref kp1), .val (.ref kp2), .val (.int (0 : Int32)), .val (.int (0 : Int32)), .val (.int (1 : Int32)), .val (.int (own_conf aW kp1 kp2)), .val (.int (own_conf aW kp2 kp1))]) rfl h) ?_
      show Go p e below _ T36 (mkF m 83 #[.val (.int p1), .val (.int p2), .val (.ref kp1), .val (.ref kp2), .val (.int (0 : Int32)), .val (.int (0 : Int32)), .val (.int (1 : Int32)), .val (.int (own_conf aW kp1 kp2)), .val (.int (own_conf aW kp2 kp1))] [])
      refine Go.st (fun _ h => XS.iload X36.here hx rfl (hb hby at_83) rfl h) ?_
      show Go p e below _ T36 (mkF m 85 #[.val (.int p1), .val (.int p2), .val (.ref kp1), .val (.ref kp2), .val (.int (0 : Int32)), .val (.int (0 : Int32)), .val (.int (1 : Int32)), .val (.int (own_conf aW kp1 kp2)), .val (.int (own_conf aW kp2 kp1))] [(.int (own_conf aW kp1 kp2))])
      refine Go.st (fun _ h => XS.iload X36.here hx rfl (hb hby at_85) rfl h) ?_
      show Go p e below _ T36 (mkF m 87 #[.val (.int p1), .val (.int p2), .val (.ref kp1), .val (.ref kp2), .val (.int (0 : Int32)), .val (.int (0 : Int32)), .val (.int (1 : Int32)), .val (.int (own_conf aW kp1 kp2)), .val (.int (own_conf aW kp2 kp1))] [(.int (1 : Int32)), (.int (own_conf aW kp1 kp2))])
      refine Go.st (fun _ h => XS.icmpNo X36.here hx rfl (hb hby at_87) rfl ((teq (own_conf1 m1 (fun q => hc4 q.1) (fun q => hc28 q.1) : (own_conf aW kp1 kp2) = (1 : Int32))).2) h) ?_
      show Go p e below _ T36 (mkF m 90 #[.val (.int p1), .val (.int p2), .val (.ref kp1), .val (.ref kp2), .val (.int (0 : Int32)), .val (.int (0 : Int32)), .val (.int (1 : Int32)), .val (.int (own_conf aW kp1 kp2)), .val (.int (own_conf aW kp2 kp1))] [])
      refine Go.st (fun _ h => XS.iload X36.here hx rfl (hb hby at_90) rfl h) ?_
      show Go p e below _ T36 (mkF m 92 #[.val (.int p1), .val (.int p2), .val (.ref kp1), .val (.ref kp2), .val (.int (0 : Int32)), .val (.int (0 : Int32)), .val (.int (1 : Int32)), .val (.int (own_conf aW kp1 kp2)), .val (.int (own_conf aW kp2 kp1))] [(.int (own_conf aW kp1 kp2))])
      refine Go.st (fun _ h => XS.iload X36.here hx rfl (hb hby at_92) rfl h) ?_
      show Go p e below _ T36 (mkF m 94 #[.val (.int p1), .val (.int p2), .val (.ref kp1), .val (.ref kp2), .val (.int (0 : Int32)), .val (.int (0 : Int32)), .val (.int (1 : Int32)), .val (.int (own_conf aW kp1 kp2)), .val (.int (own_conf aW kp2 kp1))] [(.int (own_conf aW kp2 kp1)), (.int (own_conf aW kp1 kp2))])
      refine Go.st (fun _ h => XS.icmpNo X36.here hx rfl (hb hby at_94) rfl ((teq (own_conf_comm _ _ _ : (own_conf aW kp1 kp2) = (own_conf aW kp2 kp1))).2) h) ?_
      show Go p e below _ T36 (mkF m 97 #[.val (.int p1), .val (.int p2), .val (.ref kp1), .val (.ref kp2), .val (.int (0 : Int32)), .val (.int (0 : Int32)), .val (.int (1 : Int32)), .val (.int (own_conf aW kp1 kp2)), .val (.int (own_conf aW kp2 kp1))] [])
      refine Go.st (fun _ h => XT.iconstV X36.here hx rfl (1 : Int32) (hb hby at_97) (by decide) h) ?_
      show Go p e below _ T36 (mkF m 98 #[.val (.int p1), .val (.int p2), .val (.ref kp1), .val (.ref kp2), .val (.int (0 : Int32)), .val (.int (0 : Int32)), .val (.int (1 : Int32)), .val (.int (own_conf aW kp1 kp2)), .val (.int (own_conf aW kp2 kp1))] [(.int (1 : Int32))])
      refine Go.st (fun _ h => XS.goto X36.here hx rfl (pc0 := 98) (pc' := 102) rfl (hb hby at_98) (by decide) (by decide) h) ?_
      show Go p e below _ T36 (mkF m 102 #[.val (.int p1), .val (.int p2), .val (.ref kp1), .val (.ref kp2), .val (.int (0 : Int32)), .val (.int (0 : Int32)), .val (.int (1 : Int32)), .val (.int (own_conf aW kp1 kp2)), .val (.int (own_conf aW kp2 kp1))] [(.int (1 : Int32))])
      refine Go.retZ X36 hx hlk hret rfl (hb hby at_102) (by decide) (by decide) ?_
      exact ⟨rfl, Fr.nil _⟩
set_option maxRecDepth 65536 in
set_option maxHeartbeats 40000000 in
theorem comes_1 {Post : Tables → Env → Array Value → State → Outcome → State → Prop} (hpost : ∀ tb e args s v u, (limb_1_1.after args s (.returned v) u = true ∧ limb_1_2.after args s (.returned v) u = true ∧ True) → FrameEnd s (.returned v) u (Jvm.fieldLocs frame_1_writes args s ++ Jvm.arrayLocs frame_1_arrays args s ++ Jvm.staticLocs frame_1_statics s) 0 0 → Post tb e args s (.returned v) u) :
    ArmFor flags0 classFile x code maxLocals ret World_1 tables_1 room_1 Calls_1 rest_1 Pre_1 Post := by
  intro l hfl _ _ p e ha hc hk s m args below hf hA hF happ hP
  obtain ⟨hcalls, hrest, hpre⟩ := hP
  obtain ⟨-, -, -, hnamed, -, -, -, hat⟩ := (Spec.applies_iff hf).mp happ
  obtain ⟨hg, hn⟩ := and_e (Cond.before_iff.mp (show (Jvm.Cond.and given_1 narrow_1).before args s = true from hpre))
  obtain ⟨g0, hg⟩ := and_e hg
  obtain ⟨g1, hg⟩ := and_e hg
  obtain ⟨w0, w1, rfl⟩ : ∃ w0 w1 : Value, args = #[w0, w1] := by
    have hs : args.size = 2 := by simpa [Cond.value, given_1] using g0
    obtain ⟨L⟩ := args
    match L, hs with
    | [w0, w1], _ => exact ⟨w0, w1, rfl⟩
  have hw := fun d (hd : d ∈ tables_1) => atoms_spec (ws := Jvm.Cond.code x code maxLocals ret :: tables_1) hat d (List.mem_cons_of_mem _ hd)
  have hfit : Fit s := fun {y c} hc i hi => by
    obtain ⟨ha, rfl⟩ := Array.getElem?_eq_some_iff.mp hc
    have q := List.all_eq_true.mp ((Array.all_eq_true_iff_forall_mem.mp hF) _ (Array.getElem_mem ha)) i (List.mem_range.mpr hi)
    simpa [Array.getElem?_eq_getElem hi] using q
  obtain ⟨i0, q0⟩ := is_v g1
  obtain rfl : w0 = (.int i0) := Option.some.inj q0
  obtain ⟨i1, q1⟩ := is_v hg
  obtain rfl : w1 = (.int i1) := Option.some.inj q1
  obtain ⟨x1, hn⟩ := and_e hn
  obtain ⟨x2, hn⟩ := and_e hn
  obtain ⟨x3, hn⟩ := and_e hn
  obtain ⟨x4, hn⟩ := and_e hn
  obtain ⟨x5, x6⟩ := and_e hn
  obtain ⟨aR, v1, S1, E1⟩ := own_sta x1 (hw _ (List.mem_of_getElem? (i := 6) rfl)) (hw _ (List.mem_of_getElem? (i := 7) rfl))
  obtain ⟨aC, v2, S2, E2⟩ := own_sta x2 (hw _ (List.mem_of_getElem? (i := 6) rfl)) (hw _ (List.mem_of_getElem? (i := 9) rfl))
  obtain ⟨aW, v3, S3, E3⟩ := own_sta x5 (hw _ (List.mem_of_getElem? (i := 6) rfl)) (hw _ (List.mem_of_getElem? (i := 16) rfl))
  have F1 := own_fldI v1 x3
  have F2 := own_fldI v2 x4
  have F3 := own_fldI v3 x6
  obtain ⟨n, o, h1, h2, h3, v, L, rfl, hP, hq⟩ := rmLaw l s _ hw i0 i1 aR aC aW s.heap s.heap.size S1 E1 S2 E2 S3 E3 (Fld.ne F1 F2 (by decide)) (Fld.ne F1 F3 (by decide)) (Fld.ne F2 F3 (by decide)) p e ha hc hk s m _ below hf ((Spec.applies_iff_loose hf).mp happ).1 ⟨rfl, State.Warmed39.refl s, rfl⟩ trivial
  obtain ⟨rfl, N⟩ := hP
  refine ⟨n, _, h1, h2, h3, hpost _ _ _ _ _ _ ⟨Cond.after_iff.mpr rfl, Cond.after_iff.mpr (eq_i res_at (Term.int_eval (1)) rfl), trivial⟩ ⟨hq.1, hq.2.1, (hq.2.2.sift fun y hy => Or.inr (N y hy)).mono (by decide) (by decide)⟩⟩
theorem main_1_1 : Claimed_1_1 := comes_1 fun _ _ _ _ _ _ h hF => ⟨h.1, hF⟩
theorem main_1_2 : Claimed_1_2 := comes_1 fun _ _ _ _ _ _ h hF => ⟨h.2.1, hF⟩
end Jvm.Pilot.@@N@@
namespace Jvm.Pilot.@@N@@
open Jvm Jvm.ClassFile Sem Op Lib Jvm.Free Jvm.Stand Jvm.Pilot.@@N@@.Jvm.D
/-! MADE BY PROGRAM (witnessworld.py) out of the Statement's table words and the real class files: 12 classes; the members and pool entries that the words name. The judged class is class 1, her method 2. -/
namespace start1
open Jvm.ClassFile
def u (s : String) : CpInfo := .utf8 (stringToUtf16 s)
/-- a pool by its gaps: so many unusable entries, then the entry; so many at the end -/
def gap : Nat → List CpInfo → List CpInfo
  | 0, r => r
  | n + 1, r => .unusable :: gap n r
def poolList (es : List (Nat × CpInfo)) (last : Nat) : List CpInfo := es.foldr (fun e r => gap e.1 (e.2 :: r)) (gap last [])
def pool (es : List (Nat × CpInfo)) (last : Nat) : Array CpInfo := ⟨poolList es last⟩
def fileOf (pool : Array CpInfo) (this : Nat) (attrs : Array Attribute := #[]) (ms : Array MethodInfo := #[]) (fl : Nat := 33) (sup : Nat := 0) (ifs : Array Nat := #[]) (fds : Array FieldInfo := #[]) : ClassFile where
  minorVersion := 0
  majorVersion := 65
  constantPool := pool
  accessFlags := fl
  thisClass := this
  superClass := sup
  interfaces := ifs
  fields := fds
  methods := ms
  attributes := attrs
def plain (name : String) (sup : Option ClassId) : Class where
  name := name
  kind := .ordinary
  loader := none
  accessFlags := 33
  super := sup
  interfaces := #[]
  cf := none
  fields := #[]
  methods := #[]
  instanceTypes := #[]
  staticTypes := #[]
  resolved := #[]
  callSites := []
  init := .initialized
  statics := none
  mirror := none

def pool0 : Array CpInfo := pool [(5, u "<init>"), (0, u "()V"), (1, .class_ 10), (1, u "java/lang/Object")] 113

def k0m0 : Method := { name := "<init>", desc := "()V", sig := { parameters := [], returnType := none }, accessFlags := 1, code := none }
/-- java/lang/Object -/
def k0 : Class := { plain "java/lang/Object" none with
  accessFlags := 33
  interfaces := #[]
  cf := some (fileOf pool0 8 #[] #[{ accessFlags := 1, nameIndex := 5, descriptorIndex := 6, attributes := #[] }] 33 0 #[] #[])
  fields := #[]
  methods := #[k0m0]
  instanceTypes := #[]
  staticTypes := #[]
  resolved := Array.replicate 124 none
  statics := none }

def pool1 : Array CpInfo := pool [(2, .class_ 4), (1, u "java/lang/Object"), (0, u "<init>"), (0, u "()V"), (0, .integer 2147483647), (0, .fieldref 9 10), (0, .class_ 11), (0, .nameAndType 12 13), (0, u "ironwood/runtime/Locks$Mode"), (0, u "READ"), (0, u "Lironwood/runtime/Locks$Mode;"), (0, .fieldref 9 15), (0, .nameAndType 16 13), (0, u "COMMUTE"), (0, .fieldref 9 18), (0, .nameAndType 19 13), (0, u "WRITE"), (0, .methodref 21 22), (0, .class_ 23), (0, .nameAndType 24 25), (0, u "ironwood/runtime/ModeConflictsPinLaw"), (0, u "pick"), (0, u "(I)Lironwood/runtime/Locks$Mode;"), (0, .methodref 9 27), (0, .nameAndType 28 29), (0, u "conflicts"), (0, u "(Lironwood/runtime/Locks$Mode;)Z"), (3, u "law"), (0, u "(II)Z")] 6

def k1m0 : Method := { name := "<init>", desc := "()V", sig := { parameters := [], returnType := none }, accessFlags := 1, code := none }
def k1c1 : Code := { maxStack := 2, maxLocals := 2, code := method_2_code, exceptionTable := #[], attributes := #[] }
def k1m1 : Method := { name := "pick", desc := "(I)Lironwood/runtime/Locks$Mode;", sig := { parameters := [.int], returnType := some (.object "ironwood/runtime/Locks$Mode") }, accessFlags := 10, code := some k1c1 }
def k1c2 : Code := { maxStack := 2, maxLocals := 9, code := code, exceptionTable := #[], attributes := #[] }
def k1m2 : Method := { name := "law", desc := "(II)Z", sig := { parameters := [.int, .int], returnType := some .boolean }, accessFlags := 9, code := some k1c2 }
/-- ironwood/runtime/ModeConflictsPinLaw -/
def k1 : Class := { plain "ironwood/runtime/ModeConflictsPinLaw" (some 0) with
  accessFlags := 49
  interfaces := #[]
  cf := some (fileOf pool1 21 #[] #[{ accessFlags := 1, nameIndex := 5, descriptorIndex := 6, attributes := #[] }, { accessFlags := 10, nameIndex := 24, descriptorIndex := 25, attributes := #[] }, { accessFlags := 9, nameIndex := 33, descriptorIndex := 34, attributes := #[] }] 49 2 #[] #[])
  fields := #[]
  methods := #[k1m0, k1m1, k1m2]
  instanceTypes := #[]
  staticTypes := #[]
  resolved := Array.replicate 41 none
  statics := none }

def pool2 : Array CpInfo := pool [(1, .class_ 2), (0, u "java/lang/constant/Constable"), (0, .class_ 4), (0, u "java/lang/Object")] 6

/-- java/lang/constant/Constable -/
def k2 : Class := { plain "java/lang/constant/Constable" (some 0) with
  accessFlags := 1537
  interfaces := #[]
  cf := some (fileOf pool2 1 #[] #[] 1537 3 #[] #[])
  fields := #[]
  methods := #[]
  instanceTypes := #[]
  staticTypes := #[]
  resolved := Array.replicate 11 none
  statics := none }

def pool3 : Array CpInfo := pool [(1, .class_ 2), (0, u "java/lang/Comparable"), (0, .class_ 4), (0, u "java/lang/Object")] 7

/-- java/lang/Comparable -/
def k3 : Class := { plain "java/lang/Comparable" (some 0) with
  accessFlags := 1537
  interfaces := #[]
  cf := some (fileOf pool3 1 #[] #[] 1537 3 #[] #[])
  fields := #[]
  methods := #[]
  instanceTypes := #[]
  staticTypes := #[]
  resolved := Array.replicate 12 none
  statics := none }

def pool4 : Array CpInfo := pool [(1, .class_ 2), (0, u "java/io/Serializable"), (0, .class_ 4), (0, u "java/lang/Object")] 2

/-- java/io/Serializable -/
def k4 : Class := { plain "java/io/Serializable" (some 0) with
  accessFlags := 1537
  interfaces := #[]
  cf := some (fileOf pool4 1 #[] #[] 1537 3 #[] #[])
  fields := #[]
  methods := #[]
  instanceTypes := #[]
  staticTypes := #[]
  resolved := Array.replicate 7 none
  statics := none }

def pool5 : Array CpInfo := pool [(2, .class_ 4), (1, u "java/lang/Enum"), (0, u "name"), (0, u "Ljava/lang/String;"), (2, u "ordinal"), (0, u "I"), (1, .class_ 14), (1, u "java/lang/Object"), (4, u "hash"), (86, .class_ 108), (1, u "java/lang/Enum$EnumDesc"), (2, .class_ 112), (0, u "java/lang/constant/Constable"), (0, .class_ 114), (0, u "java/lang/Comparable"), (0, .class_ 116), (0, u "java/io/Serializable")] 87

/-- java/lang/Enum -/
def k5 : Class := { plain "java/lang/Enum" (some 0) with
  accessFlags := 1057
  interfaces := #[2, 3, 4]
  cf := some (fileOf pool5 2 #[.nestMembers #[106]] #[] 1057 12 #[111, 113, 115] #[{ accessFlags := 18, nameIndex := 5, descriptorIndex := 6, attributes := #[] }, { accessFlags := 18, nameIndex := 9, descriptorIndex := 10, attributes := #[] }, { accessFlags := 2, nameIndex := 19, descriptorIndex := 10, attributes := #[] }])
  fields := #[{ name := "name", type := (.object "java/lang/String"), accessFlags := 18, slot := 0, constantValue := 0 }, { name := "ordinal", type := .int, accessFlags := 18, slot := 1, constantValue := 0 }, { name := "hash", type := .int, accessFlags := 2, slot := 2, constantValue := 0 }]
  methods := #[]
  instanceTypes := #[(.object "java/lang/String"), .int, .int]
  staticTypes := #[]
  resolved := Array.replicate 204 none
  statics := none }

def pool6 : Array CpInfo := pool [(1, .class_ 2), (0, u "ironwood/runtime/Locks$Mode"), (2, u "READ"), (0, u "Lironwood/runtime/Locks$Mode;"), (2, u "COMMUTE"), (0, .fieldref 1 11), (0, .nameAndType 12 6), (0, u "WRITE"), (2, u "$VALUES"), (0, u "[Lironwood/runtime/Locks$Mode;"), (6, .class_ 25), (1, u "java/lang/Enum"), (16, u "conflicts"), (0, u "(Lironwood/runtime/Locks$Mode;)Z"), (23, .class_ 68), (0, u "ironwood/runtime/Locks")] 2

def k6c0 : Code := { maxStack := 2, maxLocals := 2, code := prog_80_method_4_code, exceptionTable := #[], attributes := #[] }
def k6m0 : Method := { name := "conflicts", desc := "(Lironwood/runtime/Locks$Mode;)Z", sig := { parameters := [(.object "ironwood/runtime/Locks$Mode")], returnType := some .boolean }, accessFlags := 0, code := some k6c0 }
/-- ironwood/runtime/Locks$Mode -/
def k6 : Class := { plain "ironwood/runtime/Locks$Mode" (some 5) with
  accessFlags := 16432
  interfaces := #[]
  cf := some (fileOf pool6 1 #[.nestHost 67] #[{ accessFlags := 0, nameIndex := 42, descriptorIndex := 43, attributes := #[] }] 16432 23 #[] #[{ accessFlags := 16409, nameIndex := 5, descriptorIndex := 6, attributes := #[] }, { accessFlags := 16409, nameIndex := 9, descriptorIndex := 6, attributes := #[] }, { accessFlags := 16409, nameIndex := 12, descriptorIndex := 6, attributes := #[] }, { accessFlags := 4122, nameIndex := 15, descriptorIndex := 16, attributes := #[] }])
  fields := #[{ name := "READ", type := (.object "ironwood/runtime/Locks$Mode"), accessFlags := 16409, slot := 0, constantValue := 0 }, { name := "COMMUTE", type := (.object "ironwood/runtime/Locks$Mode"), accessFlags := 16409, slot := 1, constantValue := 0 }, { name := "WRITE", type := (.object "ironwood/runtime/Locks$Mode"), accessFlags := 16409, slot := 2, constantValue := 0 }, { name := "$VALUES", type := (.array (.object "ironwood/runtime/Locks$Mode")), accessFlags := 4122, slot := 3, constantValue := 0 }]
  methods := #[k6m0]
  instanceTypes := #[(.object "java/lang/String"), .int, .int]
  staticTypes := #[(.object "ironwood/runtime/Locks$Mode"), (.object "ironwood/runtime/Locks$Mode"), (.object "ironwood/runtime/Locks$Mode"), (.array (.object "ironwood/runtime/Locks$Mode"))]
  resolved := Array.replicate 71 none
  statics := some 0 }

def pool7 : Array CpInfo := pool [(1, u "java/lang/Cloneable"), (0, .class_ 1), (0, u "java/lang/Object"), (0, .class_ 3)] 3

/-- java/lang/Cloneable -/
def k7 : Class := { plain "java/lang/Cloneable" (some 0) with
  accessFlags := 1537
  interfaces := #[]
  cf := some (fileOf pool7 2 #[] #[] 1537 4 #[] #[])
  fields := #[]
  methods := #[]
  instanceTypes := #[]
  staticTypes := #[]
  resolved := Array.replicate 8 none
  statics := none }

/-- the primitive byte -/
def k8 : Class := { plain "byte" none with kind := .primitive 'B', accessFlags := 0x411 }
/-- [B -/
def k9 : Class := { plain "[B" (some 0) with kind := .array 8 .byte, interfaces := #[7, 4], accessFlags := 1041 }

/-- the primitive int -/
def k10 : Class := { plain "int" none with kind := .primitive 'I', accessFlags := 0x411 }
/-- [I -/
def k11 : Class := { plain "[I" (some 0) with kind := .array 10 .int, interfaces := #[7, 4], accessFlags := 1041 }

def heap : Heap := #[{ cls := 6, slots := #[.ref 1, .ref 2, .ref 3, .null], vm := .statics 6 },
  { cls := 6, slots := #[.null, .int 0, .int 0], vm := .none },
  { cls := 6, slots := #[.null, .int 1, .int 0], vm := .none },
  { cls := 6, slots := #[.null, .int 2, .int 0], vm := .none }]
def classes : Array Class := #[k0, k1, k2, k3, k4, k5, k6, k7, k8, k9, k10, k11]
def interned : List (Array UInt16 × Addr) := []
def slotsUsed : Nat := 13
def theMethod : MethodId := ⟨1, 2⟩
def args0 : Array Value := #[.int 5, .int 6]
def aboutOver (below : List Frame) : State where
  vm := { classes := classes, interned := interned.toArray }
  heap := heap
  slotsUsed := slotsUsed
  threads := #[{ frames := .invoking theMethod args0 :: below }]
def below0 : List Frame := [.native { method := ⟨0, 0⟩, args := #[] }]
def about1 : State := aboutOver below0
def p0 : Program := .bare "" "" ""
def e0 : Env := launch0.env 0 0 0
theorem w_frames : about1.frames = Frame.invoking theMethod args0 :: below0 := rfl
set_option maxRecDepth 65536 in
theorem w_args : argsFit about1.vm theMethod args0 = true := by decide +kernel
set_option maxRecDepth 65536 in
theorem w_heap : heapFits about1 = true := by decide +kernel
set_option maxRecDepth 65536 in
theorem w_runnable : about1.curStatus? = some .runnable := by decide +kernel
set_option maxRecDepth 65536 in
theorem w_alone : about1.alone = true := by decide +kernel
set_option maxRecDepth 65536 in
theorem w_named : about1.methodNamed? x = some theMethod := by decide +kernel
set_option maxRecDepth 65536 in
theorem w_hears : about1.hears theMethod below0 = true := by decide +kernel
set_option maxRecDepth 65536 in
theorem w_ripe : about1.ripe theMethod args0 below0 = true := by decide +kernel
theorem w_running : about1.status = .running := rfl
set_option maxRecDepth 65536 in
theorem w_room : about1.hasRoom e0.platform room_1 = true :=
  launch0.hasRoom_least _ room_1 (by decide +kernel) (by decide +kernel) (by decide +kernel) (by decide +kernel) (by decide +kernel) (by decide +kernel)
theorem allAtoms_all (ts : List Jvm.Cond) (a : Array Jvm.Value) (st : Jvm.State) : (allAtoms ts).before a st = ts.all (fun c => c.before a st) := by
  induction ts with
  | nil => rfl
  | cons c t ih =>
    show (Jvm.Cond.and c (allAtoms t)).before a st = _
    rw [Jvm.Cond.before_and, ih, List.all_cons]
def words1 : List Jvm.Cond := Jvm.Cond.code x code maxLocals ret :: tables_1
/-- a 'code' word, met by the world's own term for the bytes: nothing is compared byte by byte -/
theorem code_word {y : MethodName} {bytes : ByteArray} {mx : Nat} {rt : Option FieldType} {a : Array Value} {s : State} {m : MethodId} {meth : Method} {c : Code} (h1 : s.methodNamed? y = some m) (h2 : s.vm.method? m = some meth) (h3 : meth.code = some c) (h4 : c.code = bytes)
    (h5 : (c.maxLocals == mx && c.exceptionTable.isEmpty && decide (c.maxStack ≤ mostOperands) && decide (meth.sig.returnType = rt) && !meth.locks && decide (parseMethodDescriptor y.desc = some meth.sig)) = true) : (Jvm.Cond.code y bytes mx rt).before a s = true := by
  simp only [Bool.and_eq_true, beq_iff_eq, Bool.not_eq_true', decide_eq_true_eq] at h5
  obtain ⟨⟨⟨⟨⟨g1, g2⟩, g3⟩, g4⟩, g5⟩, g6⟩ := h5
  simp [Cond.before, Cond.holds, Cond.value, h1, h2, h3, h4, g1, g2, g3, g4, g5, g6]
def isCode : Jvm.Cond → Bool
  | .code _ _ _ _ => true
  | _ => false
theorem all_split {L : List Jvm.Cond} {P : Jvm.Cond → Bool} (h1 : L.all (fun c => isCode c || P c) = true) (h2 : ∀ c ∈ L.filter isCode, P c = true) : L.all P = true := by
  refine List.all_eq_true.mpr fun c hc => ?_
  have h := List.all_eq_true.mp h1 c hc
  rcases Bool.eq_false_or_eq_true (isCode c) with hi | hi
  · exact h2 c (List.mem_filter.mpr ⟨hc, hi⟩)
  · simpa [hi] using h
set_option maxRecDepth 65536 in
theorem w_c0 : (Jvm.Cond.code x code maxLocals ret).before args0 about1 = true := code_word (m := ⟨1, 2⟩) (meth := k1m2) (c := k1c2) (by decide +kernel) rfl rfl rfl (by decide +kernel)
set_option maxRecDepth 65536 in
theorem w_c1 : (Jvm.Cond.code ({ cls := "ironwood/runtime/ModeConflictsPinLaw", name := "pick", desc := "(I)Lironwood/runtime/Locks$Mode;" } : Jvm.MethodName) method_2_code (2 : Nat) (Option.some (Jvm.ClassFile.FieldType.object "ironwood/runtime/Locks$Mode"))).before args0 about1 = true := code_word (m := ⟨1, 1⟩) (meth := k1m1) (c := k1c1) (by decide +kernel) rfl rfl rfl (by decide +kernel)
set_option maxRecDepth 65536 in
theorem w_c2 : (Jvm.Cond.code ({ cls := "ironwood/runtime/Locks$Mode", name := "conflicts", desc := "(Lironwood/runtime/Locks$Mode;)Z" } : Jvm.MethodName) prog_80_method_4_code (2 : Nat) (Option.some Jvm.ClassFile.FieldType.boolean)).before args0 about1 = true := code_word (m := ⟨6, 0⟩) (meth := k6m0) (c := k6c0) (by decide +kernel) rfl rfl rfl (by decide +kernel)
def codes1 : List Jvm.Cond := [Jvm.Cond.code x code maxLocals ret, Jvm.Cond.code ({ cls := "ironwood/runtime/ModeConflictsPinLaw", name := "pick", desc := "(I)Lironwood/runtime/Locks$Mode;" } : Jvm.MethodName) method_2_code (2 : Nat) (Option.some (Jvm.ClassFile.FieldType.object "ironwood/runtime/Locks$Mode")), Jvm.Cond.code ({ cls := "ironwood/runtime/Locks$Mode", name := "conflicts", desc := "(Lironwood/runtime/Locks$Mode;)Z" } : Jvm.MethodName) prog_80_method_4_code (2 : Nat) (Option.some Jvm.ClassFile.FieldType.boolean)]
set_option maxRecDepth 65536 in
theorem codes_eq : words1.filter isCode = codes1 := rfl
theorem w_codes : ∀ c ∈ words1.filter isCode, c.before args0 about1 = true := by
  rw [codes_eq]
  intro c hc
  simp only [codes1, List.mem_cons, List.not_mem_nil, or_false] at hc
  rcases hc with rfl | rfl | rfl
  · exact w_c0
  · exact w_c1
  · exact w_c2
set_option maxRecDepth 65536 in
theorem w_t1 : words1.all (fun c => isCode c || c.before args0 about1) = true := by decide +kernel
theorem w_tables : (allAtoms (Jvm.Cond.code x code maxLocals ret :: tables_1)).before args0 about1 = true := by
  rw [allAtoms_all]
  show words1.all (fun c => c.before args0 about1) = true
  refine all_split ?_ w_codes
  rw [w_t1]
set_option maxRecDepth 65536 in
theorem w_case : (Jvm.Cond.and given_1 narrow_1).before args0 about1 = true := by decide +kernel
theorem w_applies : (headSpec (Jvm.Cond.code x code maxLocals ret :: tables_1) room_1).applies x e0.platform about1 = true :=
  (Spec.applies_iff w_frames).mpr ⟨w_running, w_runnable, w_alone, w_named, w_hears, w_ripe, w_room, w_tables⟩
theorem atStart : AtStart classFile x code maxLocals ret World_1 tables_1 room_1 Calls_1 rest_1 Pre_1 launch0 p0 e0 about1 theMethod args0 below0 :=
  ⟨lists_1, trivial, launch0.admits_env _ _ _, launch0.least_env, fairChoices_fair.cas, fairChoices_fair.clock, w_frames, w_args, w_heap, w_applies, trivial, trivial, w_case⟩
end start1
theorem witness_1 : WitnessClaimed_1 := ⟨start1.p0, start1.e0, start1.about1, start1.theMethod, start1.args0, start1.below0, start1.atStart⟩
end Jvm.Pilot.@@N@@
